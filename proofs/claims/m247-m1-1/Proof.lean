import JvmDerived
import JvmDerived.Pilot.@@N@@Statement
import JvmDerived.Pilot.@@N@@Code
set_option linter.unusedVariables false
set_option linter.unusedSimpArgs false
namespace Jvm.RoadKit
open Sem ClassFile Op Lib Jvm.Stand Jvm.Free Jvm.LawKit
section New
variable {p : Program} {l : Launch} {e : Env} {R : Room} {s : State} {m : MethodId} {args : Array Value} {below : List Frame} {meth : Method} {c : Code} {T : State} {locs : List Loc} {cells slots : Nat}
theorem retI (X : Stand p l e R s m args below meth c T locs cells slots) (hx : p.tables.exec = Jvm.exec) {pc : Nat} {Ls : Array Slot} {z : Int32} {rest : List Value} (hret : meth.sig.returnType = some .int) (hd : decode c.code pc = .ok (.ireturn, 1)) {fs : List Frame}
    (hl : ∀ (f : JFrame) (acts : List Action), f.method = m → f.locked = none → f.entered = [] → (doReturn e (T.setTop f) acts (some (.int z))).1 = T.setFrames fs) : Steps p.tables e below (T.setTop (mkF m pc Ls (.int z :: rest))) (T.setFrames fs) := by
  have hm' : T.vm.method? m = some meth := X.method'
  have hn : narrow .int (.int z) = .int z := rfl
  show Steps p.tables e below (T.setTop { method := m, pc := pc, locals := Ls, stack := _ :: rest, locked := none }) _
  jvm_step X.here [X.here.top, hx, hd, hm', hret, hn]
  first | (intro acts; rw [hl _ acts rfl rfl rfl]) | rw [hl _ _ rfl rfl rfl]
  exact Steps.refl _
end New
end Jvm.RoadKit
namespace Jvm.Pilot.@@N@@
open Jvm Jvm.ClassFile Sem Op Lib Jvm.Free Jvm.Stand Jvm.LawKit Jvm.RoadKit Bundle Jvm.Pilot.@@N@@.Jvm.D
theorem own_z0 {Z : State} {n0 : Nat} {h : Heap} (X : Old Z n0 h) : n0 ≤ h.size := X.1 ▸ X.2.1
theorem own_insKeep {Z : State} {h h' : Heap} {ws : List Addr} {a : Addr} {C : String} (F : Ins Z h a C true) (K : Keep h h' ws) : Ins Z h' a C true := by
  obtain ⟨cell, cT, h1, h2, h3⟩ := F
  obtain ⟨c', q, r1, r2, r3⟩ := K.2.2 a cell h1
  exact ⟨c', cT, q, h2, by rw [r1, r2]; exact h3⟩
theorem own_neArv {Z : State} {h : Heap} {a b : Addr} {C : String} {a0 : Array Value} {k : Nat} {kk : ClassId} {ty : FieldType} {z : Int32} {vs : List Value} {d : Value} (F : Exa Z h a C) (wi : (Cond.instantiable C k).before a0 Z = true) (G : Arv Z h b kk ty z vs d) : a ≠ b := by
  obtain ⟨c, A, -⟩ := G
  exact ne_arr F wi A
theorem own_mvM {Z s : State} {a0 args : Array Value} {own host : String} {index : Nat} {y : MethodName} (hZ : Z.Warmed39 s.vm) (w : (Cond.methodLinkNest own index y host).before a0 Z = true) : (Cond.methodLinkNest own index y host).before args s = true := (Cond.methodLinkNest_wide hZ w :)
theorem own_eqI {args : Array Value} {s : State} {t : Term} {k : Int32} (h : (Jvm.Cond.eq t (Jvm.Term.int k)).value args s none s [] = some true) : t.eval args s none [] s = some (.int k) := by
  obtain ⟨x, y, e1, e2, k1, k2⟩ := cmp_v (Or.inl h)
  have e3 : y = .int k := (Option.some.inj e2).symm
  subst e3
  obtain ⟨z, rfl⟩ : ∃ z, x = .int z := k2
  rw [e1, gotT (Cond.eq_ints e1 (Term.int_eval k)) h]
theorem own_fldI {args : Array Value} {s : State} {t : Term} {a : Addr} {C n d : String} {k : Int32} (ev : t.eval args s none [] s = some (.ref a)) (h : (Jvm.Cond.eq (Jvm.Term.field t C n d) (Jvm.Term.int k)).value args s none s [] = some true) : Fld s s.heap a C n d (.int k) := Fld.start ((fld_at ev).symm.trans (own_eqI h))
theorem own_len {args : Array Value} {s : State} {t : Term} {a : Addr} {cl : Cell} {k : Int32} (ev : t.eval args s none [] s = some (.ref a)) (hc : s.heap[a]? = some cl) (h : (Jvm.Cond.eq (Jvm.Term.length t) (Jvm.Term.int k)).value args s none s [] = some true) : cl.slots.size < 2 ^ 31 ∧ cl.slots.size.toInt32 = k := by
  have e := own_eqI h
  have e' := e
  obtain ⟨a', cell, h1, h2, h3⟩ := Term.length_spec e
  cases ev.symm.trans h1
  cases hc.symm.trans (State.arrayAt?_spec h2).1
  refine ⟨?_, (Value.int.inj h3).symm⟩
  by_cases q : cl.slots.size < 2147483648
  · exact q
  · simp [Term.eval, ev, h2, q] at e'
theorem own_elem {args : Array Value} {s : State} {t i : Term} {a : Addr} {cl : Cell} {j k : Int32} (ev : t.eval args s none [] s = some (.ref a)) (hc : s.heap[a]? = some cl) (hi : i.eval args s none [] s = some (.int j)) (h : (Jvm.Cond.eq (Jvm.Term.elem t i) (Jvm.Term.int k)).value args s none s [] = some true) : cl.slots[j.toNatClampNeg]? = some (.int k) := (elem_in (own_eqI h) ev hi hc).2
theorem own_narR {w : Value} {n : String} (h : w.isRef = true) : narrow (.object n) w = w := by cases w <;> simp [Value.isRef] at h <;> rfl
theorem own_fitR {w : Value} {n : String} (h : w.isRef = true) : fits (.object n) w = true := by cases w <;> simp [Value.isRef] at h <;> rfl
theorem own_safeNull {Z : State} {EL : List (String × Nat)} {vm : Vm} {h : Heap} {x : Addr} (hal : Z.vm.Alike vm) (E : Exa Z h x "java/lang/String") (F : Fld Z h x "java/lang/String" "value" "[B" .null) : Safe Z EL vm h x := fun B => by
  obtain ⟨cell, k, e1, e2, e3, -, -⟩ := E
  obtain ⟨cl, cf, kf, i, f, g1, g2, -, -, -, -, g7⟩ := F
  cases e1.symm.trans g1
  obtain ⟨p, -, u, a, -, q, -, S, rfl | rfl⟩ := B
  · cases (show h[q.sa]? = some q.sC from S.ha).symm.trans e1
    obtain ⟨cS, ⟨⟨-, -, -, ⟨c1, k1, i1, f1, -⟩, -, -, -, v1, -⟩, -⟩, -⟩ := S
    obtain ⟨k3, e4, -⟩ := State.fieldFound?_setVm (s := Z) hal g2
    have e5 := (show (Wst Z vm h).fieldFound? _ _ _ = _ from e4).symm.trans f1
    simp only [Option.some.injEq, Prod.mk.injEq] at e5
    rw [e5.2.2.2, v1] at g7
    cases g7
  · cases (show h[q.sd]? = some q.SA from S.hd).symm.trans e1
    obtain ⟨cS, -, -, f0, -⟩ := S
    have f1 : Z.vm.findClass "[B" = some q.SA.cls := by rw [← hal.findClass]; exact f0
    obtain ⟨k1, q1, q2⟩ := Vm.findClass_spec f1
    obtain ⟨k2, q3, q4⟩ := Vm.findClass_spec e2
    cases q1.symm.trans q3
    exact absurd (q2.symm.trans q4) (by decide)
theorem own_catR {w : Value} (h : w.isRef = true) : w.category = 1 := by cases w <;> simp [Value.isRef] at h <;> rfl
theorem own_ret {v w : Value} (h : v = w) : some v = some w := congrArg some h
theorem own_selfPriv {Z : State} {a0 : Array Value} {C : String} {y : MethodName} (w : (Cond.selects C y y).before a0 Z = true) (wp : (Cond.privateMethod y).before a0 Z = true) (wi : (Cond.instanceMethod y).before a0 Z = true) (hy : y.cls ≠ "java/lang/invoke/MethodHandle" ∧ y.cls ≠ "java/lang/invoke/VarHandle") : (Cond.selects y.cls y y).before a0 Z = true := by
  obtain ⟨_, _, _, -, -, q3, -, kP, hkP, hkPi⟩ := Cond.selects_spec w
  exact Jvm.Stand.selects_self_of_private (findClass_of_methodNamed q3) hkP hkPi (Cond.privateMethod_at wp) wi hy
theorem own_sameM {Z : State} {a0 : Array Value} {C : String} {y z z' : MethodName} (w1 : (Cond.declares y).before a0 Z = true) (w2 : (Cond.selects C z z').before a0 Z = true) (hc : z'.cls = y.cls) (hy : y.cls ≠ "java/lang/invoke/MethodHandle" ∧ y.cls ≠ "java/lang/invoke/VarHandle") : (Cond.sameMethod y.cls y.cls y.name y.desc).before a0 Z = true := by
  obtain ⟨m, meth, h1, -, -, -⟩ := Cond.declares_spec w1
  obtain ⟨_, _, m2, -, -, q3, -, kP, hkP, hkPi⟩ := Cond.selects_spec w2
  have f1 := findClass_of_methodNamed h1
  have f2 := findClass_of_methodNamed q3
  rw [hc] at f2
  have e : m.cls = m2.cls := Option.some.inj (f1.symm.trans f2)
  rw [← e] at hkP
  have g : Z.methodFound? y.cls y.name y.desc = some m := State.methodFound?_of_named h1 hy
  have h2 : Z.methodNamed? ⟨y.cls, y.name, y.desc⟩ = some m := h1
  simp only [Cond.before, Cond.holds, Cond.value, f1, g, h2, hkP]
  simp [hkPi]
theorem own_nfSel {s : State} {args : Array Value} {C : String} {y z z' : MethodName} (w : (Cond.selects C z z').before args s = true) (hc : z'.cls = y.cls) : NotFace s y := fun r0 h0 => by
  obtain ⟨_, _, m2, -, -, q3, -, kP, hkP, hkPi⟩ := Cond.selects_spec w
  have f1 := findClass_of_methodNamed h0
  have f2 := findClass_of_methodNamed q3
  rw [hc] at f2
  have e : r0.cls = m2.cls := Option.some.inj (f1.symm.trans f2)
  exact ⟨kP, by rw [e]; exact hkP, hkPi⟩
theorem own_zy {x y m n : Nat} (h : x = y ∨ n ≤ x) (hy : m ≤ y) (hn : m ≤ n) : m ≤ x := by rcases h with rfl | q; exact hy; exact Nat.le_trans hn q
theorem own_inY {x z n : Nat} {ws : List Addr} (h : x = z ∨ n ≤ x) (hz : z ∈ ws) : x ∈ ws ∨ n ≤ x := by rcases h with rfl | q; exact Or.inl hz; exact Or.inr q
theorem own_yy {x y z m n : Nat} (h : x = y ∨ n ≤ x) (hy : y = z ∨ m ≤ y) (hn : m ≤ n) : x = z ∨ m ≤ x := by rcases h with rfl | q; exact hy; exact Or.inr (Nat.le_trans hn q)
theorem own_neY {z x y n : Nat} (h : x = y ∨ n ≤ x) (hy : z ≠ y) (hz : z < n) : z ≠ x := by rcases h with rfl | q; exact hy; exact Nat.ne_of_lt (Nat.lt_of_lt_of_le hz q)
theorem own_safeY {Z : State} {EL : List (String × Nat)} {vm : Vm} {h : Heap} {x y : Addr} (q : x = y ∨ h.size ≤ x) (S : Safe Z EL vm h y) : Safe Z EL vm h x := by
  rcases q with rfl | q
  · exact S
  · exact Safe.new q
theorem own_cut {G : Prop} (P : Prop → Prop) (h1 : P G) (h2 : P G → G) : G := h2 h1
theorem own_loop {G : Prop} (P : Nat → Prop → Prop) (h1 : ∀ k, (∀ j, j < k → P j G) → P k G) (h2 : (∀ k, P k G) → G) : G := h2 fun k => Nat.strongRecOn k h1
def own_Mr (Z : State) (C : String) (mr : Addr) : Prop := ∃ (c : ClassId) (k : Class), Z.vm.findClass C = some c ∧ Z.vm.classes[c]? = some k ∧ k.mirror = some mr
theorem own_gcls {p : Program} {l : Launch} {e : Env} {R : Room} {s : State} {m : MethodId} {args : Array Value} {below : List Frame} {meth : Method} {c : Code} {T : State} {locs : List Loc} {cells slots : Nat} {Z : State} {a0 : Array Value} {h : Heap}
    (X : Stand p l e R s m args below meth c T locs cells slots) (hx : p.tables.exec = Jvm.exec) (hZ : Z.Warmed39 s.vm) {own C : String} {index : Nat} (hown : s.vm.findClass own = some m.cls)
    (w1 : (Cond.methodLink own index ⟨"java/lang/Object", "getClass", "()Ljava/lang/Class;"⟩).before a0 Z = true) (w2 : (Cond.declares ⟨"java/lang/Object", "getClass", "()Ljava/lang/Class;"⟩).before a0 Z = true) (w3 : (Cond.noSuperclass "java/lang/Object").before a0 Z = true) (w4 : (Cond.selects C ⟨"java/lang/Object", "getClass", "()Ljava/lang/Class;"⟩ ⟨"java/lang/Object", "getClass", "()Ljava/lang/Class;"⟩).before a0 Z = true)
    (w5 : (Cond.instanceMethod ⟨"java/lang/Object", "getClass", "()Ljava/lang/Class;"⟩).before a0 Z = true) (w6 : (Cond.native ⟨"java/lang/Object", "getClass", "()Ljava/lang/Class;"⟩).before a0 Z = true) (eT : T.heap = h) {a mr : Addr} (E : Exa Z h a C) (M : own_Mr Z C mr)
    {g : JFrame} (hg : g.method = m) (hsize : g.locals.size = c.maxLocals) {rest : List Value} (hs : g.stack = .ref a :: rest) (hd : decode c.code g.pc = .ok (.invokevirtual index, 3)) (hf : 1 ≤ R.frames) {W : Nat} (hW : 2 * g.monitorRoom + (rest.map fun v => v.category).sum ≤ W) (hl : W + (nativeFrameWords "java/lang/Object" "getClass" 1 + 11) ≤ R.locals) :
    ∃ T', Stand p l e R s m args below meth c T' locs cells slots ∧ T'.heap = h ∧ ∀ target, Steps p.tables e below (T'.setTop { g with pc := g.pc + 3, stack := .ref mr :: rest }) target → Steps p.tables e below (T.setTop g) target := by
  obtain ⟨cB, kB, i1, i2, i3⟩ := isOf hZ eT E
  obtain ⟨cc, kc, m1, m2, m3⟩ := M
  have hc : s.vm.findClass C = some cc := by rw [hZ.alike.findClass]; exact m1
  obtain rfl : cB = cc := Option.some.inj (i1.symm.trans hc)
  obtain ⟨k', q, ek⟩ := hZ.alike.2.2 _ _ m2
  obtain ⟨vm', X', st⟩ := X.getClassOf hx hown (mvT hZ w1) (mvT hZ w2) (nf_top (args := #[]) (mvT hZ w3)) (mvT hZ w4) (mvT hZ w5) (mvT hZ w6) hc i3 q (by rw [ek]; exact m3) hg hsize hs hd hf (by omega)
  exact ⟨_, X', eT, st⟩
theorem own_ldcM {p : Program} {l : Launch} {e : Env} {R : Room} {s : State} {m : MethodId} {args : Array Value} {below : List Frame} {meth : Method} {c : Code} {T : State} {locs : List Loc} {cells slots : Nat} {Z : State} {a0 : Array Value} {h : Heap}
    (X : Stand p l e R s m args below meth c T locs cells slots) (hx : p.tables.exec = Jvm.exec) (hZ : Z.Warmed39 s.vm) {own C : String} {index : Nat} (hown : s.vm.findClass own = some m.cls) (w : (Cond.classLink own index C).before a0 Z = true) (eT : T.heap = h) {mr : Addr} (M : own_Mr Z C mr)
    {g : JFrame} (hg : g.method = m) (hd : decode c.code g.pc = .ok (.ldc index, 2)) :
    ∃ T', Stand p l e R s m args below meth c T' locs cells slots ∧ T'.heap = h ∧ ∀ target, Steps p.tables e below (T'.setTop { g with pc := g.pc + 2, stack := .ref mr :: g.stack }) target → Steps p.tables e below (T.setTop g) target := by
  obtain ⟨cc, kc, m1, m2, m3⟩ := M
  have hc : s.vm.findClass C = some cc := by rw [hZ.alike.findClass]; exact m1
  obtain ⟨k', q, ek⟩ := hZ.alike.2.2 _ _ m2
  have m4 : k'.mirror = some mr := by rw [ek]; exact m3
  obtain ⟨vm', X', st⟩ := X.ldcMirror hx hown (mvT hZ w) (C := C) (a := mr) (by simp [Term.eval, hc, q, m4]) hg hd
  exact ⟨_, X', eT, st⟩
theorem own_kpKeep {Z : State} {h h' : Heap} {a : Addr} (K : Kp Z h h' a) : Keep h h' [a] := ⟨K.1, fun x c q r => by
  obtain ⟨c', q1, -, -, q4, -⟩ := K.2 _ _ q
  rw [q1, q4 (fun z => r (by simp [z]))], fun x c q => by
  obtain ⟨c', q1, q2, q3, -⟩ := K.2 _ _ q
  exact ⟨c', q1, by rw [q2], by rw [q2], q3⟩⟩
theorem own_nsRoot {Z : State} {a0 : Array Value} {O K : String} {n : Nat} (w : (Cond.noSuperclass O).before a0 Z = true) (wk : (Cond.instantiable K n).before a0 Z = true) (hn : O ≠ K) : NS Z O K := by
  obtain ⟨c, k, h1, h2, h3, -, -⟩ := Cond.noSuperclass_spec w
  obtain ⟨t, kt, g1, -⟩ := Cond.instantiable_spec wk
  have ne := ids_ne h1 g1 hn
  refine ⟨c, t, h1, g1, fun fuel => ?_⟩
  cases fuel with
  | zero => rfl
  | succ f => simp [Vm.isSubclassAux, ne, h2, h3]
theorem own_nsNo {Z : State} {a0 : Array Value} {C S K : String} {n : Nat} (w : (Cond.superclass C S).before a0 Z = true) (wk : (Cond.instantiable K n).before a0 Z = true) (hns : NS Z C K) (hn : C ≠ K) : ∃ c t, Z.vm.findClass C = some c ∧ Z.vm.findClass K = some t ∧ Z.vm.assignable c t = false := by
  obtain ⟨c, t, h0, g0, n3⟩ := hns
  obtain ⟨p, k, kp, h1, h2, h3, h4, h5, -, h7⟩ := Cond.superclass_spec h0 w
  obtain ⟨t', kt, g1, g2, g3, g4, -⟩ := Cond.instantiable_spec wk
  cases g0.symm.trans g1
  have ne := ids_ne h0 g0 hn
  have g5 : kt.isInterface = false := by
    cases hq : kt.isInterface
    · rfl
    · rw [hq] at g4; simp at g4
  refine ⟨c, t, h0, g0, ?_⟩
  show Z.vm.assignableAux (255 + 1) c t = false
  simp [Vm.assignableAux, ne, h2, g2, h5, g3, g5, Vm.isSubclass, n3]
def own_exp (k : Int32) : Int32 := if (2 : Int32) < k then (if k = 3 then 401 else if k = 4 then 402 else if k = 5 then 403 else if k = 6 then 404 else if k = 7 then 405 else if (9 : Int32) < k then (if k = 10 then 413 else if (12 : Int32) < k then (if k = 13 then 400 else 500) else 422) else 409) else 400
theorem own_k14 (k : Int32) (hb : ¬ k < 0 ∧ k < 15) (n0 : ¬ k = 0) (n1 : ¬ k = 1) (n2 : ¬ k = 2) (n3 : ¬ k = 3) (n4 : ¬ k = 4) (n5 : ¬ k = 5) (n6 : ¬ k = 6) (n7 : ¬ k = 7) (n8 : ¬ k = 8) (n9 : ¬ k = 9) (n10 : ¬ k = 10) (n11 : ¬ k = 11) (n12 : ¬ k = 12) (n13 : ¬ k = 13) : k = 14 := by
  obtain ⟨h1, h2⟩ := hb
  rw [Int32.lt_iff_toInt_lt] at h1 h2
  simp only [← Int32.toInt_inj] at *
  simp only [show (0 : Int32).toInt = 0 from rfl, show (1 : Int32).toInt = 1 from rfl, show (2 : Int32).toInt = 2 from rfl, show (3 : Int32).toInt = 3 from rfl, show (4 : Int32).toInt = 4 from rfl, show (5 : Int32).toInt = 5 from rfl, show (6 : Int32).toInt = 6 from rfl, show (7 : Int32).toInt = 7 from rfl, show (8 : Int32).toInt = 8 from rfl, show (9 : Int32).toInt = 9 from rfl, show (10 : Int32).toInt = 10 from rfl, show (11 : Int32).toInt = 11 from rfl, show (12 : Int32).toInt = 12 from rfl, show (13 : Int32).toInt = 13 from rfl, show (14 : Int32).toInt = 14 from rfl, show (15 : Int32).toInt = 15 from rfl] at *
  omega
theorem own_k15 (x : Int32) : ¬ ((x &&& 2147483647) - (x &&& 2147483647) / 15 * 15) < (0 : Int32) ∧ ((x &&& 2147483647) - (x &&& 2147483647) / 15 * 15) < (15 : Int32) := by
  rw [irem_eq_mod]
  have h1 := (c_andS x 2147483647).2.2 (by decide)
  have h2 := (c_irem (x &&& 2147483647) 15 15 rfl).1 h1
  rw [Int32.lt_iff_toInt_lt, Int32.lt_iff_toInt_lt, h2, show (0 : Int32).toInt = 0 from rfl, show (15 : Int32).toInt = 15 from rfl]
  omega
theorem own_ch (x : Int32) : ¬ ((255 : Int32) < (x &&& (255 : Int32)).toUInt32.toUInt16.toUInt32.toInt32) := by
  rw [i2c_mask]
  intro h
  rw [Int32.lt_iff_toInt_lt, show (255 : Int32).toInt = 255 from rfl] at h
  have q : (x &&& 255).toBitVec.toNat < 256 := by
    simp only [Int32.toBitVec_and, BitVec.toNat_and]
    exact Nat.lt_succ_of_le Nat.and_le_right
  have e : (x &&& 255).toInt = (x &&& 255).toBitVec.toInt := rfl
  rw [e, BitVec.toInt_eq_toNat_cond] at h
  split at h <;> omega
theorem d1_0 : decode method_2_code 0 = .ok (.iload_n 0, 1) := by decide +kernel
theorem d1_1 : decode method_2_code 1 = .ok (.ifCond .ne 7, 3) := by decide +kernel
theorem w_8 : (Jvm.Cond.fieldLink "com/example/levy/levy/api/ApiExceptionStatusPinLaw" (7 : Nat) "com/example/levy/levy/api/ErrorType" "INVALID_JSON" "Lcom/example/levy/levy/api/ErrorType;") ∈ tables_1 := List.mem_of_getElem? (i := 8) (by decide +kernel)
theorem d1_4 : decode method_2_code 4 = .ok (.getstatic 7, 3) := by decide +kernel
theorem d1_7 : decode method_2_code 7 = .ok (.areturn, 1) := by decide +kernel
theorem d1_8 : decode method_2_code 8 = .ok (.iload_n 0, 1) := by decide +kernel
theorem d1_9 : decode method_2_code 9 = .ok (.iconst 1, 1) := by decide +kernel
theorem d1_10 : decode method_2_code 10 = .ok (.if_icmp .ne 7, 3) := by decide +kernel
theorem w_317 : (Jvm.Cond.fieldLink "com/example/levy/levy/api/ApiExceptionStatusPinLaw" (13 : Nat) "com/example/levy/levy/api/ErrorType" "INVALID_PARAMETER" "Lcom/example/levy/levy/api/ErrorType;") ∈ tables_1 := List.mem_of_getElem? (i := 317) (by decide +kernel)
theorem d1_13 : decode method_2_code 13 = .ok (.getstatic 13, 3) := by decide +kernel
theorem d1_16 : decode method_2_code 16 = .ok (.areturn, 1) := by decide +kernel
theorem d1_17 : decode method_2_code 17 = .ok (.iload_n 0, 1) := by decide +kernel
theorem d1_18 : decode method_2_code 18 = .ok (.iconst 2, 1) := by decide +kernel
theorem d1_19 : decode method_2_code 19 = .ok (.if_icmp .ne 7, 3) := by decide +kernel
theorem w_52 : (Jvm.Cond.fieldLink "com/example/levy/levy/api/ApiExceptionStatusPinLaw" (16 : Nat) "com/example/levy/levy/api/ErrorType" "INVALID_REQUEST" "Lcom/example/levy/levy/api/ErrorType;") ∈ tables_1 := List.mem_of_getElem? (i := 52) (by decide +kernel)
theorem d1_22 : decode method_2_code 22 = .ok (.getstatic 16, 3) := by decide +kernel
theorem d1_25 : decode method_2_code 25 = .ok (.areturn, 1) := by decide +kernel
theorem d1_26 : decode method_2_code 26 = .ok (.iload_n 0, 1) := by decide +kernel
theorem d1_27 : decode method_2_code 27 = .ok (.iconst 3, 1) := by decide +kernel
theorem d1_28 : decode method_2_code 28 = .ok (.if_icmp .ne 7, 3) := by decide +kernel
theorem w_50 : (Jvm.Cond.fieldLink "com/example/levy/levy/api/ApiExceptionStatusPinLaw" (19 : Nat) "com/example/levy/levy/api/ErrorType" "UNAUTHORIZED" "Lcom/example/levy/levy/api/ErrorType;") ∈ tables_1 := List.mem_of_getElem? (i := 50) (by decide +kernel)
theorem d1_31 : decode method_2_code 31 = .ok (.getstatic 19, 3) := by decide +kernel
theorem d1_34 : decode method_2_code 34 = .ok (.areturn, 1) := by decide +kernel
theorem d1_35 : decode method_2_code 35 = .ok (.iload_n 0, 1) := by decide +kernel
theorem d1_36 : decode method_2_code 36 = .ok (.iconst 4, 1) := by decide +kernel
theorem d1_37 : decode method_2_code 37 = .ok (.if_icmp .ne 7, 3) := by decide +kernel
theorem w_309 : (Jvm.Cond.fieldLink "com/example/levy/levy/api/ApiExceptionStatusPinLaw" (22 : Nat) "com/example/levy/levy/api/ErrorType" "CARD_DECLINED" "Lcom/example/levy/levy/api/ErrorType;") ∈ tables_1 := List.mem_of_getElem? (i := 309) (by decide +kernel)
theorem d1_40 : decode method_2_code 40 = .ok (.getstatic 22, 3) := by decide +kernel
theorem d1_43 : decode method_2_code 43 = .ok (.areturn, 1) := by decide +kernel
theorem d1_44 : decode method_2_code 44 = .ok (.iload_n 0, 1) := by decide +kernel
theorem d1_45 : decode method_2_code 45 = .ok (.iconst 5, 1) := by decide +kernel
theorem d1_46 : decode method_2_code 46 = .ok (.if_icmp .ne 7, 3) := by decide +kernel
theorem w_356 : (Jvm.Cond.fieldLink "com/example/levy/levy/api/ApiExceptionStatusPinLaw" (25 : Nat) "com/example/levy/levy/api/ErrorType" "SANDBOX_ONLY" "Lcom/example/levy/levy/api/ErrorType;") ∈ tables_1 := List.mem_of_getElem? (i := 356) (by decide +kernel)
theorem d1_49 : decode method_2_code 49 = .ok (.getstatic 25, 3) := by decide +kernel
theorem d1_52 : decode method_2_code 52 = .ok (.areturn, 1) := by decide +kernel
theorem d1_53 : decode method_2_code 53 = .ok (.iload_n 0, 1) := by decide +kernel
theorem d1_54 : decode method_2_code 54 = .ok (.bipush 6, 2) := by decide +kernel
theorem d1_56 : decode method_2_code 56 = .ok (.if_icmp .ne 7, 3) := by decide +kernel
theorem w_350 : (Jvm.Cond.fieldLink "com/example/levy/levy/api/ApiExceptionStatusPinLaw" (28 : Nat) "com/example/levy/levy/api/ErrorType" "NOT_FOUND" "Lcom/example/levy/levy/api/ErrorType;") ∈ tables_1 := List.mem_of_getElem? (i := 350) (by decide +kernel)
theorem d1_59 : decode method_2_code 59 = .ok (.getstatic 28, 3) := by decide +kernel
theorem d1_62 : decode method_2_code 62 = .ok (.areturn, 1) := by decide +kernel
theorem d1_63 : decode method_2_code 63 = .ok (.iload_n 0, 1) := by decide +kernel
theorem d1_64 : decode method_2_code 64 = .ok (.bipush 7, 2) := by decide +kernel
theorem d1_66 : decode method_2_code 66 = .ok (.if_icmp .ne 7, 3) := by decide +kernel
theorem w_344 : (Jvm.Cond.fieldLink "com/example/levy/levy/api/ApiExceptionStatusPinLaw" (31 : Nat) "com/example/levy/levy/api/ErrorType" "METHOD_NOT_ALLOWED" "Lcom/example/levy/levy/api/ErrorType;") ∈ tables_1 := List.mem_of_getElem? (i := 344) (by decide +kernel)
theorem d1_69 : decode method_2_code 69 = .ok (.getstatic 31, 3) := by decide +kernel
theorem d1_72 : decode method_2_code 72 = .ok (.areturn, 1) := by decide +kernel
theorem d1_73 : decode method_2_code 73 = .ok (.iload_n 0, 1) := by decide +kernel
theorem d1_74 : decode method_2_code 74 = .ok (.bipush 8, 2) := by decide +kernel
theorem d1_76 : decode method_2_code 76 = .ok (.if_icmp .ne 7, 3) := by decide +kernel
theorem w_358 : (Jvm.Cond.fieldLink "com/example/levy/levy/api/ApiExceptionStatusPinLaw" (34 : Nat) "com/example/levy/levy/api/ErrorType" "INVALID_STATE" "Lcom/example/levy/levy/api/ErrorType;") ∈ tables_1 := List.mem_of_getElem? (i := 358) (by decide +kernel)
theorem d1_79 : decode method_2_code 79 = .ok (.getstatic 34, 3) := by decide +kernel
theorem d1_82 : decode method_2_code 82 = .ok (.areturn, 1) := by decide +kernel
theorem d1_83 : decode method_2_code 83 = .ok (.iload_n 0, 1) := by decide +kernel
theorem d1_84 : decode method_2_code 84 = .ok (.bipush 9, 2) := by decide +kernel
theorem d1_86 : decode method_2_code 86 = .ok (.if_icmp .ne 7, 3) := by decide +kernel
theorem w_348 : (Jvm.Cond.fieldLink "com/example/levy/levy/api/ApiExceptionStatusPinLaw" (37 : Nat) "com/example/levy/levy/api/ErrorType" "REQUEST_IN_PROGRESS" "Lcom/example/levy/levy/api/ErrorType;") ∈ tables_1 := List.mem_of_getElem? (i := 348) (by decide +kernel)
theorem d1_89 : decode method_2_code 89 = .ok (.getstatic 37, 3) := by decide +kernel
theorem d1_92 : decode method_2_code 92 = .ok (.areturn, 1) := by decide +kernel
theorem d1_93 : decode method_2_code 93 = .ok (.iload_n 0, 1) := by decide +kernel
theorem d1_94 : decode method_2_code 94 = .ok (.bipush 10, 2) := by decide +kernel
theorem d1_96 : decode method_2_code 96 = .ok (.if_icmp .ne 7, 3) := by decide +kernel
theorem w_311 : (Jvm.Cond.fieldLink "com/example/levy/levy/api/ApiExceptionStatusPinLaw" (40 : Nat) "com/example/levy/levy/api/ErrorType" "REQUEST_TOO_LARGE" "Lcom/example/levy/levy/api/ErrorType;") ∈ tables_1 := List.mem_of_getElem? (i := 311) (by decide +kernel)
theorem d1_99 : decode method_2_code 99 = .ok (.getstatic 40, 3) := by decide +kernel
theorem d1_102 : decode method_2_code 102 = .ok (.areturn, 1) := by decide +kernel
theorem d1_103 : decode method_2_code 103 = .ok (.iload_n 0, 1) := by decide +kernel
theorem d1_104 : decode method_2_code 104 = .ok (.bipush 11, 2) := by decide +kernel
theorem d1_106 : decode method_2_code 106 = .ok (.if_icmp .ne 7, 3) := by decide +kernel
theorem w_346 : (Jvm.Cond.fieldLink "com/example/levy/levy/api/ApiExceptionStatusPinLaw" (43 : Nat) "com/example/levy/levy/api/ErrorType" "NO_PROCESSOR" "Lcom/example/levy/levy/api/ErrorType;") ∈ tables_1 := List.mem_of_getElem? (i := 346) (by decide +kernel)
theorem d1_109 : decode method_2_code 109 = .ok (.getstatic 43, 3) := by decide +kernel
theorem d1_112 : decode method_2_code 112 = .ok (.areturn, 1) := by decide +kernel
theorem d1_113 : decode method_2_code 113 = .ok (.iload_n 0, 1) := by decide +kernel
theorem d1_114 : decode method_2_code 114 = .ok (.bipush 12, 2) := by decide +kernel
theorem d1_116 : decode method_2_code 116 = .ok (.if_icmp .ne 7, 3) := by decide +kernel
theorem w_354 : (Jvm.Cond.fieldLink "com/example/levy/levy/api/ApiExceptionStatusPinLaw" (46 : Nat) "com/example/levy/levy/api/ErrorType" "IDEMPOTENCY_KEY_REUSED" "Lcom/example/levy/levy/api/ErrorType;") ∈ tables_1 := List.mem_of_getElem? (i := 354) (by decide +kernel)
theorem d1_119 : decode method_2_code 119 = .ok (.getstatic 46, 3) := by decide +kernel
theorem d1_122 : decode method_2_code 122 = .ok (.areturn, 1) := by decide +kernel
theorem d1_123 : decode method_2_code 123 = .ok (.iload_n 0, 1) := by decide +kernel
theorem d1_124 : decode method_2_code 124 = .ok (.bipush 13, 2) := by decide +kernel
theorem d1_126 : decode method_2_code 126 = .ok (.if_icmp .ne 7, 3) := by decide +kernel
theorem w_360 : (Jvm.Cond.fieldLink "com/example/levy/levy/api/ApiExceptionStatusPinLaw" (49 : Nat) "com/example/levy/levy/api/ErrorType" "WEBHOOKS_NOT_CONFIGURED" "Lcom/example/levy/levy/api/ErrorType;") ∈ tables_1 := List.mem_of_getElem? (i := 360) (by decide +kernel)
theorem d1_129 : decode method_2_code 129 = .ok (.getstatic 49, 3) := by decide +kernel
theorem d1_132 : decode method_2_code 132 = .ok (.areturn, 1) := by decide +kernel
theorem w_352 : (Jvm.Cond.fieldLink "com/example/levy/levy/api/ApiExceptionStatusPinLaw" (52 : Nat) "com/example/levy/levy/api/ErrorType" "INTERNAL_ERROR" "Lcom/example/levy/levy/api/ErrorType;") ∈ tables_1 := List.mem_of_getElem? (i := 352) (by decide +kernel)
theorem d1_133 : decode method_2_code 133 = .ok (.getstatic 52, 3) := by decide +kernel
theorem d1_136 : decode method_2_code 136 = .ok (.areturn, 1) := by decide +kernel
abbrev mN0 : MethodName := ⟨"com/example/levy/levy/api/ApiExceptionStatusPinLaw", "type", "(I)Lcom/example/levy/levy/api/ErrorType;"⟩
theorem ef_type (m : MethodId) (x0 : Int32) : entryFrame m #[(.int x0)] 1 = mkF m 0 #[.val (.int x0)] [] := by first | (simp [entryFrame, mkF, argsToLocals, Value.category]; done) | rfl
def Qtype (Z : State) (k : Int32) (tINVALID_JSON : Addr) (tINVALID_PARAMETER : Addr) (tINVALID_REQUEST : Addr) (tUNAUTHORIZED : Addr) (tCARD_DECLINED : Addr) (tSANDBOX_ONLY : Addr) (tNOT_FOUND : Addr) (tMETHOD_NOT_ALLOWED : Addr) (tINVALID_STATE : Addr) (tREQUEST_IN_PROGRESS : Addr) (tREQUEST_TOO_LARGE : Addr) (tNO_PROCESSOR : Addr) (tIDEMPOTENCY_KEY_REUSED : Addr) (tWEBHOOKS_NOT_CONFIGURED : Addr) (tINTERNAL_ERROR : Addr) (h0 : Heap) (n0 : Nat) (v : Option Value) (h : Heap) (L : List Loc) : Prop := ∃ (r : Addr), v = some (.ref r) ∧ Fr n0 L ∧ h = h0 ∧ Exa Z Z.heap r "com/example/levy/levy/api/ErrorType" ∧ Fld Z Z.heap r "com/example/levy/levy/api/ErrorType" "status" "I" (.int (own_exp k))
theorem pn_com_example_levy_levy_api_ApiExceptionStatusPinLaw : plainName "com/example/levy/levy/api/ApiExceptionStatusPinLaw" = true := by first | (simp [plainName, overriddenIn]; done) | decide +kernel
set_option maxRecDepth 65536 in
set_option maxHeartbeats 40000000 in
theorem rmtype (l : Launch) (Z : State) (a0 : Array Value) (hw : ∀ d ∈ tables_1, d.before a0 Z = true) (ws : List Jvm.Cond) (k : Int32) (tINVALID_JSON : Addr) (tINVALID_PARAMETER : Addr) (tINVALID_REQUEST : Addr) (tUNAUTHORIZED : Addr) (tCARD_DECLINED : Addr) (tSANDBOX_ONLY : Addr) (tNOT_FOUND : Addr) (tMETHOD_NOT_ALLOWED : Addr) (tINVALID_STATE : Addr) (tREQUEST_IN_PROGRESS : Addr) (tREQUEST_TOO_LARGE : Addr) (tNO_PROCESSOR : Addr) (tIDEMPOTENCY_KEY_REUSED : Addr) (tWEBHOOKS_NOT_CONFIGURED : Addr) (tINTERNAL_ERROR : Addr) (h0 : Heap) (n0 : Nat) (O0 : Old Z n0 h0) (hk : (¬ k < (0 : Int32) ∧ k < (15 : Int32))) (hp1 : Sta Z Z.heap "com/example/levy/levy/api/ErrorType" "INVALID_JSON" "Lcom/example/levy/levy/api/ErrorType;" (.ref tINVALID_JSON)) (hp2 : Exa Z Z.heap tINVALID_JSON "com/example/levy/levy/api/ErrorType") (hp3 : Fld Z Z.heap tINVALID_JSON "com/example/levy/levy/api/ErrorType" "status" "I" (.int (400 : Int32))) (hp4 : Sta Z Z.heap "com/example/levy/levy/api/ErrorType" "INVALID_PARAMETER" "Lcom/example/levy/levy/api/ErrorType;" (.ref tINVALID_PARAMETER)) (hp5 : Exa Z Z.heap tINVALID_PARAMETER "com/example/levy/levy/api/ErrorType") (hp6 : Fld Z Z.heap tINVALID_PARAMETER "com/example/levy/levy/api/ErrorType" "status" "I" (.int (400 : Int32))) (hp7 : Sta Z Z.heap "com/example/levy/levy/api/ErrorType" "INVALID_REQUEST" "Lcom/example/levy/levy/api/ErrorType;" (.ref tINVALID_REQUEST)) (hp8 : Exa Z Z.heap tINVALID_REQUEST "com/example/levy/levy/api/ErrorType") (hp9 : Fld Z Z.heap tINVALID_REQUEST "com/example/levy/levy/api/ErrorType" "status" "I" (.int (400 : Int32))) (hp10 : Sta Z Z.heap "com/example/levy/levy/api/ErrorType" "UNAUTHORIZED" "Lcom/example/levy/levy/api/ErrorType;" (.ref tUNAUTHORIZED)) (hp11 : Exa Z Z.heap tUNAUTHORIZED "com/example/levy/levy/api/ErrorType") (hp12 : Fld Z Z.heap tUNAUTHORIZED "com/example/levy/levy/api/ErrorType" "status" "I" (.int (401 : Int32))) (hp13 : Sta Z Z.heap "com/example/levy/levy/api/ErrorType" "CARD_DECLINED" "Lcom/example/levy/levy/api/ErrorType;" (.ref tCARD_DECLINED)) (hp14 : Exa Z Z.heap tCARD_DECLINED "com/example/levy/levy/api/ErrorType") (hp15 : Fld Z Z.heap tCARD_DECLINED "com/example/levy/levy/api/ErrorType" "status" "I" (.int (402 : Int32))) (hp16 : Sta Z Z.heap "com/example/levy/levy/api/ErrorType" "SANDBOX_ONLY" "Lcom/example/levy/levy/api/ErrorType;" (.ref tSANDBOX_ONLY)) (hp17 : Exa Z Z.heap tSANDBOX_ONLY "com/example/levy/levy/api/ErrorType") (hp18 : Fld Z Z.heap tSANDBOX_ONLY "com/example/levy/levy/api/ErrorType" "status" "I" (.int (403 : Int32))) (hp19 : Sta Z Z.heap "com/example/levy/levy/api/ErrorType" "NOT_FOUND" "Lcom/example/levy/levy/api/ErrorType;" (.ref tNOT_FOUND)) (hp20 : Exa Z Z.heap tNOT_FOUND "com/example/levy/levy/api/ErrorType") (hp21 : Fld Z Z.heap tNOT_FOUND "com/example/levy/levy/api/ErrorType" "status" "I" (.int (404 : Int32))) (hp22 : Sta Z Z.heap "com/example/levy/levy/api/ErrorType" "METHOD_NOT_ALLOWED" "Lcom/example/levy/levy/api/ErrorType;" (.ref tMETHOD_NOT_ALLOWED)) (hp23 : Exa Z Z.heap tMETHOD_NOT_ALLOWED "com/example/levy/levy/api/ErrorType") (hp24 : Fld Z Z.heap tMETHOD_NOT_ALLOWED "com/example/levy/levy/api/ErrorType" "status" "I" (.int (405 : Int32))) (hp25 : Sta Z Z.heap "com/example/levy/levy/api/ErrorType" "INVALID_STATE" "Lcom/example/levy/levy/api/ErrorType;" (.ref tINVALID_STATE)) (hp26 : Exa Z Z.heap tINVALID_STATE "com/example/levy/levy/api/ErrorType") (hp27 : Fld Z Z.heap tINVALID_STATE "com/example/levy/levy/api/ErrorType" "status" "I" (.int (409 : Int32))) (hp28 : Sta Z Z.heap "com/example/levy/levy/api/ErrorType" "REQUEST_IN_PROGRESS" "Lcom/example/levy/levy/api/ErrorType;" (.ref tREQUEST_IN_PROGRESS)) (hp29 : Exa Z Z.heap tREQUEST_IN_PROGRESS "com/example/levy/levy/api/ErrorType") (hp30 : Fld Z Z.heap tREQUEST_IN_PROGRESS "com/example/levy/levy/api/ErrorType" "status" "I" (.int (409 : Int32))) (hp31 : Sta Z Z.heap "com/example/levy/levy/api/ErrorType" "REQUEST_TOO_LARGE" "Lcom/example/levy/levy/api/ErrorType;" (.ref tREQUEST_TOO_LARGE)) (hp32 : Exa Z Z.heap tREQUEST_TOO_LARGE "com/example/levy/levy/api/ErrorType") (hp33 : Fld Z Z.heap tREQUEST_TOO_LARGE "com/example/levy/levy/api/ErrorType" "status" "I" (.int (413 : Int32))) (hp34 : Sta Z Z.heap "com/example/levy/levy/api/ErrorType" "NO_PROCESSOR" "Lcom/example/levy/levy/api/ErrorType;" (.ref tNO_PROCESSOR)) (hp35 : Exa Z Z.heap tNO_PROCESSOR "com/example/levy/levy/api/ErrorType") (hp36 : Fld Z Z.heap tNO_PROCESSOR "com/example/levy/levy/api/ErrorType" "status" "I" (.int (422 : Int32))) (hp37 : Sta Z Z.heap "com/example/levy/levy/api/ErrorType" "IDEMPOTENCY_KEY_REUSED" "Lcom/example/levy/levy/api/ErrorType;" (.ref tIDEMPOTENCY_KEY_REUSED)) (hp38 : Exa Z Z.heap tIDEMPOTENCY_KEY_REUSED "com/example/levy/levy/api/ErrorType") (hp39 : Fld Z Z.heap tIDEMPOTENCY_KEY_REUSED "com/example/levy/levy/api/ErrorType" "status" "I" (.int (422 : Int32))) (hp40 : Sta Z Z.heap "com/example/levy/levy/api/ErrorType" "WEBHOOKS_NOT_CONFIGURED" "Lcom/example/levy/levy/api/ErrorType;" (.ref tWEBHOOKS_NOT_CONFIGURED)) (hp41 : Exa Z Z.heap tWEBHOOKS_NOT_CONFIGURED "com/example/levy/levy/api/ErrorType") (hp42 : Fld Z Z.heap tWEBHOOKS_NOT_CONFIGURED "com/example/levy/levy/api/ErrorType" "status" "I" (.int (400 : Int32))) (hp43 : Sta Z Z.heap "com/example/levy/levy/api/ErrorType" "INTERNAL_ERROR" "Lcom/example/levy/levy/api/ErrorType;" (.ref tINTERNAL_ERROR)) (hp44 : Exa Z Z.heap tINTERNAL_ERROR "com/example/levy/levy/api/ErrorType") (hp45 : Fld Z Z.heap tINTERNAL_ERROR "com/example/levy/levy/api/ErrorType" "status" "I" (.int (500 : Int32))) :
    MetFree l mN0 (head1 (Jvm.Cond.code mN0 method_2_code 1 (some (.object "com/example/levy/levy/api/ErrorType")) :: ws) ({ frames := 0, cells := 0, slots := 0, locals := 0 } : Room)) (fun as_ U => as_ = #[(.int k)] ∧ Z.Warmed39 U.vm ∧ U.heap = h0) (fun _ _ _ _ _ => True) (fun _ U o U' => ∃ v L, o = .returned v ∧ Qtype Z k tINVALID_JSON tINVALID_PARAMETER tINVALID_REQUEST tUNAUTHORIZED tCARD_DECLINED tSANDBOX_ONLY tNOT_FOUND tMETHOD_NOT_ALLOWED tINVALID_STATE tREQUEST_IN_PROGRESS tREQUEST_TOO_LARGE tNO_PROCESSOR tIDEMPOTENCY_KEY_REUSED tWEBHOOKS_NOT_CONFIGURED tINTERNAL_ERROR h0 n0 v U'.heap L ∧ FrameEnd U o U' L ({ frames := 0, cells := 0, slots := 0, locals := 0 } : Room).cells ({ frames := 0, cells := 0, slots := 0, locals := 0 } : Room).slots) := by
  refine MetFree.of_bodySF (plainFor_of_name pn_com_example_levy_levy_api_ApiExceptionStatusPinLaw) hisR ?_
  intro p e s m args below meth c s₁ Bd hml0 hP hK
  obtain ⟨rfl, hZ, hh⟩ := hP
  have hx := Bd.exec
  have hby := Bd.bytes
  have hml : c.maxLocals = 1 := hml0
  have hown : s.vm.findClass "com/example/levy/levy/api/ApiExceptionStatusPinLaw" = some m.cls := findClass_of_methodNamed Bd.named
  have hnm := (name_of_methodNamed Bd.named Bd.method).1
  have X0 : Stand p l e ({ frames := 0, cells := 0, slots := 0, locals := 0 } : Room) s m #[(.int k)] below meth c s₁ [] 0 0 := Stand.of_body Bd
  have e0 : s₁.heap = h0 := by rw [← hh, Bd.state]; rfl
  have N0 := Fr.nil n0
  have Z0 := own_z0 O0
  have pre0 : ∀ tg_, Steps p.tables e below (s₁.setTop (mkF m 0 #[.val (.int k)] [])) tg_ → Steps p.tables e below (s₁.setTop (entryFrame m #[(.int k)] 1)) tg_ := fun tg_ kt_ => castTop (ef_type m k) kt_
  have pre1 : ∀ tg_, Steps p.tables e below (s₁.setTop (mkF m 1 #[.val (.int k)] [(.int k)])) tg_ → Steps p.tables e below (s₁.setTop (entryFrame m #[(.int k)] 1)) tg_ := by
    intro tg_ kt_
    refine pre0 tg_ ?_
    refine XS.iloadN X0.here hx rfl (hb hby d1_0) rfl ?_
    exact kt_
  by_cases hc2 : k = (0 : Int32)
  · obtain ⟨T3, X3, e3, st3⟩ := getS2 X0 hx hZ hown (host := "") (Or.inl (hw _ w_8)) Via.refl e0 (hp1.ext O0.2) (g := (mkF m 4 #[.val (.int k)] [])) rfl (hb hby d1_4)
    obtain ⟨fs, hr, hrun, hended, hW, hsame⟩ := X3.leave (v := some (.ref tINVALID_JSON)) (fun h => by rw [Bd.returns] at h; cases h)
    refine ⟨_, _, pre1 _ ?_, hrun, hended, _, _, rfl, ?_, ⟨_, rfl⟩, hW, hsame.mono (by decide) (by decide)⟩
    · refine XS.ifNo X0.here hx rfl (hb hby d1_1) rfl ((if0 _ _).trans (teq hc2).2) ?_
      show Steps p.tables e below (s₁.setTop (mkF m 4 #[.val (.int k)] [])) _
      refine st3 _ ?_
      show Steps p.tables e below (T3.setTop (mkF m 7 #[.val (.int k)] [(.ref tINVALID_JSON)])) _
      jvm_step X3.here [X3.here.top, hx, (hb hby d1_7), X3.method', Bd.returns, Value.isRef, FieldType.isReference]
      first | (intro acts; rw [hr _ acts rfl rfl rfl]) | rw [hr _ _ rfl rfl rfl]
      exact Steps.refl _
    · show Qtype Z k tINVALID_JSON tINVALID_PARAMETER tINVALID_REQUEST tUNAUTHORIZED tCARD_DECLINED tSANDBOX_ONLY tNOT_FOUND tMETHOD_NOT_ALLOWED tINVALID_STATE tREQUEST_IN_PROGRESS tREQUEST_TOO_LARGE tNO_PROCESSOR tIDEMPOTENCY_KEY_REUSED tWEBHOOKS_NOT_CONFIGURED tINTERNAL_ERROR h0 n0 _ T3.heap _
      rw [e3]
      exact ⟨tINVALID_JSON, rfl, N0, rfl, hp2, (by rw [show own_exp k = (400 : Int32) from by rw [hc2]; decide]; exact hp3)⟩
  · have pre4 : ∀ tg_, Steps p.tables e below (s₁.setTop (mkF m 10 #[.val (.int k)] [(.int (1 : Int32)), (.int k)])) tg_ → Steps p.tables e below (s₁.setTop (entryFrame m #[(.int k)] 1)) tg_ := by
      intro tg_ kt_
      refine pre1 tg_ ?_
      refine XS.ifYes X0.here hx rfl (pc0 := 1) (pc' := 8) rfl (hb hby d1_1) rfl ((if0 _ _).trans (feq hc2).2) (by decide) (by decide) ?_
      refine XS.iloadN X0.here hx rfl (hb hby d1_8) rfl ?_
      show Steps p.tables e below (s₁.setTop (mkF m 9 #[.val (.int k)] [(.int k)])) _
      refine XS.iconst X0.here hx rfl (hb hby d1_9) ?_
      exact kt_
    by_cases hc5 : k = (1 : Int32)
    · obtain ⟨T6, X6, e6, st6⟩ := getS2 X0 hx hZ hown (host := "") (Or.inl (hw _ w_317)) Via.refl e0 (hp4.ext O0.2) (g := (mkF m 13 #[.val (.int k)] [])) rfl (hb hby d1_13)
      obtain ⟨fs, hr, hrun, hended, hW, hsame⟩ := X6.leave (v := some (.ref tINVALID_PARAMETER)) (fun h => by rw [Bd.returns] at h; cases h)
      refine ⟨_, _, pre4 _ ?_, hrun, hended, _, _, rfl, ?_, ⟨_, rfl⟩, hW, hsame.mono (by decide) (by decide)⟩
      · refine XS.icmpNo X0.here hx rfl (hb hby d1_10) rfl (teq hc5).2 ?_
        show Steps p.tables e below (s₁.setTop (mkF m 13 #[.val (.int k)] [])) _
        refine st6 _ ?_
        show Steps p.tables e below (T6.setTop (mkF m 16 #[.val (.int k)] [(.ref tINVALID_PARAMETER)])) _
        jvm_step X6.here [X6.here.top, hx, (hb hby d1_16), X6.method', Bd.returns, Value.isRef, FieldType.isReference]
        first | (intro acts; rw [hr _ acts rfl rfl rfl]) | rw [hr _ _ rfl rfl rfl]
        exact Steps.refl _
      · show Qtype Z k tINVALID_JSON tINVALID_PARAMETER tINVALID_REQUEST tUNAUTHORIZED tCARD_DECLINED tSANDBOX_ONLY tNOT_FOUND tMETHOD_NOT_ALLOWED tINVALID_STATE tREQUEST_IN_PROGRESS tREQUEST_TOO_LARGE tNO_PROCESSOR tIDEMPOTENCY_KEY_REUSED tWEBHOOKS_NOT_CONFIGURED tINTERNAL_ERROR h0 n0 _ T6.heap _
        rw [e6]
        exact ⟨tINVALID_PARAMETER, rfl, N0, rfl, hp5, (by rw [show own_exp k = (400 : Int32) from by rw [hc5]; decide]; exact hp6)⟩
    · have pre7 : ∀ tg_, Steps p.tables e below (s₁.setTop (mkF m 19 #[.val (.int k)] [(.int (2 : Int32)), (.int k)])) tg_ → Steps p.tables e below (s₁.setTop (entryFrame m #[(.int k)] 1)) tg_ := by
        intro tg_ kt_
        refine pre4 tg_ ?_
        refine XS.icmpYes X0.here hx rfl (pc0 := 10) (pc' := 17) rfl (hb hby d1_10) rfl (feq hc5).2 (by decide) (by decide) ?_
        refine XS.iloadN X0.here hx rfl (hb hby d1_17) rfl ?_
        refine XS.iconst X0.here hx rfl (hb hby d1_18) ?_
        exact kt_
      by_cases hc8 : k = (2 : Int32)
      · obtain ⟨T9, X9, e9, st9⟩ := getS2 X0 hx hZ hown (host := "") (Or.inl (hw _ w_52)) Via.refl e0 (hp7.ext O0.2) (g := (mkF m 22 #[.val (.int k)] [])) rfl (hb hby d1_22)
        obtain ⟨fs, hr, hrun, hended, hW, hsame⟩ := X9.leave (v := some (.ref tINVALID_REQUEST)) (fun h => by rw [Bd.returns] at h; cases h)
        refine ⟨_, _, pre7 _ ?_, hrun, hended, _, _, rfl, ?_, ⟨_, rfl⟩, hW, hsame.mono (by decide) (by decide)⟩
        · show Steps p.tables e below (s₁.setTop (mkF m 19 #[.val (.int k)] [(.int (2 : Int32)), (.int k)])) _
          refine XS.icmpNo X0.here hx rfl (hb hby d1_19) rfl (teq hc8).2 ?_
          show Steps p.tables e below (s₁.setTop (mkF m 22 #[.val (.int k)] [])) _
          refine st9 _ ?_
          show Steps p.tables e below (T9.setTop (mkF m 25 #[.val (.int k)] [(.ref tINVALID_REQUEST)])) _
          jvm_step X9.here [X9.here.top, hx, (hb hby d1_25), X9.method', Bd.returns, Value.isRef, FieldType.isReference]
          first | (intro acts; rw [hr _ acts rfl rfl rfl]) | rw [hr _ _ rfl rfl rfl]
          exact Steps.refl _
        · show Qtype Z k tINVALID_JSON tINVALID_PARAMETER tINVALID_REQUEST tUNAUTHORIZED tCARD_DECLINED tSANDBOX_ONLY tNOT_FOUND tMETHOD_NOT_ALLOWED tINVALID_STATE tREQUEST_IN_PROGRESS tREQUEST_TOO_LARGE tNO_PROCESSOR tIDEMPOTENCY_KEY_REUSED tWEBHOOKS_NOT_CONFIGURED tINTERNAL_ERROR h0 n0 _ T9.heap _
          rw [e9]
          exact ⟨tINVALID_REQUEST, rfl, N0, rfl, hp8, (by rw [show own_exp k = (400 : Int32) from by rw [hc8]; decide]; exact hp9)⟩
      · have pre10 : ∀ tg_, Steps p.tables e below (s₁.setTop (mkF m 28 #[.val (.int k)] [(.int (3 : Int32)), (.int k)])) tg_ → Steps p.tables e below (s₁.setTop (entryFrame m #[(.int k)] 1)) tg_ := by
          intro tg_ kt_
          refine pre7 tg_ ?_
          show Steps p.tables e below (s₁.setTop (mkF m 19 #[.val (.int k)] [(.int (2 : Int32)), (.int k)])) _
          refine XS.icmpYes X0.here hx rfl (pc0 := 19) (pc' := 26) rfl (hb hby d1_19) rfl (feq hc8).2 (by decide) (by decide) ?_
          refine XS.iloadN X0.here hx rfl (hb hby d1_26) rfl ?_
          refine XS.iconst X0.here hx rfl (hb hby d1_27) ?_
          exact kt_
        by_cases hc11 : k = (3 : Int32)
        · obtain ⟨T12, X12, e12, st12⟩ := getS2 X0 hx hZ hown (host := "") (Or.inl (hw _ w_50)) Via.refl e0 (hp10.ext O0.2) (g := (mkF m 31 #[.val (.int k)] [])) rfl (hb hby d1_31)
          obtain ⟨fs, hr, hrun, hended, hW, hsame⟩ := X12.leave (v := some (.ref tUNAUTHORIZED)) (fun h => by rw [Bd.returns] at h; cases h)
          refine ⟨_, _, pre10 _ ?_, hrun, hended, _, _, rfl, ?_, ⟨_, rfl⟩, hW, hsame.mono (by decide) (by decide)⟩
          · refine XS.icmpNo X0.here hx rfl (hb hby d1_28) rfl (teq hc11).2 ?_
            show Steps p.tables e below (s₁.setTop (mkF m 31 #[.val (.int k)] [])) _
            refine st12 _ ?_
            show Steps p.tables e below (T12.setTop (mkF m 34 #[.val (.int k)] [(.ref tUNAUTHORIZED)])) _
            jvm_step X12.here [X12.here.top, hx, (hb hby d1_34), X12.method', Bd.returns, Value.isRef, FieldType.isReference]
            first | (intro acts; rw [hr _ acts rfl rfl rfl]) | rw [hr _ _ rfl rfl rfl]
            exact Steps.refl _
          · show Qtype Z k tINVALID_JSON tINVALID_PARAMETER tINVALID_REQUEST tUNAUTHORIZED tCARD_DECLINED tSANDBOX_ONLY tNOT_FOUND tMETHOD_NOT_ALLOWED tINVALID_STATE tREQUEST_IN_PROGRESS tREQUEST_TOO_LARGE tNO_PROCESSOR tIDEMPOTENCY_KEY_REUSED tWEBHOOKS_NOT_CONFIGURED tINTERNAL_ERROR h0 n0 _ T12.heap _
            rw [e12]
            exact ⟨tUNAUTHORIZED, rfl, N0, rfl, hp11, (by rw [show own_exp k = (401 : Int32) from by rw [hc11]; decide]; exact hp12)⟩
        · have pre13 : ∀ tg_, Steps p.tables e below (s₁.setTop (mkF m 37 #[.val (.int k)] [(.int (4 : Int32)), (.int k)])) tg_ → Steps p.tables e below (s₁.setTop (entryFrame m #[(.int k)] 1)) tg_ := by
            intro tg_ kt_
            refine pre10 tg_ ?_
            refine XS.icmpYes X0.here hx rfl (pc0 := 28) (pc' := 35) rfl (hb hby d1_28) rfl (feq hc11).2 (by decide) (by decide) ?_
            show Steps p.tables e below (s₁.setTop (mkF m 35 #[.val (.int k)] [])) _
            refine XS.iloadN X0.here hx rfl (hb hby d1_35) rfl ?_
            refine XS.iconst X0.here hx rfl (hb hby d1_36) ?_
            exact kt_
          by_cases hc14 : k = (4 : Int32)
          · obtain ⟨T15, X15, e15, st15⟩ := getS2 X0 hx hZ hown (host := "") (Or.inl (hw _ w_309)) Via.refl e0 (hp13.ext O0.2) (g := (mkF m 40 #[.val (.int k)] [])) rfl (hb hby d1_40)
            obtain ⟨fs, hr, hrun, hended, hW, hsame⟩ := X15.leave (v := some (.ref tCARD_DECLINED)) (fun h => by rw [Bd.returns] at h; cases h)
            refine ⟨_, _, pre13 _ ?_, hrun, hended, _, _, rfl, ?_, ⟨_, rfl⟩, hW, hsame.mono (by decide) (by decide)⟩
            · refine XS.icmpNo X0.here hx rfl (hb hby d1_37) rfl (teq hc14).2 ?_
              show Steps p.tables e below (s₁.setTop (mkF m 40 #[.val (.int k)] [])) _
              refine st15 _ ?_
              show Steps p.tables e below (T15.setTop (mkF m 43 #[.val (.int k)] [(.ref tCARD_DECLINED)])) _
              jvm_step X15.here [X15.here.top, hx, (hb hby d1_43), X15.method', Bd.returns, Value.isRef, FieldType.isReference]
              first | (intro acts; rw [hr _ acts rfl rfl rfl]) | rw [hr _ _ rfl rfl rfl]
              exact Steps.refl _
            · show Qtype Z k tINVALID_JSON tINVALID_PARAMETER tINVALID_REQUEST tUNAUTHORIZED tCARD_DECLINED tSANDBOX_ONLY tNOT_FOUND tMETHOD_NOT_ALLOWED tINVALID_STATE tREQUEST_IN_PROGRESS tREQUEST_TOO_LARGE tNO_PROCESSOR tIDEMPOTENCY_KEY_REUSED tWEBHOOKS_NOT_CONFIGURED tINTERNAL_ERROR h0 n0 _ T15.heap _
              rw [e15]
              exact ⟨tCARD_DECLINED, rfl, N0, rfl, hp14, (by rw [show own_exp k = (402 : Int32) from by rw [hc14]; decide]; exact hp15)⟩
          · have pre16 : ∀ tg_, Steps p.tables e below (s₁.setTop (mkF m 46 #[.val (.int k)] [(.int (5 : Int32)), (.int k)])) tg_ → Steps p.tables e below (s₁.setTop (entryFrame m #[(.int k)] 1)) tg_ := by
              intro tg_ kt_
              refine pre13 tg_ ?_
              refine XS.icmpYes X0.here hx rfl (pc0 := 37) (pc' := 44) rfl (hb hby d1_37) rfl (feq hc14).2 (by decide) (by decide) ?_
              refine XS.iloadN X0.here hx rfl (hb hby d1_44) rfl ?_
              show Steps p.tables e below (s₁.setTop (mkF m 45 #[.val (.int k)] [(.int k)])) _
              refine XS.iconst X0.here hx rfl (hb hby d1_45) ?_
              exact kt_
            by_cases hc17 : k = (5 : Int32)
            · obtain ⟨T18, X18, e18, st18⟩ := getS2 X0 hx hZ hown (host := "") (Or.inl (hw _ w_356)) Via.refl e0 (hp16.ext O0.2) (g := (mkF m 49 #[.val (.int k)] [])) rfl (hb hby d1_49)
              obtain ⟨fs, hr, hrun, hended, hW, hsame⟩ := X18.leave (v := some (.ref tSANDBOX_ONLY)) (fun h => by rw [Bd.returns] at h; cases h)
              refine ⟨_, _, pre16 _ ?_, hrun, hended, _, _, rfl, ?_, ⟨_, rfl⟩, hW, hsame.mono (by decide) (by decide)⟩
              · refine XS.icmpNo X0.here hx rfl (hb hby d1_46) rfl (teq hc17).2 ?_
                show Steps p.tables e below (s₁.setTop (mkF m 49 #[.val (.int k)] [])) _
                refine st18 _ ?_
                show Steps p.tables e below (T18.setTop (mkF m 52 #[.val (.int k)] [(.ref tSANDBOX_ONLY)])) _
                jvm_step X18.here [X18.here.top, hx, (hb hby d1_52), X18.method', Bd.returns, Value.isRef, FieldType.isReference]
                first | (intro acts; rw [hr _ acts rfl rfl rfl]) | rw [hr _ _ rfl rfl rfl]
                exact Steps.refl _
              · show Qtype Z k tINVALID_JSON tINVALID_PARAMETER tINVALID_REQUEST tUNAUTHORIZED tCARD_DECLINED tSANDBOX_ONLY tNOT_FOUND tMETHOD_NOT_ALLOWED tINVALID_STATE tREQUEST_IN_PROGRESS tREQUEST_TOO_LARGE tNO_PROCESSOR tIDEMPOTENCY_KEY_REUSED tWEBHOOKS_NOT_CONFIGURED tINTERNAL_ERROR h0 n0 _ T18.heap _
                rw [e18]
                exact ⟨tSANDBOX_ONLY, rfl, N0, rfl, hp17, (by rw [show own_exp k = (403 : Int32) from by rw [hc17]; decide]; exact hp18)⟩
            · have pre19 : ∀ tg_, Steps p.tables e below (s₁.setTop (mkF m 56 #[.val (.int k)] [(.int (6 : Int32)), (.int k)])) tg_ → Steps p.tables e below (s₁.setTop (entryFrame m #[(.int k)] 1)) tg_ := by
                intro tg_ kt_
                refine pre16 tg_ ?_
                refine XS.icmpYes X0.here hx rfl (pc0 := 46) (pc' := 53) rfl (hb hby d1_46) rfl (feq hc17).2 (by decide) (by decide) ?_
                refine XS.iloadN X0.here hx rfl (hb hby d1_53) rfl ?_
                refine XS.bipush X0.here hx rfl (hb hby d1_54) ?_
                exact kt_
              by_cases hc20 : k = (6 : Int32)
              · obtain ⟨T21, X21, e21, st21⟩ := getS2 X0 hx hZ hown (host := "") (Or.inl (hw _ w_350)) Via.refl e0 (hp19.ext O0.2) (g := (mkF m 59 #[.val (.int k)] [])) rfl (hb hby d1_59)
                obtain ⟨fs, hr, hrun, hended, hW, hsame⟩ := X21.leave (v := some (.ref tNOT_FOUND)) (fun h => by rw [Bd.returns] at h; cases h)
                refine ⟨_, _, pre19 _ ?_, hrun, hended, _, _, rfl, ?_, ⟨_, rfl⟩, hW, hsame.mono (by decide) (by decide)⟩
                · show Steps p.tables e below (s₁.setTop (mkF m 56 #[.val (.int k)] [(.int (6 : Int32)), (.int k)])) _
                  refine XS.icmpNo X0.here hx rfl (hb hby d1_56) rfl (teq hc20).2 ?_
                  show Steps p.tables e below (s₁.setTop (mkF m 59 #[.val (.int k)] [])) _
                  refine st21 _ ?_
                  show Steps p.tables e below (T21.setTop (mkF m 62 #[.val (.int k)] [(.ref tNOT_FOUND)])) _
                  jvm_step X21.here [X21.here.top, hx, (hb hby d1_62), X21.method', Bd.returns, Value.isRef, FieldType.isReference]
                  first | (intro acts; rw [hr _ acts rfl rfl rfl]) | rw [hr _ _ rfl rfl rfl]
                  exact Steps.refl _
                · show Qtype Z k tINVALID_JSON tINVALID_PARAMETER tINVALID_REQUEST tUNAUTHORIZED tCARD_DECLINED tSANDBOX_ONLY tNOT_FOUND tMETHOD_NOT_ALLOWED tINVALID_STATE tREQUEST_IN_PROGRESS tREQUEST_TOO_LARGE tNO_PROCESSOR tIDEMPOTENCY_KEY_REUSED tWEBHOOKS_NOT_CONFIGURED tINTERNAL_ERROR h0 n0 _ T21.heap _
                  rw [e21]
                  exact ⟨tNOT_FOUND, rfl, N0, rfl, hp20, (by rw [show own_exp k = (404 : Int32) from by rw [hc20]; decide]; exact hp21)⟩
              · have pre22 : ∀ tg_, Steps p.tables e below (s₁.setTop (mkF m 66 #[.val (.int k)] [(.int (7 : Int32)), (.int k)])) tg_ → Steps p.tables e below (s₁.setTop (entryFrame m #[(.int k)] 1)) tg_ := by
                  intro tg_ kt_
                  refine pre19 tg_ ?_
                  show Steps p.tables e below (s₁.setTop (mkF m 56 #[.val (.int k)] [(.int (6 : Int32)), (.int k)])) _
                  refine XS.icmpYes X0.here hx rfl (pc0 := 56) (pc' := 63) rfl (hb hby d1_56) rfl (feq hc20).2 (by decide) (by decide) ?_
                  refine XS.iloadN X0.here hx rfl (hb hby d1_63) rfl ?_
                  refine XS.bipush X0.here hx rfl (hb hby d1_64) ?_
                  exact kt_
                by_cases hc23 : k = (7 : Int32)
                · obtain ⟨T24, X24, e24, st24⟩ := getS2 X0 hx hZ hown (host := "") (Or.inl (hw _ w_344)) Via.refl e0 (hp22.ext O0.2) (g := (mkF m 69 #[.val (.int k)] [])) rfl (hb hby d1_69)
                  obtain ⟨fs, hr, hrun, hended, hW, hsame⟩ := X24.leave (v := some (.ref tMETHOD_NOT_ALLOWED)) (fun h => by rw [Bd.returns] at h; cases h)
                  refine ⟨_, _, pre22 _ ?_, hrun, hended, _, _, rfl, ?_, ⟨_, rfl⟩, hW, hsame.mono (by decide) (by decide)⟩
                  · refine XS.icmpNo X0.here hx rfl (hb hby d1_66) rfl (teq hc23).2 ?_
                    show Steps p.tables e below (s₁.setTop (mkF m 69 #[.val (.int k)] [])) _
                    refine st24 _ ?_
                    show Steps p.tables e below (T24.setTop (mkF m 72 #[.val (.int k)] [(.ref tMETHOD_NOT_ALLOWED)])) _
                    jvm_step X24.here [X24.here.top, hx, (hb hby d1_72), X24.method', Bd.returns, Value.isRef, FieldType.isReference]
                    first | (intro acts; rw [hr _ acts rfl rfl rfl]) | rw [hr _ _ rfl rfl rfl]
                    exact Steps.refl _
                  · show Qtype Z k tINVALID_JSON tINVALID_PARAMETER tINVALID_REQUEST tUNAUTHORIZED tCARD_DECLINED tSANDBOX_ONLY tNOT_FOUND tMETHOD_NOT_ALLOWED tINVALID_STATE tREQUEST_IN_PROGRESS tREQUEST_TOO_LARGE tNO_PROCESSOR tIDEMPOTENCY_KEY_REUSED tWEBHOOKS_NOT_CONFIGURED tINTERNAL_ERROR h0 n0 _ T24.heap _
                    rw [e24]
                    exact ⟨tMETHOD_NOT_ALLOWED, rfl, N0, rfl, hp23, (by rw [show own_exp k = (405 : Int32) from by rw [hc23]; decide]; exact hp24)⟩
                · have pre25 : ∀ tg_, Steps p.tables e below (s₁.setTop (mkF m 76 #[.val (.int k)] [(.int (8 : Int32)), (.int k)])) tg_ → Steps p.tables e below (s₁.setTop (entryFrame m #[(.int k)] 1)) tg_ := by
                    intro tg_ kt_
                    refine pre22 tg_ ?_
                    refine XS.icmpYes X0.here hx rfl (pc0 := 66) (pc' := 73) rfl (hb hby d1_66) rfl (feq hc23).2 (by decide) (by decide) ?_
                    show Steps p.tables e below (s₁.setTop (mkF m 73 #[.val (.int k)] [])) _
                    refine XS.iloadN X0.here hx rfl (hb hby d1_73) rfl ?_
                    refine XS.bipush X0.here hx rfl (hb hby d1_74) ?_
                    exact kt_
                  by_cases hc26 : k = (8 : Int32)
                  · obtain ⟨T27, X27, e27, st27⟩ := getS2 X0 hx hZ hown (host := "") (Or.inl (hw _ w_358)) Via.refl e0 (hp25.ext O0.2) (g := (mkF m 79 #[.val (.int k)] [])) rfl (hb hby d1_79)
                    obtain ⟨fs, hr, hrun, hended, hW, hsame⟩ := X27.leave (v := some (.ref tINVALID_STATE)) (fun h => by rw [Bd.returns] at h; cases h)
                    refine ⟨_, _, pre25 _ ?_, hrun, hended, _, _, rfl, ?_, ⟨_, rfl⟩, hW, hsame.mono (by decide) (by decide)⟩
                    · refine XS.icmpNo X0.here hx rfl (hb hby d1_76) rfl (teq hc26).2 ?_
                      show Steps p.tables e below (s₁.setTop (mkF m 79 #[.val (.int k)] [])) _
                      refine st27 _ ?_
                      show Steps p.tables e below (T27.setTop (mkF m 82 #[.val (.int k)] [(.ref tINVALID_STATE)])) _
                      jvm_step X27.here [X27.here.top, hx, (hb hby d1_82), X27.method', Bd.returns, Value.isRef, FieldType.isReference]
                      first | (intro acts; rw [hr _ acts rfl rfl rfl]) | rw [hr _ _ rfl rfl rfl]
                      exact Steps.refl _
                    · show Qtype Z k tINVALID_JSON tINVALID_PARAMETER tINVALID_REQUEST tUNAUTHORIZED tCARD_DECLINED tSANDBOX_ONLY tNOT_FOUND tMETHOD_NOT_ALLOWED tINVALID_STATE tREQUEST_IN_PROGRESS tREQUEST_TOO_LARGE tNO_PROCESSOR tIDEMPOTENCY_KEY_REUSED tWEBHOOKS_NOT_CONFIGURED tINTERNAL_ERROR h0 n0 _ T27.heap _
                      rw [e27]
                      exact ⟨tINVALID_STATE, rfl, N0, rfl, hp26, (by rw [show own_exp k = (409 : Int32) from by rw [hc26]; decide]; exact hp27)⟩
                  · have pre28 : ∀ tg_, Steps p.tables e below (s₁.setTop (mkF m 86 #[.val (.int k)] [(.int (9 : Int32)), (.int k)])) tg_ → Steps p.tables e below (s₁.setTop (entryFrame m #[(.int k)] 1)) tg_ := by
                      intro tg_ kt_
                      refine pre25 tg_ ?_
                      refine XS.icmpYes X0.here hx rfl (pc0 := 76) (pc' := 83) rfl (hb hby d1_76) rfl (feq hc26).2 (by decide) (by decide) ?_
                      refine XS.iloadN X0.here hx rfl (hb hby d1_83) rfl ?_
                      show Steps p.tables e below (s₁.setTop (mkF m 84 #[.val (.int k)] [(.int k)])) _
                      refine XS.bipush X0.here hx rfl (hb hby d1_84) ?_
                      exact kt_
                    by_cases hc29 : k = (9 : Int32)
                    · obtain ⟨T30, X30, e30, st30⟩ := getS2 X0 hx hZ hown (host := "") (Or.inl (hw _ w_348)) Via.refl e0 (hp28.ext O0.2) (g := (mkF m 89 #[.val (.int k)] [])) rfl (hb hby d1_89)
                      obtain ⟨fs, hr, hrun, hended, hW, hsame⟩ := X30.leave (v := some (.ref tREQUEST_IN_PROGRESS)) (fun h => by rw [Bd.returns] at h; cases h)
                      refine ⟨_, _, pre28 _ ?_, hrun, hended, _, _, rfl, ?_, ⟨_, rfl⟩, hW, hsame.mono (by decide) (by decide)⟩
                      · refine XS.icmpNo X0.here hx rfl (hb hby d1_86) rfl (teq hc29).2 ?_
                        show Steps p.tables e below (s₁.setTop (mkF m 89 #[.val (.int k)] [])) _
                        refine st30 _ ?_
                        show Steps p.tables e below (T30.setTop (mkF m 92 #[.val (.int k)] [(.ref tREQUEST_IN_PROGRESS)])) _
                        jvm_step X30.here [X30.here.top, hx, (hb hby d1_92), X30.method', Bd.returns, Value.isRef, FieldType.isReference]
                        first | (intro acts; rw [hr _ acts rfl rfl rfl]) | rw [hr _ _ rfl rfl rfl]
                        exact Steps.refl _
                      · show Qtype Z k tINVALID_JSON tINVALID_PARAMETER tINVALID_REQUEST tUNAUTHORIZED tCARD_DECLINED tSANDBOX_ONLY tNOT_FOUND tMETHOD_NOT_ALLOWED tINVALID_STATE tREQUEST_IN_PROGRESS tREQUEST_TOO_LARGE tNO_PROCESSOR tIDEMPOTENCY_KEY_REUSED tWEBHOOKS_NOT_CONFIGURED tINTERNAL_ERROR h0 n0 _ T30.heap _
                        rw [e30]
                        exact ⟨tREQUEST_IN_PROGRESS, rfl, N0, rfl, hp29, (by rw [show own_exp k = (409 : Int32) from by rw [hc29]; decide]; exact hp30)⟩
                    · have pre31 : ∀ tg_, Steps p.tables e below (s₁.setTop (mkF m 96 #[.val (.int k)] [(.int (10 : Int32)), (.int k)])) tg_ → Steps p.tables e below (s₁.setTop (entryFrame m #[(.int k)] 1)) tg_ := by
                        intro tg_ kt_
                        refine pre28 tg_ ?_
                        refine XS.icmpYes X0.here hx rfl (pc0 := 86) (pc' := 93) rfl (hb hby d1_86) rfl (feq hc29).2 (by decide) (by decide) ?_
                        refine XS.iloadN X0.here hx rfl (hb hby d1_93) rfl ?_
                        refine XS.bipush X0.here hx rfl (hb hby d1_94) ?_
                        exact kt_
                      by_cases hc32 : k = (10 : Int32)
                      · obtain ⟨T33, X33, e33, st33⟩ := getS2 X0 hx hZ hown (host := "") (Or.inl (hw _ w_311)) Via.refl e0 (hp31.ext O0.2) (g := (mkF m 99 #[.val (.int k)] [])) rfl (hb hby d1_99)
                        obtain ⟨fs, hr, hrun, hended, hW, hsame⟩ := X33.leave (v := some (.ref tREQUEST_TOO_LARGE)) (fun h => by rw [Bd.returns] at h; cases h)
                        refine ⟨_, _, pre31 _ ?_, hrun, hended, _, _, rfl, ?_, ⟨_, rfl⟩, hW, hsame.mono (by decide) (by decide)⟩
                        · show Steps p.tables e below (s₁.setTop (mkF m 96 #[.val (.int k)] [(.int (10 : Int32)), (.int k)])) _
                          refine XS.icmpNo X0.here hx rfl (hb hby d1_96) rfl (teq hc32).2 ?_
                          show Steps p.tables e below (s₁.setTop (mkF m 99 #[.val (.int k)] [])) _
                          refine st33 _ ?_
                          show Steps p.tables e below (T33.setTop (mkF m 102 #[.val (.int k)] [(.ref tREQUEST_TOO_LARGE)])) _
                          jvm_step X33.here [X33.here.top, hx, (hb hby d1_102), X33.method', Bd.returns, Value.isRef, FieldType.isReference]
                          first | (intro acts; rw [hr _ acts rfl rfl rfl]) | rw [hr _ _ rfl rfl rfl]
                          exact Steps.refl _
                        · show Qtype Z k tINVALID_JSON tINVALID_PARAMETER tINVALID_REQUEST tUNAUTHORIZED tCARD_DECLINED tSANDBOX_ONLY tNOT_FOUND tMETHOD_NOT_ALLOWED tINVALID_STATE tREQUEST_IN_PROGRESS tREQUEST_TOO_LARGE tNO_PROCESSOR tIDEMPOTENCY_KEY_REUSED tWEBHOOKS_NOT_CONFIGURED tINTERNAL_ERROR h0 n0 _ T33.heap _
                          rw [e33]
                          exact ⟨tREQUEST_TOO_LARGE, rfl, N0, rfl, hp32, (by rw [show own_exp k = (413 : Int32) from by rw [hc32]; decide]; exact hp33)⟩
                      · have pre34 : ∀ tg_, Steps p.tables e below (s₁.setTop (mkF m 106 #[.val (.int k)] [(.int (11 : Int32)), (.int k)])) tg_ → Steps p.tables e below (s₁.setTop (entryFrame m #[(.int k)] 1)) tg_ := by
                          intro tg_ kt_
                          refine pre31 tg_ ?_
                          show Steps p.tables e below (s₁.setTop (mkF m 96 #[.val (.int k)] [(.int (10 : Int32)), (.int k)])) _
                          refine XS.icmpYes X0.here hx rfl (pc0 := 96) (pc' := 103) rfl (hb hby d1_96) rfl (feq hc32).2 (by decide) (by decide) ?_
                          refine XS.iloadN X0.here hx rfl (hb hby d1_103) rfl ?_
                          refine XS.bipush X0.here hx rfl (hb hby d1_104) ?_
                          exact kt_
                        by_cases hc35 : k = (11 : Int32)
                        · obtain ⟨T36, X36, e36, st36⟩ := getS2 X0 hx hZ hown (host := "") (Or.inl (hw _ w_346)) Via.refl e0 (hp34.ext O0.2) (g := (mkF m 109 #[.val (.int k)] [])) rfl (hb hby d1_109)
                          obtain ⟨fs, hr, hrun, hended, hW, hsame⟩ := X36.leave (v := some (.ref tNO_PROCESSOR)) (fun h => by rw [Bd.returns] at h; cases h)
                          refine ⟨_, _, pre34 _ ?_, hrun, hended, _, _, rfl, ?_, ⟨_, rfl⟩, hW, hsame.mono (by decide) (by decide)⟩
                          · refine XS.icmpNo X0.here hx rfl (hb hby d1_106) rfl (teq hc35).2 ?_
                            show Steps p.tables e below (s₁.setTop (mkF m 109 #[.val (.int k)] [])) _
                            refine st36 _ ?_
                            show Steps p.tables e below (T36.setTop (mkF m 112 #[.val (.int k)] [(.ref tNO_PROCESSOR)])) _
                            jvm_step X36.here [X36.here.top, hx, (hb hby d1_112), X36.method', Bd.returns, Value.isRef, FieldType.isReference]
                            first | (intro acts; rw [hr _ acts rfl rfl rfl]) | rw [hr _ _ rfl rfl rfl]
                            exact Steps.refl _
                          · show Qtype Z k tINVALID_JSON tINVALID_PARAMETER tINVALID_REQUEST tUNAUTHORIZED tCARD_DECLINED tSANDBOX_ONLY tNOT_FOUND tMETHOD_NOT_ALLOWED tINVALID_STATE tREQUEST_IN_PROGRESS tREQUEST_TOO_LARGE tNO_PROCESSOR tIDEMPOTENCY_KEY_REUSED tWEBHOOKS_NOT_CONFIGURED tINTERNAL_ERROR h0 n0 _ T36.heap _
                            rw [e36]
                            exact ⟨tNO_PROCESSOR, rfl, N0, rfl, hp35, (by rw [show own_exp k = (422 : Int32) from by rw [hc35]; decide]; exact hp36)⟩
                        · have pre37 : ∀ tg_, Steps p.tables e below (s₁.setTop (mkF m 116 #[.val (.int k)] [(.int (12 : Int32)), (.int k)])) tg_ → Steps p.tables e below (s₁.setTop (entryFrame m #[(.int k)] 1)) tg_ := by
                            intro tg_ kt_
                            refine pre34 tg_ ?_
                            refine XS.icmpYes X0.here hx rfl (pc0 := 106) (pc' := 113) rfl (hb hby d1_106) rfl (feq hc35).2 (by decide) (by decide) ?_
                            show Steps p.tables e below (s₁.setTop (mkF m 113 #[.val (.int k)] [])) _
                            refine XS.iloadN X0.here hx rfl (hb hby d1_113) rfl ?_
                            refine XS.bipush X0.here hx rfl (hb hby d1_114) ?_
                            exact kt_
                          by_cases hc38 : k = (12 : Int32)
                          · obtain ⟨T39, X39, e39, st39⟩ := getS2 X0 hx hZ hown (host := "") (Or.inl (hw _ w_354)) Via.refl e0 (hp37.ext O0.2) (g := (mkF m 119 #[.val (.int k)] [])) rfl (hb hby d1_119)
                            obtain ⟨fs, hr, hrun, hended, hW, hsame⟩ := X39.leave (v := some (.ref tIDEMPOTENCY_KEY_REUSED)) (fun h => by rw [Bd.returns] at h; cases h)
                            refine ⟨_, _, pre37 _ ?_, hrun, hended, _, _, rfl, ?_, ⟨_, rfl⟩, hW, hsame.mono (by decide) (by decide)⟩
                            · refine XS.icmpNo X0.here hx rfl (hb hby d1_116) rfl (teq hc38).2 ?_
                              show Steps p.tables e below (s₁.setTop (mkF m 119 #[.val (.int k)] [])) _
                              refine st39 _ ?_
                              show Steps p.tables e below (T39.setTop (mkF m 122 #[.val (.int k)] [(.ref tIDEMPOTENCY_KEY_REUSED)])) _
                              jvm_step X39.here [X39.here.top, hx, (hb hby d1_122), X39.method', Bd.returns, Value.isRef, FieldType.isReference]
                              first | (intro acts; rw [hr _ acts rfl rfl rfl]) | rw [hr _ _ rfl rfl rfl]
                              exact Steps.refl _
                            · show Qtype Z k tINVALID_JSON tINVALID_PARAMETER tINVALID_REQUEST tUNAUTHORIZED tCARD_DECLINED tSANDBOX_ONLY tNOT_FOUND tMETHOD_NOT_ALLOWED tINVALID_STATE tREQUEST_IN_PROGRESS tREQUEST_TOO_LARGE tNO_PROCESSOR tIDEMPOTENCY_KEY_REUSED tWEBHOOKS_NOT_CONFIGURED tINTERNAL_ERROR h0 n0 _ T39.heap _
                              rw [e39]
                              exact ⟨tIDEMPOTENCY_KEY_REUSED, rfl, N0, rfl, hp38, (by rw [show own_exp k = (422 : Int32) from by rw [hc38]; decide]; exact hp39)⟩
                          · have pre40 : ∀ tg_, Steps p.tables e below (s₁.setTop (mkF m 126 #[.val (.int k)] [(.int (13 : Int32)), (.int k)])) tg_ → Steps p.tables e below (s₁.setTop (entryFrame m #[(.int k)] 1)) tg_ := by
                              intro tg_ kt_
                              refine pre37 tg_ ?_
                              refine XS.icmpYes X0.here hx rfl (pc0 := 116) (pc' := 123) rfl (hb hby d1_116) rfl (feq hc38).2 (by decide) (by decide) ?_
                              refine XS.iloadN X0.here hx rfl (hb hby d1_123) rfl ?_
                              show Steps p.tables e below (s₁.setTop (mkF m 124 #[.val (.int k)] [(.int k)])) _
                              refine XS.bipush X0.here hx rfl (hb hby d1_124) ?_
                              exact kt_
                            by_cases hc41 : k = (13 : Int32)
                            · obtain ⟨T42, X42, e42, st42⟩ := getS2 X0 hx hZ hown (host := "") (Or.inl (hw _ w_360)) Via.refl e0 (hp40.ext O0.2) (g := (mkF m 129 #[.val (.int k)] [])) rfl (hb hby d1_129)
                              obtain ⟨fs, hr, hrun, hended, hW, hsame⟩ := X42.leave (v := some (.ref tWEBHOOKS_NOT_CONFIGURED)) (fun h => by rw [Bd.returns] at h; cases h)
                              refine ⟨_, _, pre40 _ ?_, hrun, hended, _, _, rfl, ?_, ⟨_, rfl⟩, hW, hsame.mono (by decide) (by decide)⟩
                              · refine XS.icmpNo X0.here hx rfl (hb hby d1_126) rfl (teq hc41).2 ?_
                                show Steps p.tables e below (s₁.setTop (mkF m 129 #[.val (.int k)] [])) _
                                refine st42 _ ?_
                                show Steps p.tables e below (T42.setTop (mkF m 132 #[.val (.int k)] [(.ref tWEBHOOKS_NOT_CONFIGURED)])) _
                                jvm_step X42.here [X42.here.top, hx, (hb hby d1_132), X42.method', Bd.returns, Value.isRef, FieldType.isReference]
                                first | (intro acts; rw [hr _ acts rfl rfl rfl]) | rw [hr _ _ rfl rfl rfl]
                                exact Steps.refl _
                              · show Qtype Z k tINVALID_JSON tINVALID_PARAMETER tINVALID_REQUEST tUNAUTHORIZED tCARD_DECLINED tSANDBOX_ONLY tNOT_FOUND tMETHOD_NOT_ALLOWED tINVALID_STATE tREQUEST_IN_PROGRESS tREQUEST_TOO_LARGE tNO_PROCESSOR tIDEMPOTENCY_KEY_REUSED tWEBHOOKS_NOT_CONFIGURED tINTERNAL_ERROR h0 n0 _ T42.heap _
                                rw [e42]
                                exact ⟨tWEBHOOKS_NOT_CONFIGURED, rfl, N0, rfl, hp41, (by rw [show own_exp k = (400 : Int32) from by rw [hc41]; decide]; exact hp42)⟩
                            · obtain ⟨T43, X43, e43, st43⟩ := getS2 X0 hx hZ hown (host := "") (Or.inl (hw _ w_352)) Via.refl e0 (hp43.ext O0.2) (g := (mkF m 133 #[.val (.int k)] [])) rfl (hb hby d1_133)
                              obtain ⟨fs, hr, hrun, hended, hW, hsame⟩ := X43.leave (v := some (.ref tINTERNAL_ERROR)) (fun h => by rw [Bd.returns] at h; cases h)
                              refine ⟨_, _, pre40 _ ?_, hrun, hended, _, _, rfl, ?_, ⟨_, rfl⟩, hW, hsame.mono (by decide) (by decide)⟩
                              · refine XS.icmpYes X0.here hx rfl (pc0 := 126) (pc' := 133) rfl (hb hby d1_126) rfl (feq hc41).2 (by decide) (by decide) ?_
                                show Steps p.tables e below (s₁.setTop (mkF m 133 #[.val (.int k)] [])) _
                                refine st43 _ ?_
                                show Steps p.tables e below (T43.setTop (mkF m 136 #[.val (.int k)] [(.ref tINTERNAL_ERROR)])) _
                                jvm_step X43.here [X43.here.top, hx, (hb hby d1_136), X43.method', Bd.returns, Value.isRef, FieldType.isReference]
                                first | (intro acts; rw [hr _ acts rfl rfl rfl]) | rw [hr _ _ rfl rfl rfl]
                                exact Steps.refl _
                              · show Qtype Z k tINVALID_JSON tINVALID_PARAMETER tINVALID_REQUEST tUNAUTHORIZED tCARD_DECLINED tSANDBOX_ONLY tNOT_FOUND tMETHOD_NOT_ALLOWED tINVALID_STATE tREQUEST_IN_PROGRESS tREQUEST_TOO_LARGE tNO_PROCESSOR tIDEMPOTENCY_KEY_REUSED tWEBHOOKS_NOT_CONFIGURED tINTERNAL_ERROR h0 n0 _ T43.heap _
                                rw [e43]
                                exact ⟨tINTERNAL_ERROR, rfl, N0, rfl, hp44, (by rw [show own_exp k = (500 : Int32) from by rw [own_k14 k hk hc2 hc5 hc8 hc11 hc14 hc17 hc20 hc23 hc26 hc29 hc32 hc35 hc38 hc41]; decide]; exact hp45)⟩
theorem d44_0 : decode method_3_code 0 = .ok (.iload_n 0, 1) := by decide +kernel
theorem d44_1 : decode method_3_code 1 = .ok (.iconst 2, 1) := by decide +kernel
theorem d44_2 : decode method_3_code 2 = .ok (.if_icmp .gt 7, 3) := by decide +kernel
theorem d44_9 : decode method_3_code 9 = .ok (.iload_n 0, 1) := by decide +kernel
theorem d44_10 : decode method_3_code 10 = .ok (.iconst 3, 1) := by decide +kernel
theorem d44_11 : decode method_3_code 11 = .ok (.if_icmp .ne 7, 3) := by decide +kernel
theorem d44_14 : decode method_3_code 14 = .ok (.sipush 401, 3) := by decide +kernel
theorem d44_17 : decode method_3_code 17 = .ok (.ireturn, 1) := by decide +kernel
theorem d44_18 : decode method_3_code 18 = .ok (.iload_n 0, 1) := by decide +kernel
theorem d44_19 : decode method_3_code 19 = .ok (.iconst 4, 1) := by decide +kernel
theorem d44_20 : decode method_3_code 20 = .ok (.if_icmp .ne 7, 3) := by decide +kernel
theorem d44_23 : decode method_3_code 23 = .ok (.sipush 402, 3) := by decide +kernel
theorem d44_26 : decode method_3_code 26 = .ok (.ireturn, 1) := by decide +kernel
theorem d44_27 : decode method_3_code 27 = .ok (.iload_n 0, 1) := by decide +kernel
theorem d44_28 : decode method_3_code 28 = .ok (.iconst 5, 1) := by decide +kernel
theorem d44_29 : decode method_3_code 29 = .ok (.if_icmp .ne 7, 3) := by decide +kernel
theorem d44_32 : decode method_3_code 32 = .ok (.sipush 403, 3) := by decide +kernel
theorem d44_35 : decode method_3_code 35 = .ok (.ireturn, 1) := by decide +kernel
theorem d44_36 : decode method_3_code 36 = .ok (.iload_n 0, 1) := by decide +kernel
theorem d44_37 : decode method_3_code 37 = .ok (.bipush 6, 2) := by decide +kernel
theorem d44_39 : decode method_3_code 39 = .ok (.if_icmp .ne 7, 3) := by decide +kernel
theorem d44_42 : decode method_3_code 42 = .ok (.sipush 404, 3) := by decide +kernel
theorem d44_45 : decode method_3_code 45 = .ok (.ireturn, 1) := by decide +kernel
theorem d44_46 : decode method_3_code 46 = .ok (.iload_n 0, 1) := by decide +kernel
theorem d44_47 : decode method_3_code 47 = .ok (.bipush 7, 2) := by decide +kernel
theorem d44_49 : decode method_3_code 49 = .ok (.if_icmp .ne 7, 3) := by decide +kernel
theorem d44_52 : decode method_3_code 52 = .ok (.sipush 405, 3) := by decide +kernel
theorem d44_55 : decode method_3_code 55 = .ok (.ireturn, 1) := by decide +kernel
theorem d44_56 : decode method_3_code 56 = .ok (.iload_n 0, 1) := by decide +kernel
theorem d44_57 : decode method_3_code 57 = .ok (.bipush 9, 2) := by decide +kernel
theorem d44_59 : decode method_3_code 59 = .ok (.if_icmp .gt 7, 3) := by decide +kernel
theorem d44_66 : decode method_3_code 66 = .ok (.iload_n 0, 1) := by decide +kernel
theorem d44_67 : decode method_3_code 67 = .ok (.bipush 10, 2) := by decide +kernel
theorem d44_69 : decode method_3_code 69 = .ok (.if_icmp .ne 7, 3) := by decide +kernel
theorem d44_72 : decode method_3_code 72 = .ok (.sipush 413, 3) := by decide +kernel
theorem d44_75 : decode method_3_code 75 = .ok (.ireturn, 1) := by decide +kernel
theorem d44_76 : decode method_3_code 76 = .ok (.iload_n 0, 1) := by decide +kernel
theorem d44_77 : decode method_3_code 77 = .ok (.bipush 12, 2) := by decide +kernel
theorem d44_79 : decode method_3_code 79 = .ok (.if_icmp .gt 7, 3) := by decide +kernel
theorem d44_86 : decode method_3_code 86 = .ok (.iload_n 0, 1) := by decide +kernel
theorem d44_87 : decode method_3_code 87 = .ok (.bipush 13, 2) := by decide +kernel
theorem d44_89 : decode method_3_code 89 = .ok (.if_icmp .ne 7, 3) := by decide +kernel
theorem d44_92 : decode method_3_code 92 = .ok (.sipush 400, 3) := by decide +kernel
theorem d44_95 : decode method_3_code 95 = .ok (.ireturn, 1) := by decide +kernel
theorem d44_96 : decode method_3_code 96 = .ok (.sipush 500, 3) := by decide +kernel
theorem d44_99 : decode method_3_code 99 = .ok (.ireturn, 1) := by decide +kernel
theorem d44_82 : decode method_3_code 82 = .ok (.sipush 422, 3) := by decide +kernel
theorem d44_85 : decode method_3_code 85 = .ok (.ireturn, 1) := by decide +kernel
theorem d44_62 : decode method_3_code 62 = .ok (.sipush 409, 3) := by decide +kernel
theorem d44_65 : decode method_3_code 65 = .ok (.ireturn, 1) := by decide +kernel
theorem d44_5 : decode method_3_code 5 = .ok (.sipush 400, 3) := by decide +kernel
theorem d44_8 : decode method_3_code 8 = .ok (.ireturn, 1) := by decide +kernel
abbrev mN1 : MethodName := ⟨"com/example/levy/levy/api/ApiExceptionStatusPinLaw", "expected", "(I)I"⟩
theorem ef_expected (m : MethodId) (x0 : Int32) : entryFrame m #[(.int x0)] 1 = mkF m 0 #[.val (.int x0)] [] := by first | (simp [entryFrame, mkF, argsToLocals, Value.category]; done) | rfl
def Qexpected (Z : State) (k : Int32) (h0 : Heap) (n0 : Nat) (v : Option Value) (h : Heap) (L : List Loc) : Prop := v = some (.int (own_exp k)) ∧ Fr n0 L ∧ h = h0
set_option maxRecDepth 65536 in
set_option maxHeartbeats 40000000 in
theorem rmexpected (l : Launch) (Z : State) (a0 : Array Value) (hw : ∀ d ∈ tables_1, d.before a0 Z = true) (ws : List Jvm.Cond) (k : Int32) (h0 : Heap) (n0 : Nat) (O0 : Old Z n0 h0)  :
    MetFree l mN1 (head1 (Jvm.Cond.code mN1 method_3_code 1 (some .int) :: ws) ({ frames := 0, cells := 0, slots := 0, locals := 0 } : Room)) (fun as_ U => as_ = #[(.int k)] ∧ Z.Warmed39 U.vm ∧ U.heap = h0) (fun _ _ _ _ _ => True) (fun _ U o U' => ∃ v L, o = .returned v ∧ Qexpected Z k h0 n0 v U'.heap L ∧ FrameEnd U o U' L ({ frames := 0, cells := 0, slots := 0, locals := 0 } : Room).cells ({ frames := 0, cells := 0, slots := 0, locals := 0 } : Room).slots) := by
  refine MetFree.of_bodySF (plainFor_of_name pn_com_example_levy_levy_api_ApiExceptionStatusPinLaw) hisR ?_
  intro p e s m args below meth c s₁ Bd hml0 hP hK
  obtain ⟨rfl, hZ, hh⟩ := hP
  have hx := Bd.exec
  have hby := Bd.bytes
  have hml : c.maxLocals = 1 := hml0
  have hown : s.vm.findClass "com/example/levy/levy/api/ApiExceptionStatusPinLaw" = some m.cls := findClass_of_methodNamed Bd.named
  have hnm := (name_of_methodNamed Bd.named Bd.method).1
  have X0 : Stand p l e ({ frames := 0, cells := 0, slots := 0, locals := 0 } : Room) s m #[(.int k)] below meth c s₁ [] 0 0 := Stand.of_body Bd
  have e0 : s₁.heap = h0 := by rw [← hh, Bd.state]; rfl
  have N0 := Fr.nil n0
  have Z0 := own_z0 O0
  have pre0 : ∀ tg_, Steps p.tables e below (s₁.setTop (mkF m 0 #[.val (.int k)] [])) tg_ → Steps p.tables e below (s₁.setTop (entryFrame m #[(.int k)] 1)) tg_ := fun tg_ kt_ => castTop (ef_expected m k) kt_
  have pre1 : ∀ tg_, Steps p.tables e below (s₁.setTop (mkF m 2 #[.val (.int k)] [(.int (2 : Int32)), (.int k)])) tg_ → Steps p.tables e below (s₁.setTop (entryFrame m #[(.int k)] 1)) tg_ := by
    intro tg_ kt_
    refine pre0 tg_ ?_
    refine XS.iloadN X0.here hx rfl (hb hby d44_0) rfl ?_
    refine XS.iconst X0.here hx rfl (hb hby d44_1) ?_
    exact kt_
  by_cases hc2 : (2 : Int32) < k
  · have pre3 : ∀ tg_, Steps p.tables e below (s₁.setTop (mkF m 11 #[.val (.int k)] [(.int (3 : Int32)), (.int k)])) tg_ → Steps p.tables e below (s₁.setTop (entryFrame m #[(.int k)] 1)) tg_ := by
      intro tg_ kt_
      refine pre1 tg_ ?_
      refine XS.icmpYes X0.here hx rfl (pc0 := 2) (pc' := 9) rfl (hb hby d44_2) rfl (tlt hc2).2.2.1 (by decide) (by decide) ?_
      show Steps p.tables e below (s₁.setTop (mkF m 9 #[.val (.int k)] [])) _
      refine XS.iloadN X0.here hx rfl (hb hby d44_9) rfl ?_
      refine XS.iconst X0.here hx rfl (hb hby d44_10) ?_
      exact kt_
    by_cases hc4 : k = (3 : Int32)
    · obtain ⟨fs, hr, hrun, hended, hW, hsame⟩ := X0.leave (v := some (.int (401 : Int32))) (fun h => by rw [Bd.returns] at h; cases h)
      refine ⟨_, _, pre3 _ ?_, hrun, hended, _, _, rfl, ?_, ⟨_, rfl⟩, hW, hsame.mono (by decide) (by decide)⟩
      · refine XS.icmpNo X0.here hx rfl (hb hby d44_11) rfl (teq hc4).2 ?_
        refine XS.sipush X0.here hx rfl (hb hby d44_14) ?_
        show Steps p.tables e below (s₁.setTop (mkF m 17 #[.val (.int k)] [(.int (401 : Int32))])) _
        exact retI X0 hx Bd.returns (hb hby d44_17) hr
      · show Qexpected Z k h0 n0 _ s₁.heap _
        rw [e0]
        exact ⟨(own_ret (by simp [own_exp, hc2, hc4])), N0, rfl⟩
    · have pre5 : ∀ tg_, Steps p.tables e below (s₁.setTop (mkF m 20 #[.val (.int k)] [(.int (4 : Int32)), (.int k)])) tg_ → Steps p.tables e below (s₁.setTop (entryFrame m #[(.int k)] 1)) tg_ := by
        intro tg_ kt_
        refine pre3 tg_ ?_
        refine XS.icmpYes X0.here hx rfl (pc0 := 11) (pc' := 18) rfl (hb hby d44_11) rfl (feq hc4).2 (by decide) (by decide) ?_
        refine XS.iloadN X0.here hx rfl (hb hby d44_18) rfl ?_
        show Steps p.tables e below (s₁.setTop (mkF m 19 #[.val (.int k)] [(.int k)])) _
        refine XS.iconst X0.here hx rfl (hb hby d44_19) ?_
        exact kt_
      by_cases hc6 : k = (4 : Int32)
      · obtain ⟨fs, hr, hrun, hended, hW, hsame⟩ := X0.leave (v := some (.int (402 : Int32))) (fun h => by rw [Bd.returns] at h; cases h)
        refine ⟨_, _, pre5 _ ?_, hrun, hended, _, _, rfl, ?_, ⟨_, rfl⟩, hW, hsame.mono (by decide) (by decide)⟩
        · refine XS.icmpNo X0.here hx rfl (hb hby d44_20) rfl (teq hc6).2 ?_
          refine XS.sipush X0.here hx rfl (hb hby d44_23) ?_
          show Steps p.tables e below (s₁.setTop (mkF m 26 #[.val (.int k)] [(.int (402 : Int32))])) _
          exact retI X0 hx Bd.returns (hb hby d44_26) hr
        · show Qexpected Z k h0 n0 _ s₁.heap _
          rw [e0]
          exact ⟨(own_ret (by simp [own_exp, hc2, hc4, hc6])), N0, rfl⟩
      · have pre7 : ∀ tg_, Steps p.tables e below (s₁.setTop (mkF m 29 #[.val (.int k)] [(.int (5 : Int32)), (.int k)])) tg_ → Steps p.tables e below (s₁.setTop (entryFrame m #[(.int k)] 1)) tg_ := by
          intro tg_ kt_
          refine pre5 tg_ ?_
          refine XS.icmpYes X0.here hx rfl (pc0 := 20) (pc' := 27) rfl (hb hby d44_20) rfl (feq hc6).2 (by decide) (by decide) ?_
          refine XS.iloadN X0.here hx rfl (hb hby d44_27) rfl ?_
          refine XS.iconst X0.here hx rfl (hb hby d44_28) ?_
          exact kt_
        by_cases hc8 : k = (5 : Int32)
        · obtain ⟨fs, hr, hrun, hended, hW, hsame⟩ := X0.leave (v := some (.int (403 : Int32))) (fun h => by rw [Bd.returns] at h; cases h)
          refine ⟨_, _, pre7 _ ?_, hrun, hended, _, _, rfl, ?_, ⟨_, rfl⟩, hW, hsame.mono (by decide) (by decide)⟩
          · show Steps p.tables e below (s₁.setTop (mkF m 29 #[.val (.int k)] [(.int (5 : Int32)), (.int k)])) _
            refine XS.icmpNo X0.here hx rfl (hb hby d44_29) rfl (teq hc8).2 ?_
            refine XS.sipush X0.here hx rfl (hb hby d44_32) ?_
            show Steps p.tables e below (s₁.setTop (mkF m 35 #[.val (.int k)] [(.int (403 : Int32))])) _
            exact retI X0 hx Bd.returns (hb hby d44_35) hr
          · show Qexpected Z k h0 n0 _ s₁.heap _
            rw [e0]
            exact ⟨(own_ret (by simp [own_exp, hc2, hc4, hc6, hc8])), N0, rfl⟩
        · have pre9 : ∀ tg_, Steps p.tables e below (s₁.setTop (mkF m 39 #[.val (.int k)] [(.int (6 : Int32)), (.int k)])) tg_ → Steps p.tables e below (s₁.setTop (entryFrame m #[(.int k)] 1)) tg_ := by
            intro tg_ kt_
            refine pre7 tg_ ?_
            show Steps p.tables e below (s₁.setTop (mkF m 29 #[.val (.int k)] [(.int (5 : Int32)), (.int k)])) _
            refine XS.icmpYes X0.here hx rfl (pc0 := 29) (pc' := 36) rfl (hb hby d44_29) rfl (feq hc8).2 (by decide) (by decide) ?_
            refine XS.iloadN X0.here hx rfl (hb hby d44_36) rfl ?_
            refine XS.bipush X0.here hx rfl (hb hby d44_37) ?_
            exact kt_
          by_cases hc10 : k = (6 : Int32)
          · obtain ⟨fs, hr, hrun, hended, hW, hsame⟩ := X0.leave (v := some (.int (404 : Int32))) (fun h => by rw [Bd.returns] at h; cases h)
            refine ⟨_, _, pre9 _ ?_, hrun, hended, _, _, rfl, ?_, ⟨_, rfl⟩, hW, hsame.mono (by decide) (by decide)⟩
            · refine XS.icmpNo X0.here hx rfl (hb hby d44_39) rfl (teq hc10).2 ?_
              show Steps p.tables e below (s₁.setTop (mkF m 42 #[.val (.int k)] [])) _
              refine XS.sipush X0.here hx rfl (hb hby d44_42) ?_
              show Steps p.tables e below (s₁.setTop (mkF m 45 #[.val (.int k)] [(.int (404 : Int32))])) _
              exact retI X0 hx Bd.returns (hb hby d44_45) hr
            · show Qexpected Z k h0 n0 _ s₁.heap _
              rw [e0]
              exact ⟨(own_ret (by simp [own_exp, hc2, hc4, hc6, hc8, hc10])), N0, rfl⟩
          · have pre11 : ∀ tg_, Steps p.tables e below (s₁.setTop (mkF m 49 #[.val (.int k)] [(.int (7 : Int32)), (.int k)])) tg_ → Steps p.tables e below (s₁.setTop (entryFrame m #[(.int k)] 1)) tg_ := by
              intro tg_ kt_
              refine pre9 tg_ ?_
              refine XS.icmpYes X0.here hx rfl (pc0 := 39) (pc' := 46) rfl (hb hby d44_39) rfl (feq hc10).2 (by decide) (by decide) ?_
              show Steps p.tables e below (s₁.setTop (mkF m 46 #[.val (.int k)] [])) _
              refine XS.iloadN X0.here hx rfl (hb hby d44_46) rfl ?_
              refine XS.bipush X0.here hx rfl (hb hby d44_47) ?_
              exact kt_
            by_cases hc12 : k = (7 : Int32)
            · obtain ⟨fs, hr, hrun, hended, hW, hsame⟩ := X0.leave (v := some (.int (405 : Int32))) (fun h => by rw [Bd.returns] at h; cases h)
              refine ⟨_, _, pre11 _ ?_, hrun, hended, _, _, rfl, ?_, ⟨_, rfl⟩, hW, hsame.mono (by decide) (by decide)⟩
              · refine XS.icmpNo X0.here hx rfl (hb hby d44_49) rfl (teq hc12).2 ?_
                refine XS.sipush X0.here hx rfl (hb hby d44_52) ?_
                show Steps p.tables e below (s₁.setTop (mkF m 55 #[.val (.int k)] [(.int (405 : Int32))])) _
                exact retI X0 hx Bd.returns (hb hby d44_55) hr
              · show Qexpected Z k h0 n0 _ s₁.heap _
                rw [e0]
                exact ⟨(own_ret (by simp [own_exp, hc2, hc4, hc6, hc8, hc10, hc12])), N0, rfl⟩
            · have pre13 : ∀ tg_, Steps p.tables e below (s₁.setTop (mkF m 59 #[.val (.int k)] [(.int (9 : Int32)), (.int k)])) tg_ → Steps p.tables e below (s₁.setTop (entryFrame m #[(.int k)] 1)) tg_ := by
                intro tg_ kt_
                refine pre11 tg_ ?_
                refine XS.icmpYes X0.here hx rfl (pc0 := 49) (pc' := 56) rfl (hb hby d44_49) rfl (feq hc12).2 (by decide) (by decide) ?_
                refine XS.iloadN X0.here hx rfl (hb hby d44_56) rfl ?_
                show Steps p.tables e below (s₁.setTop (mkF m 57 #[.val (.int k)] [(.int k)])) _
                refine XS.bipush X0.here hx rfl (hb hby d44_57) ?_
                exact kt_
              by_cases hc14 : (9 : Int32) < k
              · have pre15 : ∀ tg_, Steps p.tables e below (s₁.setTop (mkF m 69 #[.val (.int k)] [(.int (10 : Int32)), (.int k)])) tg_ → Steps p.tables e below (s₁.setTop (entryFrame m #[(.int k)] 1)) tg_ := by
                  intro tg_ kt_
                  refine pre13 tg_ ?_
                  refine XS.icmpYes X0.here hx rfl (pc0 := 59) (pc' := 66) rfl (hb hby d44_59) rfl (tlt hc14).2.2.1 (by decide) (by decide) ?_
                  refine XS.iloadN X0.here hx rfl (hb hby d44_66) rfl ?_
                  refine XS.bipush X0.here hx rfl (hb hby d44_67) ?_
                  exact kt_
                by_cases hc16 : k = (10 : Int32)
                · obtain ⟨fs, hr, hrun, hended, hW, hsame⟩ := X0.leave (v := some (.int (413 : Int32))) (fun h => by rw [Bd.returns] at h; cases h)
                  refine ⟨_, _, pre15 _ ?_, hrun, hended, _, _, rfl, ?_, ⟨_, rfl⟩, hW, hsame.mono (by decide) (by decide)⟩
                  · show Steps p.tables e below (s₁.setTop (mkF m 69 #[.val (.int k)] [(.int (10 : Int32)), (.int k)])) _
                    refine XS.icmpNo X0.here hx rfl (hb hby d44_69) rfl (teq hc16).2 ?_
                    refine XS.sipush X0.here hx rfl (hb hby d44_72) ?_
                    show Steps p.tables e below (s₁.setTop (mkF m 75 #[.val (.int k)] [(.int (413 : Int32))])) _
                    exact retI X0 hx Bd.returns (hb hby d44_75) hr
                  · show Qexpected Z k h0 n0 _ s₁.heap _
                    rw [e0]
                    exact ⟨(own_ret (by simp [own_exp, hc2, hc4, hc6, hc8, hc10, hc12, hc14, hc16])), N0, rfl⟩
                · have pre17 : ∀ tg_, Steps p.tables e below (s₁.setTop (mkF m 79 #[.val (.int k)] [(.int (12 : Int32)), (.int k)])) tg_ → Steps p.tables e below (s₁.setTop (entryFrame m #[(.int k)] 1)) tg_ := by
                    intro tg_ kt_
                    refine pre15 tg_ ?_
                    show Steps p.tables e below (s₁.setTop (mkF m 69 #[.val (.int k)] [(.int (10 : Int32)), (.int k)])) _
                    refine XS.icmpYes X0.here hx rfl (pc0 := 69) (pc' := 76) rfl (hb hby d44_69) rfl (feq hc16).2 (by decide) (by decide) ?_
                    refine XS.iloadN X0.here hx rfl (hb hby d44_76) rfl ?_
                    refine XS.bipush X0.here hx rfl (hb hby d44_77) ?_
                    exact kt_
                  by_cases hc18 : (12 : Int32) < k
                  · have pre19 : ∀ tg_, Steps p.tables e below (s₁.setTop (mkF m 89 #[.val (.int k)] [(.int (13 : Int32)), (.int k)])) tg_ → Steps p.tables e below (s₁.setTop (entryFrame m #[(.int k)] 1)) tg_ := by
                      intro tg_ kt_
                      refine pre17 tg_ ?_
                      refine XS.icmpYes X0.here hx rfl (pc0 := 79) (pc' := 86) rfl (hb hby d44_79) rfl (tlt hc18).2.2.1 (by decide) (by decide) ?_
                      show Steps p.tables e below (s₁.setTop (mkF m 86 #[.val (.int k)] [])) _
                      refine XS.iloadN X0.here hx rfl (hb hby d44_86) rfl ?_
                      refine XS.bipush X0.here hx rfl (hb hby d44_87) ?_
                      exact kt_
                    by_cases hc20 : k = (13 : Int32)
                    · obtain ⟨fs, hr, hrun, hended, hW, hsame⟩ := X0.leave (v := some (.int (400 : Int32))) (fun h => by rw [Bd.returns] at h; cases h)
                      refine ⟨_, _, pre19 _ ?_, hrun, hended, _, _, rfl, ?_, ⟨_, rfl⟩, hW, hsame.mono (by decide) (by decide)⟩
                      · refine XS.icmpNo X0.here hx rfl (hb hby d44_89) rfl (teq hc20).2 ?_
                        refine XS.sipush X0.here hx rfl (hb hby d44_92) ?_
                        show Steps p.tables e below (s₁.setTop (mkF m 95 #[.val (.int k)] [(.int (400 : Int32))])) _
                        exact retI X0 hx Bd.returns (hb hby d44_95) hr
                      · show Qexpected Z k h0 n0 _ s₁.heap _
                        rw [e0]
                        exact ⟨(own_ret (by simp [own_exp, hc2, hc4, hc6, hc8, hc10, hc12, hc14, hc16, hc18, hc20])), N0, rfl⟩
                    · obtain ⟨fs, hr, hrun, hended, hW, hsame⟩ := X0.leave (v := some (.int (500 : Int32))) (fun h => by rw [Bd.returns] at h; cases h)
                      refine ⟨_, _, pre19 _ ?_, hrun, hended, _, _, rfl, ?_, ⟨_, rfl⟩, hW, hsame.mono (by decide) (by decide)⟩
                      · refine XS.icmpYes X0.here hx rfl (pc0 := 89) (pc' := 96) rfl (hb hby d44_89) rfl (feq hc20).2 (by decide) (by decide) ?_
                        refine XS.sipush X0.here hx rfl (hb hby d44_96) ?_
                        show Steps p.tables e below (s₁.setTop (mkF m 99 #[.val (.int k)] [(.int (500 : Int32))])) _
                        exact retI X0 hx Bd.returns (hb hby d44_99) hr
                      · show Qexpected Z k h0 n0 _ s₁.heap _
                        rw [e0]
                        exact ⟨(own_ret (by simp [own_exp, hc2, hc4, hc6, hc8, hc10, hc12, hc14, hc16, hc18, hc20])), N0, rfl⟩
                  · obtain ⟨fs, hr, hrun, hended, hW, hsame⟩ := X0.leave (v := some (.int (422 : Int32))) (fun h => by rw [Bd.returns] at h; cases h)
                    refine ⟨_, _, pre17 _ ?_, hrun, hended, _, _, rfl, ?_, ⟨_, rfl⟩, hW, hsame.mono (by decide) (by decide)⟩
                    · refine XS.icmpNo X0.here hx rfl (hb hby d44_79) rfl (flt hc18).2.2.1 ?_
                      show Steps p.tables e below (s₁.setTop (mkF m 82 #[.val (.int k)] [])) _
                      refine XS.sipush X0.here hx rfl (hb hby d44_82) ?_
                      show Steps p.tables e below (s₁.setTop (mkF m 85 #[.val (.int k)] [(.int (422 : Int32))])) _
                      exact retI X0 hx Bd.returns (hb hby d44_85) hr
                    · show Qexpected Z k h0 n0 _ s₁.heap _
                      rw [e0]
                      exact ⟨(own_ret (by simp [own_exp, hc2, hc4, hc6, hc8, hc10, hc12, hc14, hc16, hc18])), N0, rfl⟩
              · obtain ⟨fs, hr, hrun, hended, hW, hsame⟩ := X0.leave (v := some (.int (409 : Int32))) (fun h => by rw [Bd.returns] at h; cases h)
                refine ⟨_, _, pre13 _ ?_, hrun, hended, _, _, rfl, ?_, ⟨_, rfl⟩, hW, hsame.mono (by decide) (by decide)⟩
                · refine XS.icmpNo X0.here hx rfl (hb hby d44_59) rfl (flt hc14).2.2.1 ?_
                  refine XS.sipush X0.here hx rfl (hb hby d44_62) ?_
                  show Steps p.tables e below (s₁.setTop (mkF m 65 #[.val (.int k)] [(.int (409 : Int32))])) _
                  exact retI X0 hx Bd.returns (hb hby d44_65) hr
                · show Qexpected Z k h0 n0 _ s₁.heap _
                  rw [e0]
                  exact ⟨(own_ret (by simp [own_exp, hc2, hc4, hc6, hc8, hc10, hc12, hc14])), N0, rfl⟩
  · obtain ⟨fs, hr, hrun, hended, hW, hsame⟩ := X0.leave (v := some (.int (400 : Int32))) (fun h => by rw [Bd.returns] at h; cases h)
    refine ⟨_, _, pre1 _ ?_, hrun, hended, _, _, rfl, ?_, ⟨_, rfl⟩, hW, hsame.mono (by decide) (by decide)⟩
    · refine XS.icmpNo X0.here hx rfl (hb hby d44_2) rfl (flt hc2).2.2.1 ?_
      show Steps p.tables e below (s₁.setTop (mkF m 5 #[.val (.int k)] [])) _
      refine XS.sipush X0.here hx rfl (hb hby d44_5) ?_
      show Steps p.tables e below (s₁.setTop (mkF m 8 #[.val (.int k)] [(.int (400 : Int32))])) _
      exact retI X0 hx Bd.returns (hb hby d44_8) hr
    · show Qexpected Z k h0 n0 _ s₁.heap _
      rw [e0]
      exact ⟨(own_ret (by simp [own_exp, hc2])), N0, rfl⟩
theorem d4_0 : decode jdk_43_method_3_code 0 = .ok (.iload_n 0, 1) := by decide +kernel
theorem d4_1 : decode jdk_43_method_3_code 1 = .ok (.sipush 255, 3) := by decide +kernel
theorem d4_4 : decode jdk_43_method_3_code 4 = .ok (.if_icmp .gt 7, 3) := by decide +kernel
theorem d4_7 : decode jdk_43_method_3_code 7 = .ok (.iconst 1, 1) := by decide +kernel
theorem d4_8 : decode jdk_43_method_3_code 8 = .ok (.goto 4, 3) := by decide +kernel
theorem d4_12 : decode jdk_43_method_3_code 12 = .ok (.ireturn, 1) := by decide +kernel
abbrev mN2 : MethodName := ⟨"java/lang/StringLatin1", "canEncode", "(C)Z"⟩
theorem ef_canEnc (m : MethodId) (x0 : Int32) : entryFrame m #[(.int x0)] 1 = mkF m 0 #[.val (.int x0)] [] := by first | (simp [entryFrame, mkF, argsToLocals, Value.category]; done) | rfl
def QcanEnc (Z : State) (cx : Int32) (h0 : Heap) (n0 : Nat) (v : Option Value) (h : Heap) (L : List Loc) : Prop := v = some (.int (1 : Int32)) ∧ Fr n0 L ∧ h = h0
theorem pn_java_lang_StringLatin1 : plainName "java/lang/StringLatin1" = true := by first | (simp [plainName, overriddenIn]; done) | decide +kernel
set_option maxRecDepth 65536 in
set_option maxHeartbeats 40000000 in
theorem rmcanEnc (l : Launch) (Z : State) (a0 : Array Value) (hw : ∀ d ∈ tables_1, d.before a0 Z = true) (ws : List Jvm.Cond) (cx : Int32) (h0 : Heap) (n0 : Nat) (O0 : Old Z n0 h0) (hc : (¬ ((255 : Int32) < cx))) :
    MetFree l mN2 (head1 (Jvm.Cond.code mN2 jdk_43_method_3_code 1 (some .boolean) :: ws) ({ frames := 0, cells := 0, slots := 0, locals := 0 } : Room)) (fun as_ U => as_ = #[(.int cx)] ∧ Z.Warmed39 U.vm ∧ U.heap = h0) (fun _ _ _ _ _ => True) (fun _ U o U' => ∃ v L, o = .returned v ∧ QcanEnc Z cx h0 n0 v U'.heap L ∧ FrameEnd U o U' L ({ frames := 0, cells := 0, slots := 0, locals := 0 } : Room).cells ({ frames := 0, cells := 0, slots := 0, locals := 0 } : Room).slots) := by
  refine MetFree.of_bodySF (plainFor_of_name pn_java_lang_StringLatin1) hisR ?_
  intro p e s m args below meth c s₁ Bd hml0 hP hK
  obtain ⟨rfl, hZ, hh⟩ := hP
  have hx := Bd.exec
  have hby := Bd.bytes
  have hml : c.maxLocals = 1 := hml0
  have hown : s.vm.findClass "java/lang/StringLatin1" = some m.cls := findClass_of_methodNamed Bd.named
  have hnm := (name_of_methodNamed Bd.named Bd.method).1
  have X0 : Stand p l e ({ frames := 0, cells := 0, slots := 0, locals := 0 } : Room) s m #[(.int cx)] below meth c s₁ [] 0 0 := Stand.of_body Bd
  have e0 : s₁.heap = h0 := by rw [← hh, Bd.state]; rfl
  have N0 := Fr.nil n0
  have Z0 := own_z0 O0
  have pre0 : ∀ tg_, Steps p.tables e below (s₁.setTop (mkF m 0 #[.val (.int cx)] [])) tg_ → Steps p.tables e below (s₁.setTop (entryFrame m #[(.int cx)] 1)) tg_ := fun tg_ kt_ => castTop (ef_canEnc m cx) kt_
  obtain ⟨fs, hr, hrun, hended, hW, hsame⟩ := X0.leave (v := some (.int (1 : Int32))) (fun h => by rw [Bd.returns] at h; cases h)
  refine ⟨_, _, pre0 _ ?_, hrun, hended, _, _, rfl, ?_, ⟨_, rfl⟩, hW, hsame.mono (by decide) (by decide)⟩
  · refine XS.iloadN X0.here hx rfl (hb hby d4_0) rfl ?_
    refine XS.sipush X0.here hx rfl (hb hby d4_1) ?_
    refine XS.icmpNo X0.here hx rfl (hb hby d4_4) rfl (flt hc).2.2.1 ?_
    show Steps p.tables e below (s₁.setTop (mkF m 7 #[.val (.int cx)] [])) _
    refine XS.iconst X0.here hx rfl (hb hby d4_7) ?_
    refine XS.goto X0.here hx rfl (pc0 := 8) (pc' := 12) rfl (hb hby d4_8) (by decide) (by decide) ?_
    show Steps p.tables e below (s₁.setTop (mkF m 12 #[.val (.int cx)] [(.int (1 : Int32))])) _
    exact retN X0 hx (t := .boolean) Bd.returns (by simp) (hb hby d4_12) hr
  · show QcanEnc Z cx h0 n0 _ s₁.heap _
    rw [e0]
    exact ⟨rfl, N0, rfl⟩
theorem d5_0 : decode jdk_43_method_46_code 0 = .ok (.iconst 1, 1) := by decide +kernel
theorem w_28 : (Jvm.Cond.arrayClass Jvm.ClassFile.FieldType.byte) ∈ tables_1 := List.mem_of_getElem? (i := 28) (by decide +kernel)
theorem d5_1 : decode jdk_43_method_46_code 1 = .ok (.newarray .byte, 2) := by decide +kernel
theorem d5_3 : decode jdk_43_method_46_code 3 = .ok (.dup, 1) := by decide +kernel
theorem d5_4 : decode jdk_43_method_46_code 4 = .ok (.iconst 0, 1) := by decide +kernel
theorem d5_5 : decode jdk_43_method_46_code 5 = .ok (.iload_n 0, 1) := by decide +kernel
theorem d5_6 : decode jdk_43_method_46_code 6 = .ok (.i2b, 1) := by decide +kernel
theorem d5_7 : decode jdk_43_method_46_code 7 = .ok (.bastore, 1) := by decide +kernel
theorem d5_8 : decode jdk_43_method_46_code 8 = .ok (.areturn, 1) := by decide +kernel
abbrev mN3 : MethodName := ⟨"java/lang/StringLatin1", "toBytes", "(C)[B"⟩
theorem ef_toBytes1 (m : MethodId) (x0 : Int32) : entryFrame m #[(.int x0)] 1 = mkF m 0 #[.val (.int x0)] [] := by first | (simp [entryFrame, mkF, argsToLocals, Value.category]; done) | rfl
def QtoBytes1 (Z : State) (cx : Int32) (h0 : Heap) (n0 : Nat) (v : Option Value) (h : Heap) (L : List Loc) : Prop := ∃ (t : Addr), ∃ (kt : ClassId), v = some (.ref t) ∧ Fr n0 L ∧ Keep h0 h [] ∧ h0.size ≤ t ∧ Arv Z h t kt .byte (1 : Int32) [(.int (cx.toInt8.toInt32).toInt8.toInt32)] (.int (0 : Int32))
set_option maxRecDepth 65536 in
set_option maxHeartbeats 40000000 in
theorem rmtoBytes1 (l : Launch) (Z : State) (a0 : Array Value) (hw : ∀ d ∈ tables_1, d.before a0 Z = true) (ws : List Jvm.Cond) (cx : Int32) (h0 : Heap) (n0 : Nat) (O0 : Old Z n0 h0)  :
    MetFree l mN3 (head1 (Jvm.Cond.code mN3 jdk_43_method_46_code 1 (some (.array .byte)) :: ws) ({ frames := 0, cells := 1, slots := 1, locals := 0 } : Room)) (fun as_ U => as_ = #[(.int cx)] ∧ Z.Warmed39 U.vm ∧ U.heap = h0) (fun _ _ _ _ _ => True) (fun _ U o U' => ∃ v L, o = .returned v ∧ QtoBytes1 Z cx h0 n0 v U'.heap L ∧ FrameEnd U o U' L ({ frames := 0, cells := 1, slots := 1, locals := 0 } : Room).cells ({ frames := 0, cells := 1, slots := 1, locals := 0 } : Room).slots) := by
  refine MetFree.of_bodySF (plainFor_of_name pn_java_lang_StringLatin1) hisR ?_
  intro p e s m args below meth c s₁ Bd hml0 hP hK
  obtain ⟨rfl, hZ, hh⟩ := hP
  have hx := Bd.exec
  have hby := Bd.bytes
  have hml : c.maxLocals = 1 := hml0
  have hown : s.vm.findClass "java/lang/StringLatin1" = some m.cls := findClass_of_methodNamed Bd.named
  have hnm := (name_of_methodNamed Bd.named Bd.method).1
  have X0 : Stand p l e ({ frames := 0, cells := 1, slots := 1, locals := 0 } : Room) s m #[(.int cx)] below meth c s₁ [] 0 0 := Stand.of_body Bd
  have e0 : s₁.heap = h0 := by rw [← hh, Bd.state]; rfl
  have N0 := Fr.nil n0
  have Z0 := own_z0 O0
  have pre0 : ∀ tg_, Steps p.tables e below (s₁.setTop (mkF m 0 #[.val (.int cx)] [])) tg_ → Steps p.tables e below (s₁.setTop (entryFrame m #[(.int cx)] 1)) tg_ := fun tg_ kt_ => castTop (ef_toBytes1 m cx) kt_
  obtain ⟨T1, h1, k1, X1, e1, E1, A1, st1⟩ := newP X0 hx hZ (hw (Jvm.Cond.arrayClass (newarray.typeOf .byte)) w_28) e0 (g := (mkF m 1 #[.val (.int cx)] [(.int (1 : Int32))])) rfl (hb hby d5_1) rfl (by decide) (cap := 1) (by decide) (by decide) (by decide) (by decide)
  obtain ⟨b1, g1⟩ : ∃ z, z = h0.size := ⟨_, rfl⟩
  rw [← g1] at A1 st1
  have sz1 : h0.size ≤ b1 := Nat.le_trans (Keep.refl h0 []).1 (Nat.le_of_eq g1.symm)
  have gn1 : n0 ≤ b1 := Nat.le_trans Z0 sz1
  have O1 : Old Z n0 h1 := O0.ext E1
  have K1 : Keep h0 h1 [] := (Keep.refl h0 []).ext E1
  have V1 : Arv Z h1 b1 k1 .byte (1 : Int32) [(.int (0 : Int32))] (.int (0 : Int32)) := (Arv.new A1 (by decide)).pad (pad_rep [] (.int (0 : Int32)) 1)
  obtain ⟨cl3, Ar3, q3, S3, Ng3, H3, G3⟩ := id V1
  have hin3 : ¬ ((0 : Int32) < 0 ∨ cl3.slots.size ≤ ((0 : Int32)).toNatClampNeg) := inb_of S3 ⟨by decide, by decide⟩
  obtain ⟨T3, h3, X3, e3, W3, st3⟩ := stB X1 hx hZ e1 Ar3 (j := (0 : Int32)) hin3 (g := (mkF m 7 #[.val (.int cx)] [(.int (cx.toInt8.toInt32)), (.int (0 : Int32)), (.ref b1), (.ref b1)])) rfl rfl (hb hby d5_7)
  have V3 : Arv Z h3 b1 k1 .byte (1 : Int32) [(.int (cx.toInt8.toInt32).toInt8.toInt32)] (.int (0 : Int32)) := Arv.set Ar3 q3 S3 Ng3 H3 G3 (fits_nar_byte _) W3 0 rfl (Nat.le_of_ble_eq_true rfl)
  have N3 := Fr.snoc X3 N0 gn1
  have O3 : Old Z n0 h3 := O1.wr W3 gn1
  have K3 : Keep h0 h3 [] := K1.wr W3 (Or.inr sz1)
  obtain ⟨fs, hr, hrun, hended, hW, hsame⟩ := X3.leave (v := some (.ref b1)) (fun h => by rw [Bd.returns] at h; cases h)
  refine ⟨_, _, pre0 _ ?_, hrun, hended, _, _, rfl, ?_, ⟨_, rfl⟩, hW, hsame.mono (by decide) (by decide)⟩
  · refine XS.iconst X0.here hx rfl (hb hby d5_0) ?_
    show Steps p.tables e below (s₁.setTop (mkF m 1 #[.val (.int cx)] [(.int (1 : Int32))])) _
    refine st1 _ ?_
    refine XS.dup X1.here hx rfl (hb hby d5_3) rfl rfl ?_
    refine XS.iconst X1.here hx rfl (hb hby d5_4) ?_
    refine XS.iloadN X1.here hx rfl (hb hby d5_5) rfl ?_
    show Steps p.tables e below (T1.setTop (mkF m 6 #[.val (.int cx)] [(.int cx), (.int (0 : Int32)), (.ref b1), (.ref b1)])) _
    refine XS.i2b X1.here hx rfl (hb hby d5_6) rfl ?_
    show Steps p.tables e below (T1.setTop (mkF m 7 #[.val (.int cx)] [(.int (cx.toInt8.toInt32)), (.int (0 : Int32)), (.ref b1), (.ref b1)])) _
    refine st3 _ ?_
    show Steps p.tables e below (T3.setTop (mkF m 8 #[.val (.int cx)] [(.ref b1)])) _
    jvm_step X3.here [X3.here.top, hx, (hb hby d5_8), X3.method', Bd.returns, Value.isRef, FieldType.isReference]
    first | (intro acts; rw [hr _ acts rfl rfl rfl]) | rw [hr _ _ rfl rfl rfl]
    exact Steps.refl _
  · show QtoBytes1 Z cx h0 n0 _ T3.heap _
    rw [e3]
    exact ⟨b1, k1, rfl, N3, K3, sz1, V3⟩
theorem d6_0 : decode jdk_42_method_151_code 0 = .ok (.aload_n 0, 1) := by decide +kernel
theorem w_33 : (Jvm.Cond.methodLink "java/lang/String" (1 : Nat) ({ cls := "java/lang/Object", name := "<init>", desc := "()V" } : Jvm.MethodName)) ∈ tables_1 := List.mem_of_getElem? (i := 33) (by decide +kernel)
theorem w_34 : (Jvm.Cond.instanceMethod ({ cls := "java/lang/Object", name := "<init>", desc := "()V" } : Jvm.MethodName)) ∈ tables_1 := List.mem_of_getElem? (i := 34) (by decide +kernel)
theorem w_35 : (Jvm.Cond.code ({ cls := "java/lang/Object", name := "<init>", desc := "()V" } : Jvm.MethodName) object_method_1_code (1 : Nat) (Option.none : Option Jvm.ClassFile.FieldType)) ∈ tables_1 := List.mem_of_getElem? (i := 35) (by decide +kernel)
theorem d6_1 : decode jdk_42_method_151_code 1 = .ok (.invokespecial 1, 3) := by decide +kernel
theorem d6_4 : decode jdk_42_method_151_code 4 = .ok (.aload_n 0, 1) := by decide +kernel
theorem d6_5 : decode jdk_42_method_151_code 5 = .ok (.aload_n 1, 1) := by decide +kernel
theorem w_36 : (Jvm.Cond.fieldLink "java/lang/String" (9 : Nat) "java/lang/String" "value" "[B") ∈ tables_1 := List.mem_of_getElem? (i := 36) (by decide +kernel)
theorem w_37 : (Jvm.Cond.laysFinal "java/lang/String" "java/lang/String" "value" "[B") ∈ tables_1 := List.mem_of_getElem? (i := 37) (by decide +kernel)
theorem w_24 : (Jvm.Cond.instantiable "java/lang/String" (4 : Nat)) ∈ tables_1 := List.mem_of_getElem? (i := 24) (by decide +kernel)
theorem d6_6 : decode jdk_42_method_151_code 6 = .ok (.putfield 9, 3) := by decide +kernel
theorem d6_9 : decode jdk_42_method_151_code 9 = .ok (.aload_n 0, 1) := by decide +kernel
theorem d6_10 : decode jdk_42_method_151_code 10 = .ok (.iload_n 2, 1) := by decide +kernel
theorem w_38 : (Jvm.Cond.fieldLink "java/lang/String" (15 : Nat) "java/lang/String" "coder" "B") ∈ tables_1 := List.mem_of_getElem? (i := 38) (by decide +kernel)
theorem w_39 : (Jvm.Cond.laysFinal "java/lang/String" "java/lang/String" "coder" "B") ∈ tables_1 := List.mem_of_getElem? (i := 39) (by decide +kernel)
theorem d6_11 : decode jdk_42_method_151_code 11 = .ok (.putfield 15, 3) := by decide +kernel
theorem d6_14 : decode jdk_42_method_151_code 14 = .ok (.return_, 1) := by decide +kernel
abbrev mN4 : MethodName := ⟨"java/lang/String", "<init>", "([BB)V"⟩
theorem ef_strBB (m : MethodId) (x0 : Addr) (x1 : Addr) (x2 : Int32) : entryFrame m #[(.ref x0), (.ref x1), (.int x2)] 3 = mkF m 0 #[.val (.ref x0), .val (.ref x1), .val (.int x2)] [] := by first | (simp [entryFrame, mkF, argsToLocals, Value.category]; done) | rfl
def QstrBB (Z : State) (a : Addr) (t : Addr) (u1 : Value) (u2 : Value) (h0 : Heap) (n0 : Nat) (v : Option Value) (h : Heap) (L : List Loc) : Prop := v = none ∧ Fr n0 L ∧ Keep h0 h [a] ∧ Exa Z h a "java/lang/String" ∧ Fld Z h a "java/lang/String" "value" "[B" (.ref t) ∧ Fld Z h a "java/lang/String" "coder" "B" (.int (0 : Int32))
theorem pn_java_lang_String : plainName "java/lang/String" = true := by first | (simp [plainName, overriddenIn]; done) | decide +kernel
set_option maxRecDepth 65536 in
set_option maxHeartbeats 40000000 in
theorem rmstrBB (l : Launch) (Z : State) (a0 : Array Value) (hw : ∀ d ∈ tables_1, d.before a0 Z = true) (ws : List Jvm.Cond) (a : Addr) (t : Addr) (u1 : Value) (u2 : Value) (h0 : Heap) (n0 : Nat) (O0 : Old Z n0 h0) (hp0 : Exa Z h0 a "java/lang/String") (hp1 : n0 ≤ a) (hp2 : Fld Z h0 a "java/lang/String" "value" "[B" u1) (hp3 : Fld Z h0 a "java/lang/String" "coder" "B" u2) :
    MetFree l mN4 (head1 (Jvm.Cond.code mN4 jdk_42_method_151_code 3 none :: ws) ({ frames := 1, cells := 0, slots := 0, locals := 12 } : Room)) (fun as_ U => as_ = #[(.ref a), (.ref t), (.int (0 : Int32))] ∧ Z.Warmed39 U.vm ∧ U.heap = h0) (fun _ _ _ _ _ => True) (fun _ U o U' => ∃ v L, o = .returned v ∧ QstrBB Z a t u1 u2 h0 n0 v U'.heap L ∧ FrameEnd U o U' L ({ frames := 1, cells := 0, slots := 0, locals := 12 } : Room).cells ({ frames := 1, cells := 0, slots := 0, locals := 12 } : Room).slots) := by
  refine MetFree.of_bodySF (plainFor_of_name pn_java_lang_String) hisR ?_
  intro p e s m args below meth c s₁ Bd hml0 hP hK
  obtain ⟨rfl, hZ, hh⟩ := hP
  have hx := Bd.exec
  have hby := Bd.bytes
  have hml : c.maxLocals = 3 := hml0
  have hown : s.vm.findClass "java/lang/String" = some m.cls := findClass_of_methodNamed Bd.named
  have hnm := (name_of_methodNamed Bd.named Bd.method).1
  have X0 : Stand p l e ({ frames := 1, cells := 0, slots := 0, locals := 12 } : Room) s m #[(.ref a), (.ref t), (.int (0 : Int32))] below meth c s₁ [] 0 0 := Stand.of_body Bd
  have e0 : s₁.heap = h0 := by rw [← hh, Bd.state]; rfl
  have N0 := Fr.nil n0
  have Z0 := own_z0 O0
  have pre0 : ∀ tg_, Steps p.tables e below (s₁.setTop (mkF m 0 #[.val (.ref a), .val (.ref t), .val (.int (0 : Int32))] [])) tg_ → Steps p.tables e below (s₁.setTop (entryFrame m #[(.ref a), (.ref t), (.int (0 : Int32))] 3)) tg_ := fun tg_ kt_ => castTop (ef_strBB m a t (0 : Int32)) kt_
  obtain ⟨T1, X1, e1, st1⟩ := initO X0 hx hZ hown (hw _ w_33) (hw _ w_34) (hw _ w_35) e0 (g := (mkF m 1 #[.val (.ref a), .val (.ref t), .val (.int (0 : Int32))] [(.ref a)])) rfl (by rw [hml]; rfl) rfl (hb hby d6_1) (by decide) (W := 0) (by show 2 * 0 + _ ≤ _; exact Nat.le_of_eq rfl) (by decide)
  obtain ⟨T2, h2, X2, e2, W2, st2⟩ := putF X1 hx hZ hown (host := "") (Or.inl (hw _ w_36)) Via.refl e1 hp2 hp0 (Or.inr ⟨(hw _ w_37), rfl, hnm⟩) (hw _ w_24) (ty := (.array .byte)) (by decide) rfl rfl (g := (mkF m 6 #[.val (.ref a), .val (.ref t), .val (.int (0 : Int32))] [(.ref t), (.ref a)])) rfl rfl (hb hby d6_6)
  have Fw2 := hp2.same W2
  have N2 := Fr.snoc X2 N0 hp1
  have O2 : Old Z n0 h2 := O0.wr W2 hp1
  have K2 : Keep h0 h2 [a] := (Keep.refl h0 [a]).wr W2 (Or.inl (List.mem_of_getElem? (i := 0) rfl))
  obtain ⟨T3, h3, X3, e3, W3, st3⟩ := putFN X2 hx hZ hown (hw _ w_38) Via.refl e2 (hp3.other W2 (Or.inr (slot_ne (Or.inr (hw _ w_39)) (Or.inr (hw _ w_37)) (by decide) (t := .byte) (t' := (.array .byte)) (by decide) (by decide)))) (hp0.wr W2) (Or.inr ⟨(hw _ w_39), rfl, hnm⟩) (hw _ w_24) (ty := .byte) (v' := (.int (0 : Int32))) (by decide) rfl rfl (g := (mkF m 11 #[.val (.ref a), .val (.ref t), .val (.int (0 : Int32))] [(.int (0 : Int32)), (.ref a)])) rfl rfl (hb hby d6_11)
  have Fw3 := (hp3.other W2 (Or.inr (slot_ne (Or.inr (hw _ w_39)) (Or.inr (hw _ w_37)) (by decide) (t := .byte) (t' := (.array .byte)) (by decide) (by decide)))).same W3
  have N3 := Fr.snoc X3 N2 hp1
  have O3 : Old Z n0 h3 := O2.wr W3 hp1
  have K3 : Keep h0 h3 [a] := K2.wr W3 (Or.inl (List.mem_of_getElem? (i := 0) rfl))
  obtain ⟨fs, hr, hrun, hended, hW, hsame⟩ := X3.leave (v := none) (fun _ => rfl)
  refine ⟨_, _, pre0 _ ?_, hrun, hended, _, _, rfl, ?_, ⟨_, rfl⟩, hW, hsame.mono (by decide) (by decide)⟩
  · refine XS.aloadN X0.here hx rfl (hb hby d6_0) rfl rfl ?_
    show Steps p.tables e below (s₁.setTop (mkF m 1 #[.val (.ref a), .val (.ref t), .val (.int (0 : Int32))] [(.ref a)])) _
    refine st1 _ ?_
    refine XS.aloadN X1.here hx rfl (hb hby d6_4) rfl rfl ?_
    refine XS.aloadN X1.here hx rfl (hb hby d6_5) rfl rfl ?_
    show Steps p.tables e below (T1.setTop (mkF m 6 #[.val (.ref a), .val (.ref t), .val (.int (0 : Int32))] [(.ref t), (.ref a)])) _
    refine st2 _ ?_
    refine XS.aloadN X2.here hx rfl (hb hby d6_9) rfl rfl ?_
    refine XS.iloadN X2.here hx rfl (hb hby d6_10) rfl ?_
    show Steps p.tables e below (T2.setTop (mkF m 11 #[.val (.ref a), .val (.ref t), .val (.int (0 : Int32))] [(.int (0 : Int32)), (.ref a)])) _
    refine st3 _ ?_
    show Steps p.tables e below (T3.setTop (mkF m 14 #[.val (.ref a), .val (.ref t), .val (.int (0 : Int32))] [])) _
    exact X3.returnOut hx Bd.returns (hb hby d6_14) hr
  · show QstrBB Z a t u1 u2 h0 n0 _ T3.heap _
    rw [e3]
    exact ⟨rfl, N3, K3, ((hp0.wr W2).wr W3), (Fw2.other W3 (Or.inr (slot_ne (Or.inr (hw _ w_37)) (Or.inr (hw _ w_39)) (by decide) (t := (.array .byte)) (t' := .byte) (by decide) (by decide)))), Fw3⟩
theorem w_18 : (Jvm.Cond.fieldLink "java/lang/String" (38 : Nat) "java/lang/String" "COMPACT_STRINGS" "Z") ∈ tables_1 := List.mem_of_getElem? (i := 18) (by decide +kernel)
theorem d3_0 : decode jdk_42_method_139_code 0 = .ok (.getstatic 38, 3) := by decide +kernel
theorem d3_3 : decode jdk_42_method_139_code 3 = .ok (.ifCond .eq 23, 3) := by decide +kernel
theorem d3_6 : decode jdk_42_method_139_code 6 = .ok (.iload_n 0, 1) := by decide +kernel
theorem w_19 : (Jvm.Cond.methodLink "java/lang/String" (1015 : Nat) ({ cls := "java/lang/StringLatin1", name := "canEncode", desc := "(C)Z" } : Jvm.MethodName)) ∈ tables_1 := List.mem_of_getElem? (i := 19) (by decide +kernel)
theorem w_22 : (Jvm.Cond.code ({ cls := "java/lang/StringLatin1", name := "canEncode", desc := "(C)Z" } : Jvm.MethodName) jdk_43_method_3_code (1 : Nat) (Option.some Jvm.ClassFile.FieldType.boolean)) ∈ tables_1 := List.mem_of_getElem? (i := 22) (by decide +kernel)
theorem w_21 : (Jvm.Cond.initialized "java/lang/StringLatin1") ∈ tables_1 := List.mem_of_getElem? (i := 21) (by decide +kernel)
theorem pd__C_Z : parseMethodDescriptor "(C)Z" = some ⟨[.char], some .boolean⟩ := by decide +kernel
theorem d3_7 : decode jdk_42_method_139_code 7 = .ok (.invokestatic 1015, 3) := by decide +kernel
theorem w_20 : (Jvm.Cond.static ({ cls := "java/lang/StringLatin1", name := "canEncode", desc := "(C)Z" } : Jvm.MethodName)) ∈ tables_1 := List.mem_of_getElem? (i := 20) (by decide +kernel)
theorem d3_10 : decode jdk_42_method_139_code 10 = .ok (.ifCond .eq 16, 3) := by decide +kernel
theorem w_23 : (Jvm.Cond.classLink "java/lang/String" (10 : Nat) "java/lang/String") ∈ tables_1 := List.mem_of_getElem? (i := 23) (by decide +kernel)
theorem w_16 : (Jvm.Cond.initialized "java/lang/String") ∈ tables_1 := List.mem_of_getElem? (i := 16) (by decide +kernel)
theorem d3_13 : decode jdk_42_method_139_code 13 = .ok (.new 10, 3) := by decide +kernel
theorem d3_16 : decode jdk_42_method_139_code 16 = .ok (.dup, 1) := by decide +kernel
theorem d3_17 : decode jdk_42_method_139_code 17 = .ok (.iload_n 0, 1) := by decide +kernel
theorem w_25 : (Jvm.Cond.methodLink "java/lang/String" (1018 : Nat) ({ cls := "java/lang/StringLatin1", name := "toBytes", desc := "(C)[B" } : Jvm.MethodName)) ∈ tables_1 := List.mem_of_getElem? (i := 25) (by decide +kernel)
theorem w_27 : (Jvm.Cond.code ({ cls := "java/lang/StringLatin1", name := "toBytes", desc := "(C)[B" } : Jvm.MethodName) jdk_43_method_46_code (1 : Nat) (Option.some (Jvm.ClassFile.FieldType.array Jvm.ClassFile.FieldType.byte))) ∈ tables_1 := List.mem_of_getElem? (i := 27) (by decide +kernel)
theorem pd__C_AB : parseMethodDescriptor "(C)[B" = some ⟨[.char], some (.array .byte)⟩ := by decide +kernel
theorem d3_18 : decode jdk_42_method_139_code 18 = .ok (.invokestatic 1018, 3) := by decide +kernel
theorem w_26 : (Jvm.Cond.static ({ cls := "java/lang/StringLatin1", name := "toBytes", desc := "(C)[B" } : Jvm.MethodName)) ∈ tables_1 := List.mem_of_getElem? (i := 26) (by decide +kernel)
theorem d3_21 : decode jdk_42_method_139_code 21 = .ok (.iconst 0, 1) := by decide +kernel
theorem w_29 : (Jvm.Cond.methodLink "java/lang/String" (209 : Nat) ({ cls := "java/lang/String", name := "<init>", desc := "([BB)V" } : Jvm.MethodName)) ∈ tables_1 := List.mem_of_getElem? (i := 29) (by decide +kernel)
theorem w_32 : (Jvm.Cond.code ({ cls := "java/lang/String", name := "<init>", desc := "([BB)V" } : Jvm.MethodName) jdk_42_method_151_code (3 : Nat) (Option.none : Option Jvm.ClassFile.FieldType)) ∈ tables_1 := List.mem_of_getElem? (i := 32) (by decide +kernel)
theorem pd__ABB_V : parseMethodDescriptor "([BB)V" = some ⟨[(.array .byte), .byte], none⟩ := by decide +kernel
theorem d3_22 : decode jdk_42_method_139_code 22 = .ok (.invokespecial 209, 3) := by decide +kernel
theorem w_30 : (Jvm.Cond.instanceMethod ({ cls := "java/lang/String", name := "<init>", desc := "([BB)V" } : Jvm.MethodName)) ∈ tables_1 := List.mem_of_getElem? (i := 30) (by decide +kernel)
theorem d3_25 : decode jdk_42_method_139_code 25 = .ok (.areturn, 1) := by decide +kernel
abbrev mN5 : MethodName := ⟨"java/lang/String", "valueOf", "(C)Ljava/lang/String;"⟩
theorem ef_valueOfC (m : MethodId) (x0 : Int32) : entryFrame m #[(.int x0)] 1 = mkF m 0 #[.val (.int x0)] [] := by first | (simp [entryFrame, mkF, argsToLocals, Value.category]; done) | rfl
def QvalueOfC (Z : State) (cx : Int32) (cz : Int32) (h0 : Heap) (n0 : Nat) (v : Option Value) (h : Heap) (L : List Loc) : Prop := ∃ (r : Addr), ∃ (t : Addr), ∃ (kt : ClassId), v = some (.ref r) ∧ Fr n0 L ∧ Keep h0 h [] ∧ h0.size ≤ r ∧ h0.size ≤ t ∧ Exa Z h r "java/lang/String" ∧ Fld Z h r "java/lang/String" "value" "[B" (.ref t) ∧ Fld Z h r "java/lang/String" "coder" "B" (.int (0 : Int32)) ∧ Arv Z h t kt .byte (1 : Int32) [(.int (cx.toInt8.toInt32).toInt8.toInt32)] (.int (0 : Int32))
set_option maxRecDepth 65536 in
set_option maxHeartbeats 40000000 in
theorem rmvalueOfC (l : Launch) (Z : State) (a0 : Array Value) (hw : ∀ d ∈ tables_1, d.before a0 Z = true) (ws : List Jvm.Cond) (cx : Int32) (cz : Int32) (h0 : Heap) (n0 : Nat) (O0 : Old Z n0 h0) (hp0 : Sta Z Z.heap "java/lang/String" "COMPACT_STRINGS" "Z" (.int cz)) (hcz : (¬ (cz = (0 : Int32)))) (hc : (¬ ((255 : Int32) < cx))) :
    MetFree l mN5 (head1 (Jvm.Cond.code mN5 jdk_42_method_139_code 1 (some (.object "java/lang/String")) :: ws) ({ frames := 2, cells := 2, slots := 5, locals := 27 } : Room)) (fun as_ U => as_ = #[(.int cx)] ∧ Z.Warmed39 U.vm ∧ U.heap = h0) (fun _ _ _ _ _ => True) (fun _ U o U' => ∃ v L, o = .returned v ∧ QvalueOfC Z cx cz h0 n0 v U'.heap L ∧ FrameEnd U o U' L ({ frames := 2, cells := 2, slots := 5, locals := 27 } : Room).cells ({ frames := 2, cells := 2, slots := 5, locals := 27 } : Room).slots) := by
  refine MetFree.of_bodySF (plainFor_of_name pn_java_lang_String) hisR ?_
  intro p e s m args below meth c s₁ Bd hml0 hP hK
  obtain ⟨rfl, hZ, hh⟩ := hP
  have hx := Bd.exec
  have hby := Bd.bytes
  have hml : c.maxLocals = 1 := hml0
  have hown : s.vm.findClass "java/lang/String" = some m.cls := findClass_of_methodNamed Bd.named
  have hnm := (name_of_methodNamed Bd.named Bd.method).1
  have X0 : Stand p l e ({ frames := 2, cells := 2, slots := 5, locals := 27 } : Room) s m #[(.int cx)] below meth c s₁ [] 0 0 := Stand.of_body Bd
  have e0 : s₁.heap = h0 := by rw [← hh, Bd.state]; rfl
  have N0 := Fr.nil n0
  have Z0 := own_z0 O0
  have pre0 : ∀ tg_, Steps p.tables e below (s₁.setTop (mkF m 0 #[.val (.int cx)] [])) tg_ → Steps p.tables e below (s₁.setTop (entryFrame m #[(.int cx)] 1)) tg_ := fun tg_ kt_ => castTop (ef_valueOfC m cx) kt_
  obtain ⟨T1, X1, e1, st1⟩ := getS2 X0 hx hZ hown (host := "") (Or.inl (hw _ w_18)) Via.refl e0 (hp0.ext O0.2) (g := (mkF m 0 #[.val (.int cx)] [])) rfl (hb hby d3_0)
  obtain ⟨_, _, ⟨T2, L2, k2, n2⟩, -, X2, ⟨Lc2, hQ2, l2, y2, z2⟩, st2⟩ := Jvm.LawKit.callS X1 hx (y := mN2) hown (mvT hZ (hw _ w_19)) (mvT hZ (hw _ w_20)) (mvT hZ (hw _ w_21)) (mvT hZ (hw _ w_22)) (by decide) (backOf (W := 0) (rmcanEnc l Z a0 hw [] cx h0 n0 O0 hc) hZ (hw _ w_22) (hw _ w_21) (by decide) (by decide)) (g := (mkF m 7 #[.val (.int cx)] [(.int cx)])) rfl (by rw [hml]; rfl) (argsL := [(.int cx)]) (rest := []) (lenOf pd__C_Z rfl) rfl (by show 2 * 0 + _ ≤ _; exact Nat.le_of_eq rfl) (hb hby d3_7) (fun _ _ => ⟨rfl, e1, (by decide : 0 + 0 ≤ _), (by decide : 0 + 0 ≤ _)⟩)
  dsimp only [Pt.U, Pt.locs, Pt.cells, Pt.slots] at X2 l2 y2 z2 st2 hQ2
  subst l2 y2 z2
  obtain ⟨rfl, N2q, eh2⟩ := hQ2
  have N2 := Fr.app N0 N2q
  obtain ⟨T3, h3, X3, e3, E3, A3, D3, U3, st3⟩ := newO X2 hx hZ hown (hw _ w_23) (hw _ w_24) (hw _ w_16) eh2 (g := (mkF m 13 #[.val (.int cx)] [])) rfl (hb hby d3_13) (by decide) (by decide)
  obtain ⟨b3, g3⟩ : ∃ z, z = h0.size := ⟨_, rfl⟩
  rw [← g3] at A3 D3 U3 st3
  have Un3 : Unt h3 b3 := U3
  have sz3 : h0.size ≤ b3 := Nat.le_trans (Keep.refl h0 []).1 (Nat.le_of_eq g3.symm)
  have gn3 : n0 ≤ b3 := Nat.le_trans Z0 sz3
  have O3 : Old Z n0 h3 := O0.ext E3
  have K3 : Keep h0 h3 [] := (Keep.refl h0 []).ext E3
  have F3_37 : Fld Z h3 b3 "java/lang/String" "value" "[B" .null := D3 (Or.inr (hw _ w_37)) (ty := (.array .byte)) (by decide)
  have F3_39 : Fld Z h3 b3 "java/lang/String" "coder" "B" (.int (0 : Int32)) := D3 (Or.inr (hw _ w_39)) (ty := .byte) (by decide)
  obtain ⟨_, _, ⟨T5, L5, k5, n5⟩, -, X5, ⟨Lc5, hQ5, l5, y5, z5⟩, st5⟩ := Jvm.LawKit.callS X3 hx (y := mN3) hown (mvT hZ (hw _ w_25)) (mvT hZ (hw _ w_26)) (mvT hZ (hw _ w_21)) (mvT hZ (hw _ w_27)) (by decide) (backOf (W := 2) (rmtoBytes1 l Z a0 hw [] cx h3 n0 O3 ) hZ (hw _ w_27) (hw _ w_21) (by decide) (by decide)) (g := (mkF m 18 #[.val (.int cx)] [(.int cx), (.ref b3), (.ref b3)])) rfl (by rw [hml]; rfl) (argsL := [(.int cx)]) (rest := [(.ref b3), (.ref b3)]) (lenOf pd__C_AB rfl) rfl (by show 2 * 0 + _ ≤ _; exact Nat.le_of_eq rfl) (hb hby d3_18) (fun _ _ => ⟨rfl, e3, (by decide : 1 + 1 ≤ _), (by decide : 4 + 1 ≤ _)⟩)
  dsimp only [Pt.U, Pt.locs, Pt.cells, Pt.slots] at X5 l5 y5 z5 st5 hQ5
  subst l5 y5 z5
  obtain ⟨t_5, kt_5, rfl, N5q, Kc5, r5_1, r5_2⟩ := hQ5
  have N5 := Fr.app N2 N5q
  have sz6 : h0.size ≤ t_5 := Nat.le_trans K3.1 r5_1
  have gn6 : n0 ≤ t_5 := Nat.le_trans Z0 sz6
  have O5 : Old Z n0 T5.heap := O3.keep Kc5 all0
  have K5 : Keep h0 T5.heap [] := K3.trans Kc5 all0
  obtain ⟨_, _, ⟨T8, L8, k8, n8⟩, -, X8, ⟨Lc8, hQ8, l8, y8, z8⟩, st8⟩ := X5.specialBack hx (y := mN4) rfl hown (mvT hZ (hw _ w_29)) (mvT hZ (hw _ w_30)) (mvT hZ (hw _ w_32)) (by decide) (backOf (W := 1) (rmstrBB l Z a0 hw [] b3 t_5 .null (.int (0 : Int32)) T5.heap n0 O5 (A3.keep Kc5) gn3 (F3_37.keep Kc5 nin0) (F3_39.keep Kc5 nin0)) hZ (hw _ w_32) (hw _ w_16) (by decide) (by decide)) (g := (mkF m 22 #[.val (.int cx)] [(.int (0 : Int32)), (.ref t_5), (.ref b3), (.ref b3)])) rfl (by rw [hml]; rfl) (Steps.refl _) (a := b3) (argsL := [(.ref t_5), (.int (0 : Int32))]) (rest := [(.ref b3)]) (lenOf pd__ABB_V rfl) rfl (by show 2 * 0 + _ ≤ _; exact Nat.le_of_eq rfl) (hb hby d3_22) (fun _ _ => ⟨rfl, rfl, (by decide : 2 + 0 ≤ _), (by decide : 5 + 0 ≤ _)⟩)
  dsimp only [Pt.U, Pt.locs, Pt.cells, Pt.slots] at X8 l8 y8 z8 st8 hQ8
  subst l8 y8 z8
  obtain ⟨rfl, N8q, Kc8, r8_1, r8_2, r8_3⟩ := hQ8
  have N8 := Fr.app N5 N8q
  have O8 : Old Z n0 T8.heap := O5.keep Kc8 (allS gn3 all0)
  have K8 : Keep h0 T8.heap [] := K5.trans Kc8 (allS (Or.inr sz3) all0)
  obtain ⟨fs, hr, hrun, hended, hW, hsame⟩ := X8.leave (v := some (.ref b3)) (fun h => by rw [Bd.returns] at h; cases h)
  refine ⟨_, _, pre0 _ ?_, hrun, hended, _, _, rfl, ?_, ⟨_, rfl⟩, hW, hsame.mono (by decide) (by decide)⟩
  · show Steps p.tables e below (s₁.setTop (mkF m 0 #[.val (.int cx)] [])) _
    refine st1 _ ?_
    refine XS.ifNo X1.here hx rfl (hb hby d3_3) rfl ((if0 _ _).trans (feq hcz).1) ?_
    refine XS.iloadN X1.here hx rfl (hb hby d3_6) rfl ?_
    show Steps p.tables e below (T1.setTop (mkF m 7 #[.val (.int cx)] [(.int cx)])) _
    refine st2 _ ?_
    refine XS.ifNo X2.here hx rfl (hb hby d3_10) rfl ((if0 _ _).trans (feq (by decide : ¬ ((1 : Int32) = (0 : Int32)))).1) ?_
    show Steps p.tables e below (T2.setTop (mkF m 13 #[.val (.int cx)] [])) _
    refine st3 _ ?_
    refine XS.dup X3.here hx rfl (hb hby d3_16) rfl rfl ?_
    refine XS.iloadN X3.here hx rfl (hb hby d3_17) rfl ?_
    show Steps p.tables e below (T3.setTop (mkF m 18 #[.val (.int cx)] [(.int cx), (.ref b3), (.ref b3)])) _
    refine st5 _ ?_
    refine XS.iconst X5.here hx rfl (hb hby d3_21) ?_
    show Steps p.tables e below (T5.setTop (mkF m 22 #[.val (.int cx)] [(.int (0 : Int32)), (.ref t_5), (.ref b3), (.ref b3)])) _
    refine st8.trans ?_
    show Steps p.tables e below (T8.setTop (mkF m 25 #[.val (.int cx)] [(.ref b3)])) _
    jvm_step X8.here [X8.here.top, hx, (hb hby d3_25), X8.method', Bd.returns, Value.isRef, FieldType.isReference]
    first | (intro acts; rw [hr _ acts rfl rfl rfl]) | rw [hr _ _ rfl rfl rfl]
    exact Steps.refl _
  · show QvalueOfC Z cx cz h0 n0 _ T8.heap _
    exact ⟨b3, t_5, kt_5, rfl, N8, K8, sz3, sz6, r8_1, r8_2, r8_3, (r5_2.keep Kc8 (ninS (Ne.symm (Nat.ne_of_lt (Nat.lt_of_lt_of_le A3.lt r5_1))) nin0))⟩
theorem d2_0 : decode method_4_code 0 = .ok (.iload_n 0, 1) := by decide +kernel
theorem d2_1 : decode method_4_code 1 = .ok (.sipush 256, 3) := by decide +kernel
theorem d2_4 : decode method_4_code 4 = .ok (.iand, 1) := by decide +kernel
theorem d2_5 : decode method_4_code 5 = .ok (.ifCond .eq 5, 3) := by decide +kernel
theorem d2_10 : decode method_4_code 10 = .ok (.iload_n 0, 1) := by decide +kernel
theorem d2_11 : decode method_4_code 11 = .ok (.sipush 255, 3) := by decide +kernel
theorem d2_14 : decode method_4_code 14 = .ok (.iand, 1) := by decide +kernel
theorem d2_15 : decode method_4_code 15 = .ok (.i2c, 1) := by decide +kernel
theorem w_14 : (Jvm.Cond.methodLink "com/example/levy/levy/api/ApiExceptionStatusPinLaw" (55 : Nat) ({ cls := "java/lang/String", name := "valueOf", desc := "(C)Ljava/lang/String;" } : Jvm.MethodName)) ∈ tables_1 := List.mem_of_getElem? (i := 14) (by decide +kernel)
theorem w_17 : (Jvm.Cond.code ({ cls := "java/lang/String", name := "valueOf", desc := "(C)Ljava/lang/String;" } : Jvm.MethodName) jdk_42_method_139_code (1 : Nat) (Option.some (Jvm.ClassFile.FieldType.object "java/lang/String"))) ∈ tables_1 := List.mem_of_getElem? (i := 17) (by decide +kernel)
theorem pd__C_Ljava_lang_String_ : parseMethodDescriptor "(C)Ljava/lang/String;" = some ⟨[.char], some (.object "java/lang/String")⟩ := by decide +kernel
theorem d2_16 : decode method_4_code 16 = .ok (.invokestatic 55, 3) := by decide +kernel
theorem w_15 : (Jvm.Cond.static ({ cls := "java/lang/String", name := "valueOf", desc := "(C)Ljava/lang/String;" } : Jvm.MethodName)) ∈ tables_1 := List.mem_of_getElem? (i := 15) (by decide +kernel)
theorem d2_19 : decode method_4_code 19 = .ok (.areturn, 1) := by decide +kernel
theorem d2_8 : decode method_4_code 8 = .ok (.aconst_null, 1) := by decide +kernel
theorem d2_9 : decode method_4_code 9 = .ok (.areturn, 1) := by decide +kernel
abbrev mN6 : MethodName := ⟨"com/example/levy/levy/api/ApiExceptionStatusPinLaw", "name", "(I)Ljava/lang/String;"⟩
theorem ef_name (m : MethodId) (x0 : Int32) : entryFrame m #[(.int x0)] 1 = mkF m 0 #[.val (.int x0)] [] := by first | (simp [entryFrame, mkF, argsToLocals, Value.category]; done) | rfl
def Qname (Z : State) (cx : Int32) (cz : Int32) (h0 : Heap) (n0 : Nat) (v : Option Value) (h : Heap) (L : List Loc) : Prop := ∃ (wv : Value), v = some wv ∧ Fr n0 L ∧ Keep h0 h [] ∧ (wv.isRef = true)
set_option maxRecDepth 65536 in
set_option maxHeartbeats 40000000 in
theorem rmname (l : Launch) (Z : State) (a0 : Array Value) (hw : ∀ d ∈ tables_1, d.before a0 Z = true) (ws : List Jvm.Cond) (cx : Int32) (cz : Int32) (h0 : Heap) (n0 : Nat) (O0 : Old Z n0 h0) (hp0 : Sta Z Z.heap "java/lang/String" "COMPACT_STRINGS" "Z" (.int cz)) (hcz : (¬ (cz = (0 : Int32)))) :
    MetFree l mN6 (head1 (Jvm.Cond.code mN6 method_4_code 1 (some (.object "java/lang/String")) :: ws) ({ frames := 3, cells := 2, slots := 5, locals := 39 } : Room)) (fun as_ U => as_ = #[(.int cx)] ∧ Z.Warmed39 U.vm ∧ U.heap = h0) (fun _ _ _ _ _ => True) (fun _ U o U' => ∃ v L, o = .returned v ∧ Qname Z cx cz h0 n0 v U'.heap L ∧ FrameEnd U o U' L ({ frames := 3, cells := 2, slots := 5, locals := 39 } : Room).cells ({ frames := 3, cells := 2, slots := 5, locals := 39 } : Room).slots) := by
  refine MetFree.of_bodySF (plainFor_of_name pn_com_example_levy_levy_api_ApiExceptionStatusPinLaw) hisR ?_
  intro p e s m args below meth c s₁ Bd hml0 hP hK
  obtain ⟨rfl, hZ, hh⟩ := hP
  have hx := Bd.exec
  have hby := Bd.bytes
  have hml : c.maxLocals = 1 := hml0
  have hown : s.vm.findClass "com/example/levy/levy/api/ApiExceptionStatusPinLaw" = some m.cls := findClass_of_methodNamed Bd.named
  have hnm := (name_of_methodNamed Bd.named Bd.method).1
  have X0 : Stand p l e ({ frames := 3, cells := 2, slots := 5, locals := 39 } : Room) s m #[(.int cx)] below meth c s₁ [] 0 0 := Stand.of_body Bd
  have e0 : s₁.heap = h0 := by rw [← hh, Bd.state]; rfl
  have N0 := Fr.nil n0
  have Z0 := own_z0 O0
  have pre0 : ∀ tg_, Steps p.tables e below (s₁.setTop (mkF m 0 #[.val (.int cx)] [])) tg_ → Steps p.tables e below (s₁.setTop (entryFrame m #[(.int cx)] 1)) tg_ := fun tg_ kt_ => castTop (ef_name m cx) kt_
  have pre1 : ∀ tg_, Steps p.tables e below (s₁.setTop (mkF m 5 #[.val (.int cx)] [(.int (cx &&& (256 : Int32)))])) tg_ → Steps p.tables e below (s₁.setTop (entryFrame m #[(.int cx)] 1)) tg_ := by
    intro tg_ kt_
    refine pre0 tg_ ?_
    refine XS.iloadN X0.here hx rfl (hb hby d2_0) rfl ?_
    refine XS.sipush X0.here hx rfl (hb hby d2_1) ?_
    refine XS.iand X0.here hx rfl (hb hby d2_4) rfl ?_
    exact kt_
  by_cases hc2 : (cx &&& (256 : Int32)) = (0 : Int32)
  · obtain ⟨_, _, ⟨T3, L3, k3, n3⟩, -, X3, ⟨Lc3, hQ3, l3, y3, z3⟩, st3⟩ := Jvm.LawKit.callS X0 hx (y := mN5) hown (mvT hZ (hw _ w_14)) (mvT hZ (hw _ w_15)) (mvT hZ (hw _ w_16)) (mvT hZ (hw _ w_17)) (by decide) (backOf (W := 0) (rmvalueOfC l Z a0 hw [] ((cx &&& (255 : Int32)).toUInt32.toUInt16.toUInt32.toInt32) cz h0 n0 O0 hp0 hcz (own_ch cx)) hZ (hw _ w_17) (hw _ w_16) (by decide) (by decide)) (g := (mkF m 16 #[.val (.int cx)] [(.int ((cx &&& (255 : Int32)).toUInt32.toUInt16.toUInt32.toInt32))])) rfl (by rw [hml]; rfl) (argsL := [(.int ((cx &&& (255 : Int32)).toUInt32.toUInt16.toUInt32.toInt32))]) (rest := []) (lenOf pd__C_Ljava_lang_String_ rfl) rfl (by show 2 * 0 + _ ≤ _; exact Nat.le_of_eq rfl) (hb hby d2_16) (fun _ _ => ⟨rfl, e0, (by decide : 0 + 2 ≤ _), (by decide : 0 + 5 ≤ _)⟩)
    dsimp only [Pt.U, Pt.locs, Pt.cells, Pt.slots] at X3 l3 y3 z3 st3 hQ3
    subst l3 y3 z3
    obtain ⟨r_3, t_3, kt_3, rfl, N3q, Kc3, r3_1, r3_2, r3_3, r3_4, r3_5, r3_6⟩ := hQ3
    have N3 := Fr.app N0 N3q
    have sz4 : h0.size ≤ r_3 := Nat.le_trans (Keep.refl h0 []).1 r3_1
    have gn4 : n0 ≤ r_3 := Nat.le_trans Z0 sz4
    have sz6 : h0.size ≤ t_3 := Nat.le_trans (Keep.refl h0 []).1 r3_2
    have gn6 : n0 ≤ t_3 := Nat.le_trans Z0 sz6
    have O3 : Old Z n0 T3.heap := O0.keep Kc3 all0
    have K3 : Keep h0 T3.heap [] := (Keep.refl h0 []).trans Kc3 all0
    obtain ⟨fs, hr, hrun, hended, hW, hsame⟩ := X3.leave (v := some (.ref r_3)) (fun h => by rw [Bd.returns] at h; cases h)
    refine ⟨_, _, pre1 _ ?_, hrun, hended, _, _, rfl, ?_, ⟨_, rfl⟩, hW, hsame.mono (by decide) (by decide)⟩
    · show Steps p.tables e below (s₁.setTop (mkF m 5 #[.val (.int cx)] [(.int (cx &&& (256 : Int32)))])) _
      refine XS.ifYes X0.here hx rfl (pc0 := 5) (pc' := 10) rfl (hb hby d2_5) rfl ((if0 _ _).trans (teq hc2).1) (by decide) (by decide) ?_
      refine XS.iloadN X0.here hx rfl (hb hby d2_10) rfl ?_
      refine XS.sipush X0.here hx rfl (hb hby d2_11) ?_
      refine XS.iand X0.here hx rfl (hb hby d2_14) rfl ?_
      show Steps p.tables e below (s₁.setTop (mkF m 15 #[.val (.int cx)] [(.int (cx &&& (255 : Int32)))])) _
      refine XS.i2c X0.here hx rfl (hb hby d2_15) rfl ?_
      show Steps p.tables e below (s₁.setTop (mkF m 16 #[.val (.int cx)] [(.int ((cx &&& (255 : Int32)).toUInt32.toUInt16.toUInt32.toInt32))])) _
      refine st3 _ ?_
      show Steps p.tables e below (T3.setTop (mkF m 19 #[.val (.int cx)] [(.ref r_3)])) _
      jvm_step X3.here [X3.here.top, hx, (hb hby d2_19), X3.method', Bd.returns, Value.isRef, FieldType.isReference]
      first | (intro acts; rw [hr _ acts rfl rfl rfl]) | rw [hr _ _ rfl rfl rfl]
      exact Steps.refl _
    · show Qname Z cx cz h0 n0 _ T3.heap _
      exact ⟨(.ref r_3), rfl, N3, K3, rfl⟩
  · obtain ⟨fs, hr, hrun, hended, hW, hsame⟩ := X0.leave (v := some .null) (fun h => by rw [Bd.returns] at h; cases h)
    refine ⟨_, _, pre1 _ ?_, hrun, hended, _, _, rfl, ?_, ⟨_, rfl⟩, hW, hsame.mono (by decide) (by decide)⟩
    · show Steps p.tables e below (s₁.setTop (mkF m 5 #[.val (.int cx)] [(.int (cx &&& (256 : Int32)))])) _
      refine XS.ifNo X0.here hx rfl (hb hby d2_5) rfl ((if0 _ _).trans (feq hc2).1) ?_
      refine XS.aconstNull X0.here hx rfl (hb hby d2_8) ?_
      show Steps p.tables e below (s₁.setTop (mkF m 9 #[.val (.int cx)] [.null])) _
      jvm_step X0.here [X0.here.top, hx, (hb hby d2_9), X0.method', Bd.returns, Value.isRef, FieldType.isReference]
      first | (intro acts; rw [hr _ acts rfl rfl rfl]) | rw [hr _ _ rfl rfl rfl]
      exact Steps.refl _
    · show Qname Z cx cz h0 n0 _ s₁.heap _
      rw [e0]
      exact ⟨.null, rfl, N0, (Keep.refl h0 []), rfl⟩
theorem d8_0 : decode prog_1_method_1_code 0 = .ok (.aload_n 0, 1) := by decide +kernel
theorem w_43 : (Jvm.Cond.methodLink "com/example/levy/levy/api/ApiError" (1 : Nat) ({ cls := "java/lang/Object", name := "<init>", desc := "()V" } : Jvm.MethodName)) ∈ tables_1 := List.mem_of_getElem? (i := 43) (by decide +kernel)
theorem d8_1 : decode prog_1_method_1_code 1 = .ok (.invokespecial 1, 3) := by decide +kernel
theorem d8_4 : decode prog_1_method_1_code 4 = .ok (.aload_n 0, 1) := by decide +kernel
theorem d8_5 : decode prog_1_method_1_code 5 = .ok (.aload_n 1, 1) := by decide +kernel
theorem w_44 : (Jvm.Cond.fieldLink "com/example/levy/levy/api/ApiError" (7 : Nat) "com/example/levy/levy/api/ApiError" "type" "Lcom/example/levy/levy/api/ErrorType;") ∈ tables_1 := List.mem_of_getElem? (i := 44) (by decide +kernel)
theorem w_45 : (Jvm.Cond.laysFinal "com/example/levy/levy/api/ApiError" "com/example/levy/levy/api/ApiError" "type" "Lcom/example/levy/levy/api/ErrorType;") ∈ tables_1 := List.mem_of_getElem? (i := 45) (by decide +kernel)
theorem w_2 : (Jvm.Cond.instantiable "com/example/levy/levy/api/ApiError" (3 : Nat)) ∈ tables_1 := List.mem_of_getElem? (i := 2) (by decide +kernel)
theorem d8_6 : decode prog_1_method_1_code 6 = .ok (.putfield 7, 3) := by decide +kernel
theorem d8_9 : decode prog_1_method_1_code 9 = .ok (.aload_n 0, 1) := by decide +kernel
theorem d8_10 : decode prog_1_method_1_code 10 = .ok (.aload_n 2, 1) := by decide +kernel
theorem w_46 : (Jvm.Cond.fieldLink "com/example/levy/levy/api/ApiError" (13 : Nat) "com/example/levy/levy/api/ApiError" "parameterName" "Ljava/lang/String;") ∈ tables_1 := List.mem_of_getElem? (i := 46) (by decide +kernel)
theorem w_47 : (Jvm.Cond.laysFinal "com/example/levy/levy/api/ApiError" "com/example/levy/levy/api/ApiError" "parameterName" "Ljava/lang/String;") ∈ tables_1 := List.mem_of_getElem? (i := 47) (by decide +kernel)
theorem d8_11 : decode prog_1_method_1_code 11 = .ok (.putfield 13, 3) := by decide +kernel
theorem d8_14 : decode prog_1_method_1_code 14 = .ok (.aload_n 0, 1) := by decide +kernel
theorem d8_15 : decode prog_1_method_1_code 15 = .ok (.aload_n 3, 1) := by decide +kernel
theorem w_48 : (Jvm.Cond.fieldLink "com/example/levy/levy/api/ApiError" (17 : Nat) "com/example/levy/levy/api/ApiError" "message" "Ljava/lang/String;") ∈ tables_1 := List.mem_of_getElem? (i := 48) (by decide +kernel)
theorem w_49 : (Jvm.Cond.laysFinal "com/example/levy/levy/api/ApiError" "com/example/levy/levy/api/ApiError" "message" "Ljava/lang/String;") ∈ tables_1 := List.mem_of_getElem? (i := 49) (by decide +kernel)
theorem d8_16 : decode prog_1_method_1_code 16 = .ok (.putfield 17, 3) := by decide +kernel
theorem d8_19 : decode prog_1_method_1_code 19 = .ok (.return_, 1) := by decide +kernel
abbrev mN7 : MethodName := ⟨"com/example/levy/levy/api/ApiError", "<init>", "(Lcom/example/levy/levy/api/ErrorType;Ljava/lang/String;Ljava/lang/String;)V"⟩
theorem ef_aeInit (m : MethodId) (x0 : Addr) (x1 : Addr) (x2 : Value) (x3 : Addr) (hx2 : x2.isRef = true) : entryFrame m #[(.ref x0), (.ref x1), x2, (.ref x3)] 4 = mkF m 0 #[.val (.ref x0), .val (.ref x1), .val x2, .val (.ref x3)] [] := by cases x2 <;> first | (simp [entryFrame, mkF, argsToLocals, Value.category]; done) | rfl | (simp [Value.isRef] at hx2; done)
def QaeInit (Z : State) (a : Addr) (t : Addr) (nv : Value) (ms : Addr) (u1 : Value) (u2 : Value) (u3 : Value) (h0 : Heap) (n0 : Nat) (v : Option Value) (h : Heap) (L : List Loc) : Prop := v = none ∧ Fr n0 L ∧ Keep h0 h [a] ∧ Exa Z h a "com/example/levy/levy/api/ApiError" ∧ Fld Z h a "com/example/levy/levy/api/ApiError" "type" "Lcom/example/levy/levy/api/ErrorType;" (.ref t) ∧ Fld Z h a "com/example/levy/levy/api/ApiError" "message" "Ljava/lang/String;" (.ref ms)
theorem pn_com_example_levy_levy_api_ApiError : plainName "com/example/levy/levy/api/ApiError" = true := by first | (simp [plainName, overriddenIn]; done) | decide +kernel
set_option maxRecDepth 65536 in
set_option maxHeartbeats 40000000 in
theorem rmaeInit (l : Launch) (Z : State) (a0 : Array Value) (hw : ∀ d ∈ tables_1, d.before a0 Z = true) (ws : List Jvm.Cond) (a : Addr) (t : Addr) (nv : Value) (ms : Addr) (u1 : Value) (u2 : Value) (u3 : Value) (h0 : Heap) (n0 : Nat) (O0 : Old Z n0 h0) (hp0 : Exa Z h0 a "com/example/levy/levy/api/ApiError") (hp1 : n0 ≤ a) (hnv : (nv.isRef = true)) (hp3 : Fld Z h0 a "com/example/levy/levy/api/ApiError" "type" "Lcom/example/levy/levy/api/ErrorType;" u1) (hp4 : Fld Z h0 a "com/example/levy/levy/api/ApiError" "parameterName" "Ljava/lang/String;" u2) (hp5 : Fld Z h0 a "com/example/levy/levy/api/ApiError" "message" "Ljava/lang/String;" u3) :
    MetFree l mN7 (head1 (Jvm.Cond.code mN7 prog_1_method_1_code 4 none :: ws) ({ frames := 1, cells := 0, slots := 0, locals := 12 } : Room)) (fun as_ U => as_ = #[(.ref a), (.ref t), nv, (.ref ms)] ∧ Z.Warmed39 U.vm ∧ U.heap = h0) (fun _ _ _ _ _ => True) (fun _ U o U' => ∃ v L, o = .returned v ∧ QaeInit Z a t nv ms u1 u2 u3 h0 n0 v U'.heap L ∧ FrameEnd U o U' L ({ frames := 1, cells := 0, slots := 0, locals := 12 } : Room).cells ({ frames := 1, cells := 0, slots := 0, locals := 12 } : Room).slots) := by
  refine MetFree.of_bodySF (plainFor_of_name pn_com_example_levy_levy_api_ApiError) hisR ?_
  intro p e s m args below meth c s₁ Bd hml0 hP hK
  obtain ⟨rfl, hZ, hh⟩ := hP
  have hx := Bd.exec
  have hby := Bd.bytes
  have hml : c.maxLocals = 4 := hml0
  have hown : s.vm.findClass "com/example/levy/levy/api/ApiError" = some m.cls := findClass_of_methodNamed Bd.named
  have hnm := (name_of_methodNamed Bd.named Bd.method).1
  have X0 : Stand p l e ({ frames := 1, cells := 0, slots := 0, locals := 12 } : Room) s m #[(.ref a), (.ref t), nv, (.ref ms)] below meth c s₁ [] 0 0 := Stand.of_body Bd
  have e0 : s₁.heap = h0 := by rw [← hh, Bd.state]; rfl
  have N0 := Fr.nil n0
  have Z0 := own_z0 O0
  have pre0 : ∀ tg_, Steps p.tables e below (s₁.setTop (mkF m 0 #[.val (.ref a), .val (.ref t), .val nv, .val (.ref ms)] [])) tg_ → Steps p.tables e below (s₁.setTop (entryFrame m #[(.ref a), (.ref t), nv, (.ref ms)] 4)) tg_ := fun tg_ kt_ => castTop (ef_aeInit m a t nv ms hnv) kt_
  obtain ⟨T1, X1, e1, st1⟩ := initO X0 hx hZ hown (hw _ w_43) (hw _ w_34) (hw _ w_35) e0 (g := (mkF m 1 #[.val (.ref a), .val (.ref t), .val nv, .val (.ref ms)] [(.ref a)])) rfl (by rw [hml]; rfl) rfl (hb hby d8_1) (by decide) (W := 0) (by show 2 * 0 + _ ≤ _; exact Nat.le_of_eq rfl) (by decide)
  obtain ⟨T2, h2, X2, e2, W2, st2⟩ := putF X1 hx hZ hown (host := "") (Or.inl (hw _ w_44)) Via.refl e1 hp3 hp0 (Or.inr ⟨(hw _ w_45), rfl, hnm⟩) (hw _ w_2) (ty := (.object "com/example/levy/levy/api/ErrorType")) (by decide) rfl rfl (g := (mkF m 6 #[.val (.ref a), .val (.ref t), .val nv, .val (.ref ms)] [(.ref t), (.ref a)])) rfl rfl (hb hby d8_6)
  have Fw2 := hp3.same W2
  have N2 := Fr.snoc X2 N0 hp1
  have O2 : Old Z n0 h2 := O0.wr W2 hp1
  have K2 : Keep h0 h2 [a] := (Keep.refl h0 [a]).wr W2 (Or.inl (List.mem_of_getElem? (i := 0) rfl))
  obtain ⟨T3, h3, X3, e3, W3, st3⟩ := putF X2 hx hZ hown (host := "") (Or.inl (hw _ w_46)) Via.refl e2 (hp4.other W2 (Or.inr (slot_ne (Or.inr (hw _ w_47)) (Or.inr (hw _ w_45)) (by decide) (t := (.object "java/lang/String")) (t' := (.object "com/example/levy/levy/api/ErrorType")) (by decide) (by decide)))) (hp0.wr W2) (Or.inr ⟨(hw _ w_47), rfl, hnm⟩) (hw _ w_2) (ty := (.object "java/lang/String")) (by decide) (own_narR hnv) (own_fitR hnv) (g := (mkF m 11 #[.val (.ref a), .val (.ref t), .val nv, .val (.ref ms)] [nv, (.ref a)])) rfl rfl (hb hby d8_11)
  have Fw3 := (hp4.other W2 (Or.inr (slot_ne (Or.inr (hw _ w_47)) (Or.inr (hw _ w_45)) (by decide) (t := (.object "java/lang/String")) (t' := (.object "com/example/levy/levy/api/ErrorType")) (by decide) (by decide)))).same W3
  have N3 := Fr.snoc X3 N2 hp1
  have O3 : Old Z n0 h3 := O2.wr W3 hp1
  have K3 : Keep h0 h3 [a] := K2.wr W3 (Or.inl (List.mem_of_getElem? (i := 0) rfl))
  obtain ⟨T4, h4, X4, e4, W4, st4⟩ := putF X3 hx hZ hown (host := "") (Or.inl (hw _ w_48)) Via.refl e3 ((hp5.other W2 (Or.inr (slot_ne (Or.inr (hw _ w_49)) (Or.inr (hw _ w_45)) (by decide) (t := (.object "java/lang/String")) (t' := (.object "com/example/levy/levy/api/ErrorType")) (by decide) (by decide)))).other W3 (Or.inr (slot_ne (Or.inr (hw _ w_49)) (Or.inr (hw _ w_47)) (by decide) (t := (.object "java/lang/String")) (t' := (.object "java/lang/String")) (by decide) (by decide)))) ((hp0.wr W2).wr W3) (Or.inr ⟨(hw _ w_49), rfl, hnm⟩) (hw _ w_2) (ty := (.object "java/lang/String")) (by decide) rfl rfl (g := (mkF m 16 #[.val (.ref a), .val (.ref t), .val nv, .val (.ref ms)] [(.ref ms), (.ref a)])) rfl rfl (hb hby d8_16)
  have Fw4 := ((hp5.other W2 (Or.inr (slot_ne (Or.inr (hw _ w_49)) (Or.inr (hw _ w_45)) (by decide) (t := (.object "java/lang/String")) (t' := (.object "com/example/levy/levy/api/ErrorType")) (by decide) (by decide)))).other W3 (Or.inr (slot_ne (Or.inr (hw _ w_49)) (Or.inr (hw _ w_47)) (by decide) (t := (.object "java/lang/String")) (t' := (.object "java/lang/String")) (by decide) (by decide)))).same W4
  have N4 := Fr.snoc X4 N3 hp1
  have O4 : Old Z n0 h4 := O3.wr W4 hp1
  have K4 : Keep h0 h4 [a] := K3.wr W4 (Or.inl (List.mem_of_getElem? (i := 0) rfl))
  obtain ⟨fs, hr, hrun, hended, hW, hsame⟩ := X4.leave (v := none) (fun _ => rfl)
  refine ⟨_, _, pre0 _ ?_, hrun, hended, _, _, rfl, ?_, ⟨_, rfl⟩, hW, hsame.mono (by decide) (by decide)⟩
  · refine XS.aloadN X0.here hx rfl (hb hby d8_0) rfl rfl ?_
    show Steps p.tables e below (s₁.setTop (mkF m 1 #[.val (.ref a), .val (.ref t), .val nv, .val (.ref ms)] [(.ref a)])) _
    refine st1 _ ?_
    refine XS.aloadN X1.here hx rfl (hb hby d8_4) rfl rfl ?_
    refine XS.aloadN X1.here hx rfl (hb hby d8_5) rfl rfl ?_
    show Steps p.tables e below (T1.setTop (mkF m 6 #[.val (.ref a), .val (.ref t), .val nv, .val (.ref ms)] [(.ref t), (.ref a)])) _
    refine st2 _ ?_
    refine XS.aloadN X2.here hx rfl (hb hby d8_9) rfl rfl ?_
    refine XS.aloadN X2.here hx rfl (hb hby d8_10) rfl hnv ?_
    show Steps p.tables e below (T2.setTop (mkF m 11 #[.val (.ref a), .val (.ref t), .val nv, .val (.ref ms)] [nv, (.ref a)])) _
    refine st3 _ ?_
    refine XS.aloadN X3.here hx rfl (hb hby d8_14) rfl rfl ?_
    refine XS.aloadN X3.here hx rfl (hb hby d8_15) rfl rfl ?_
    show Steps p.tables e below (T3.setTop (mkF m 16 #[.val (.ref a), .val (.ref t), .val nv, .val (.ref ms)] [(.ref ms), (.ref a)])) _
    refine st4 _ ?_
    show Steps p.tables e below (T4.setTop (mkF m 19 #[.val (.ref a), .val (.ref t), .val nv, .val (.ref ms)] [])) _
    exact X4.returnOut hx Bd.returns (hb hby d8_19) hr
  · show QaeInit Z a t nv ms u1 u2 u3 h0 n0 _ T4.heap _
    rw [e4]
    exact ⟨rfl, N4, K4, (((hp0.wr W2).wr W3).wr W4), ((Fw2.other W3 (Or.inr (slot_ne (Or.inr (hw _ w_45)) (Or.inr (hw _ w_47)) (by decide) (t := (.object "com/example/levy/levy/api/ErrorType")) (t' := (.object "java/lang/String")) (by decide) (by decide)))).other W4 (Or.inr (slot_ne (Or.inr (hw _ w_45)) (Or.inr (hw _ w_49)) (by decide) (t := (.object "com/example/levy/levy/api/ErrorType")) (t' := (.object "java/lang/String")) (by decide) (by decide)))), Fw4⟩
theorem d11_0 : decode jdk_22_method_1_code 0 = .ok (.aload_n 0, 1) := by decide +kernel
theorem w_72 : (Jvm.Cond.methodLink "java/util/AbstractCollection" (1 : Nat) ({ cls := "java/lang/Object", name := "<init>", desc := "()V" } : Jvm.MethodName)) ∈ tables_1 := List.mem_of_getElem? (i := 72) (by decide +kernel)
theorem d11_1 : decode jdk_22_method_1_code 1 = .ok (.invokespecial 1, 3) := by decide +kernel
theorem d11_4 : decode jdk_22_method_1_code 4 = .ok (.return_, 1) := by decide +kernel
abbrev mN8 : MethodName := ⟨"java/util/AbstractCollection", "<init>", "()V"⟩
theorem ef_abcInit (m : MethodId) (x0 : Addr) : entryFrame m #[(.ref x0)] 1 = mkF m 0 #[.val (.ref x0)] [] := by first | (simp [entryFrame, mkF, argsToLocals, Value.category]; done) | rfl
def QabcInit (Z : State) (a : Addr) (h0 : Heap) (n0 : Nat) (v : Option Value) (h : Heap) (L : List Loc) : Prop := v = none ∧ Fr n0 L ∧ h = h0
theorem pn_java_util_AbstractCollection : plainName "java/util/AbstractCollection" = true := by first | (simp [plainName, overriddenIn]; done) | decide +kernel
set_option maxRecDepth 65536 in
set_option maxHeartbeats 40000000 in
theorem rmabcInit (l : Launch) (Z : State) (a0 : Array Value) (hw : ∀ d ∈ tables_1, d.before a0 Z = true) (ws : List Jvm.Cond) (a : Addr) (h0 : Heap) (n0 : Nat) (O0 : Old Z n0 h0)  :
    MetFree l mN8 (head1 (Jvm.Cond.code mN8 jdk_22_method_1_code 1 none :: ws) ({ frames := 1, cells := 0, slots := 0, locals := 12 } : Room)) (fun as_ U => as_ = #[(.ref a)] ∧ Z.Warmed39 U.vm ∧ U.heap = h0) (fun _ _ _ _ _ => True) (fun _ U o U' => ∃ v L, o = .returned v ∧ QabcInit Z a h0 n0 v U'.heap L ∧ FrameEnd U o U' L ({ frames := 1, cells := 0, slots := 0, locals := 12 } : Room).cells ({ frames := 1, cells := 0, slots := 0, locals := 12 } : Room).slots) := by
  refine MetFree.of_bodySF (plainFor_of_name pn_java_util_AbstractCollection) hisR ?_
  intro p e s m args below meth c s₁ Bd hml0 hP hK
  obtain ⟨rfl, hZ, hh⟩ := hP
  have hx := Bd.exec
  have hby := Bd.bytes
  have hml : c.maxLocals = 1 := hml0
  have hown : s.vm.findClass "java/util/AbstractCollection" = some m.cls := findClass_of_methodNamed Bd.named
  have hnm := (name_of_methodNamed Bd.named Bd.method).1
  have X0 : Stand p l e ({ frames := 1, cells := 0, slots := 0, locals := 12 } : Room) s m #[(.ref a)] below meth c s₁ [] 0 0 := Stand.of_body Bd
  have e0 : s₁.heap = h0 := by rw [← hh, Bd.state]; rfl
  have N0 := Fr.nil n0
  have Z0 := own_z0 O0
  have pre0 : ∀ tg_, Steps p.tables e below (s₁.setTop (mkF m 0 #[.val (.ref a)] [])) tg_ → Steps p.tables e below (s₁.setTop (entryFrame m #[(.ref a)] 1)) tg_ := fun tg_ kt_ => castTop (ef_abcInit m a) kt_
  obtain ⟨T1, X1, e1, st1⟩ := initO X0 hx hZ hown (hw _ w_72) (hw _ w_34) (hw _ w_35) e0 (g := (mkF m 1 #[.val (.ref a)] [(.ref a)])) rfl (by rw [hml]; rfl) rfl (hb hby d11_1) (by decide) (W := 0) (by show 2 * 0 + _ ≤ _; exact Nat.le_of_eq rfl) (by decide)
  obtain ⟨fs, hr, hrun, hended, hW, hsame⟩ := X1.leave (v := none) (fun _ => rfl)
  refine ⟨_, _, pre0 _ ?_, hrun, hended, _, _, rfl, ?_, ⟨_, rfl⟩, hW, hsame.mono (by decide) (by decide)⟩
  · refine XS.aloadN X0.here hx rfl (hb hby d11_0) rfl rfl ?_
    show Steps p.tables e below (s₁.setTop (mkF m 1 #[.val (.ref a)] [(.ref a)])) _
    refine st1 _ ?_
    show Steps p.tables e below (T1.setTop (mkF m 4 #[.val (.ref a)] [])) _
    exact X1.returnOut hx Bd.returns (hb hby d11_4) hr
  · show QabcInit Z a h0 n0 _ T1.heap _
    rw [e1]
    exact ⟨rfl, N0, rfl⟩
theorem d10_0 : decode jdk_39_method_1_code 0 = .ok (.aload_n 0, 1) := by decide +kernel
theorem w_66 : (Jvm.Cond.methodLink "java/util/AbstractList" (1 : Nat) ({ cls := "java/util/AbstractCollection", name := "<init>", desc := "()V" } : Jvm.MethodName)) ∈ tables_1 := List.mem_of_getElem? (i := 66) (by decide +kernel)
theorem w_71 : (Jvm.Cond.code ({ cls := "java/util/AbstractCollection", name := "<init>", desc := "()V" } : Jvm.MethodName) jdk_22_method_1_code (1 : Nat) (Option.none : Option Jvm.ClassFile.FieldType)) ∈ tables_1 := List.mem_of_getElem? (i := 71) (by decide +kernel)
theorem w_70 : (Jvm.Cond.initialized "java/util/AbstractCollection") ∈ tables_1 := List.mem_of_getElem? (i := 70) (by decide +kernel)
theorem pd___V : parseMethodDescriptor "()V" = some ⟨[], none⟩ := by decide +kernel
theorem d10_1 : decode jdk_39_method_1_code 1 = .ok (.invokespecial 1, 3) := by decide +kernel
theorem w_67 : (Jvm.Cond.instanceMethod ({ cls := "java/util/AbstractCollection", name := "<init>", desc := "()V" } : Jvm.MethodName)) ∈ tables_1 := List.mem_of_getElem? (i := 67) (by decide +kernel)
theorem d10_4 : decode jdk_39_method_1_code 4 = .ok (.aload_n 0, 1) := by decide +kernel
theorem d10_5 : decode jdk_39_method_1_code 5 = .ok (.iconst 0, 1) := by decide +kernel
theorem w_73 : (Jvm.Cond.fieldLink "java/util/AbstractList" (7 : Nat) "java/util/AbstractList" "modCount" "I") ∈ tables_1 := List.mem_of_getElem? (i := 73) (by decide +kernel)
theorem w_74 : (Jvm.Cond.lays "java/util/ArrayList" "java/util/AbstractList" "modCount" "I") ∈ tables_1 := List.mem_of_getElem? (i := 74) (by decide +kernel)
theorem w_55 : (Jvm.Cond.instantiable "java/util/ArrayList" (3 : Nat)) ∈ tables_1 := List.mem_of_getElem? (i := 55) (by decide +kernel)
theorem d10_6 : decode jdk_39_method_1_code 6 = .ok (.putfield 7, 3) := by decide +kernel
theorem d10_9 : decode jdk_39_method_1_code 9 = .ok (.return_, 1) := by decide +kernel
theorem w_77 : (Jvm.Cond.lays "java/util/ArrayList" "java/util/ArrayList" "elementData" "[Ljava/lang/Object;") ∈ tables_1 := List.mem_of_getElem? (i := 77) (by decide +kernel)
theorem w_86 : (Jvm.Cond.lays "java/util/ArrayList" "java/util/ArrayList" "size" "I") ∈ tables_1 := List.mem_of_getElem? (i := 86) (by decide +kernel)
abbrev mN9 : MethodName := ⟨"java/util/AbstractList", "<init>", "()V"⟩
theorem ef_ablInit (m : MethodId) (x0 : Addr) : entryFrame m #[(.ref x0)] 1 = mkF m 0 #[.val (.ref x0)] [] := by first | (simp [entryFrame, mkF, argsToLocals, Value.category]; done) | rfl
def QablInit (Z : State) (a : Addr) (u0 : Value) (u1 : Value) (u2 : Value) (h0 : Heap) (n0 : Nat) (v : Option Value) (h : Heap) (L : List Loc) : Prop := v = none ∧ Fr n0 L ∧ Keep h0 h [a] ∧ Exa Z h a "java/util/ArrayList" ∧ Fld Z h a "java/util/AbstractList" "modCount" "I" (.int (0 : Int32)) ∧ Fld Z h a "java/util/ArrayList" "elementData" "[Ljava/lang/Object;" u1 ∧ Fld Z h a "java/util/ArrayList" "size" "I" u2
theorem pn_java_util_AbstractList : plainName "java/util/AbstractList" = true := by first | (simp [plainName, overriddenIn]; done) | decide +kernel
set_option maxRecDepth 65536 in
set_option maxHeartbeats 40000000 in
theorem rmablInit (l : Launch) (Z : State) (a0 : Array Value) (hw : ∀ d ∈ tables_1, d.before a0 Z = true) (ws : List Jvm.Cond) (a : Addr) (u0 : Value) (u1 : Value) (u2 : Value) (h0 : Heap) (n0 : Nat) (O0 : Old Z n0 h0) (hp0 : Exa Z h0 a "java/util/ArrayList") (hp1 : n0 ≤ a) (hp2 : Fld Z h0 a "java/util/AbstractList" "modCount" "I" u0) (hp3 : Fld Z h0 a "java/util/ArrayList" "elementData" "[Ljava/lang/Object;" u1) (hp4 : Fld Z h0 a "java/util/ArrayList" "size" "I" u2) :
    MetFree l mN9 (head1 (Jvm.Cond.code mN9 jdk_39_method_1_code 1 none :: ws) ({ frames := 2, cells := 0, slots := 0, locals := 24 } : Room)) (fun as_ U => as_ = #[(.ref a)] ∧ Z.Warmed39 U.vm ∧ U.heap = h0) (fun _ _ _ _ _ => True) (fun _ U o U' => ∃ v L, o = .returned v ∧ QablInit Z a u0 u1 u2 h0 n0 v U'.heap L ∧ FrameEnd U o U' L ({ frames := 2, cells := 0, slots := 0, locals := 24 } : Room).cells ({ frames := 2, cells := 0, slots := 0, locals := 24 } : Room).slots) := by
  refine MetFree.of_bodySF (plainFor_of_name pn_java_util_AbstractList) hisR ?_
  intro p e s m args below meth c s₁ Bd hml0 hP hK
  obtain ⟨rfl, hZ, hh⟩ := hP
  have hx := Bd.exec
  have hby := Bd.bytes
  have hml : c.maxLocals = 1 := hml0
  have hown : s.vm.findClass "java/util/AbstractList" = some m.cls := findClass_of_methodNamed Bd.named
  have hnm := (name_of_methodNamed Bd.named Bd.method).1
  have X0 : Stand p l e ({ frames := 2, cells := 0, slots := 0, locals := 24 } : Room) s m #[(.ref a)] below meth c s₁ [] 0 0 := Stand.of_body Bd
  have e0 : s₁.heap = h0 := by rw [← hh, Bd.state]; rfl
  have N0 := Fr.nil n0
  have Z0 := own_z0 O0
  have pre0 : ∀ tg_, Steps p.tables e below (s₁.setTop (mkF m 0 #[.val (.ref a)] [])) tg_ → Steps p.tables e below (s₁.setTop (entryFrame m #[(.ref a)] 1)) tg_ := fun tg_ kt_ => castTop (ef_ablInit m a) kt_
  obtain ⟨_, _, ⟨T1, L1, k1, n1⟩, -, X1, ⟨Lc1, hQ1, l1, y1, z1⟩, st1⟩ := X0.specialBack hx (y := mN8) rfl hown (mvT hZ (hw _ w_66)) (mvT hZ (hw _ w_67)) (mvT hZ (hw _ w_71)) (by decide) (backOf (W := 0) (rmabcInit l Z a0 hw [] a h0 n0 O0 ) hZ (hw _ w_71) (hw _ w_70) (by decide) (by decide)) (g := (mkF m 1 #[.val (.ref a)] [(.ref a)])) rfl (by rw [hml]; rfl) (Steps.refl _) (a := a) (argsL := []) (rest := []) (lenOf pd___V rfl) rfl (by show 2 * 0 + _ ≤ _; exact Nat.le_of_eq rfl) (hb hby d10_1) (fun _ _ => ⟨rfl, e0, (by decide : 0 + 0 ≤ _), (by decide : 0 + 0 ≤ _)⟩)
  dsimp only [Pt.U, Pt.locs, Pt.cells, Pt.slots] at X1 l1 y1 z1 st1 hQ1
  subst l1 y1 z1
  obtain ⟨rfl, N1q, eh1⟩ := hQ1
  have N1 := Fr.app N0 N1q
  obtain ⟨T2, h2, X2, e2, W2, st2⟩ := putF X1 hx hZ hown (host := "") (Or.inl (hw _ w_73)) Via.refl eh1 hp2 hp0 (Or.inl (hw _ w_74)) (hw _ w_55) (ty := .int) (by decide) rfl rfl (g := (mkF m 6 #[.val (.ref a)] [(.int (0 : Int32)), (.ref a)])) rfl rfl (hb hby d10_6)
  have Fw2 := hp2.same W2
  have N2 := Fr.snoc X2 N1 hp1
  have O2 : Old Z n0 h2 := O0.wr W2 hp1
  have K2 : Keep h0 h2 [a] := (Keep.refl h0 [a]).wr W2 (Or.inl (List.mem_of_getElem? (i := 0) rfl))
  obtain ⟨fs, hr, hrun, hended, hW, hsame⟩ := X2.leave (v := none) (fun _ => rfl)
  refine ⟨_, _, pre0 _ ?_, hrun, hended, _, _, rfl, ?_, ⟨_, rfl⟩, hW, hsame.mono (by decide) (by decide)⟩
  · refine XS.aloadN X0.here hx rfl (hb hby d10_0) rfl rfl ?_
    show Steps p.tables e below (s₁.setTop (mkF m 1 #[.val (.ref a)] [(.ref a)])) _
    refine st1.trans ?_
    refine XS.aloadN X1.here hx rfl (hb hby d10_4) rfl rfl ?_
    refine XS.iconst X1.here hx rfl (hb hby d10_5) ?_
    show Steps p.tables e below (T1.setTop (mkF m 6 #[.val (.ref a)] [(.int (0 : Int32)), (.ref a)])) _
    refine st2 _ ?_
    show Steps p.tables e below (T2.setTop (mkF m 9 #[.val (.ref a)] [])) _
    exact X2.returnOut hx Bd.returns (hb hby d10_9) hr
  · show QablInit Z a u0 u1 u2 h0 n0 _ T2.heap _
    rw [e2]
    exact ⟨rfl, N2, K2, (hp0.wr W2), Fw2, (hp3.other W2 (Or.inr (slot_ne (Or.inl (hw _ w_77)) (Or.inl (hw _ w_74)) (by decide) (t := (.array (.object "java/lang/Object"))) (t' := .int) (by decide) (by decide)))), (hp4.other W2 (Or.inr (slot_ne (Or.inl (hw _ w_86)) (Or.inl (hw _ w_74)) (by decide) (t := .int) (t' := .int) (by decide) (by decide))))⟩
theorem d9_0 : decode jdk_38_method_2_code 0 = .ok (.aload_n 0, 1) := by decide +kernel
theorem w_60 : (Jvm.Cond.methodLink "java/util/ArrayList" (1 : Nat) ({ cls := "java/util/AbstractList", name := "<init>", desc := "()V" } : Jvm.MethodName)) ∈ tables_1 := List.mem_of_getElem? (i := 60) (by decide +kernel)
theorem w_65 : (Jvm.Cond.code ({ cls := "java/util/AbstractList", name := "<init>", desc := "()V" } : Jvm.MethodName) jdk_39_method_1_code (1 : Nat) (Option.none : Option Jvm.ClassFile.FieldType)) ∈ tables_1 := List.mem_of_getElem? (i := 65) (by decide +kernel)
theorem w_64 : (Jvm.Cond.initialized "java/util/AbstractList") ∈ tables_1 := List.mem_of_getElem? (i := 64) (by decide +kernel)
theorem d9_1 : decode jdk_38_method_2_code 1 = .ok (.invokespecial 1, 3) := by decide +kernel
theorem w_61 : (Jvm.Cond.instanceMethod ({ cls := "java/util/AbstractList", name := "<init>", desc := "()V" } : Jvm.MethodName)) ∈ tables_1 := List.mem_of_getElem? (i := 61) (by decide +kernel)
theorem d9_4 : decode jdk_38_method_2_code 4 = .ok (.aload_n 0, 1) := by decide +kernel
theorem w_75 : (Jvm.Cond.fieldLink "java/util/ArrayList" (39 : Nat) "java/util/ArrayList" "DEFAULTCAPACITY_EMPTY_ELEMENTDATA" "[Ljava/lang/Object;") ∈ tables_1 := List.mem_of_getElem? (i := 75) (by decide +kernel)
theorem d9_5 : decode jdk_38_method_2_code 5 = .ok (.getstatic 39, 3) := by decide +kernel
theorem w_76 : (Jvm.Cond.fieldLink "java/util/ArrayList" (9 : Nat) "java/util/ArrayList" "elementData" "[Ljava/lang/Object;") ∈ tables_1 := List.mem_of_getElem? (i := 76) (by decide +kernel)
theorem d9_8 : decode jdk_38_method_2_code 8 = .ok (.putfield 9, 3) := by decide +kernel
theorem d9_11 : decode jdk_38_method_2_code 11 = .ok (.return_, 1) := by decide +kernel
abbrev mN10 : MethodName := ⟨"java/util/ArrayList", "<init>", "()V"⟩
theorem ef_alInit (m : MethodId) (x0 : Addr) : entryFrame m #[(.ref x0)] 1 = mkF m 0 #[.val (.ref x0)] [] := by first | (simp [entryFrame, mkF, argsToLocals, Value.category]; done) | rfl
def QalInit (Z : State) (a : Addr) (u0 : Value) (u1 : Value) (dd : Addr) (h0 : Heap) (n0 : Nat) (v : Option Value) (h : Heap) (L : List Loc) : Prop := v = none ∧ Fr n0 L ∧ Keep h0 h [a] ∧ Exa Z h a "java/util/ArrayList" ∧ Fld Z h a "java/util/AbstractList" "modCount" "I" (.int (0 : Int32)) ∧ Fld Z h a "java/util/ArrayList" "elementData" "[Ljava/lang/Object;" (.ref dd) ∧ Fld Z h a "java/util/ArrayList" "size" "I" (.int (0 : Int32))
theorem pn_java_util_ArrayList : plainName "java/util/ArrayList" = true := by first | (simp [plainName, overriddenIn]; done) | decide +kernel
set_option maxRecDepth 65536 in
set_option maxHeartbeats 40000000 in
theorem rmalInit (l : Launch) (Z : State) (a0 : Array Value) (hw : ∀ d ∈ tables_1, d.before a0 Z = true) (ws : List Jvm.Cond) (a : Addr) (u0 : Value) (u1 : Value) (dd : Addr) (h0 : Heap) (n0 : Nat) (O0 : Old Z n0 h0) (hp0 : Exa Z h0 a "java/util/ArrayList") (hp1 : n0 ≤ a) (hp2 : Fld Z h0 a "java/util/AbstractList" "modCount" "I" u0) (hp3 : Fld Z h0 a "java/util/ArrayList" "elementData" "[Ljava/lang/Object;" u1) (hp4 : Fld Z h0 a "java/util/ArrayList" "size" "I" (.int (0 : Int32))) (hp5 : Sta Z Z.heap "java/util/ArrayList" "DEFAULTCAPACITY_EMPTY_ELEMENTDATA" "[Ljava/lang/Object;" (.ref dd)) :
    MetFree l mN10 (head1 (Jvm.Cond.code mN10 jdk_38_method_2_code 1 none :: ws) ({ frames := 3, cells := 0, slots := 0, locals := 36 } : Room)) (fun as_ U => as_ = #[(.ref a)] ∧ Z.Warmed39 U.vm ∧ U.heap = h0) (fun _ _ _ _ _ => True) (fun _ U o U' => ∃ v L, o = .returned v ∧ QalInit Z a u0 u1 dd h0 n0 v U'.heap L ∧ FrameEnd U o U' L ({ frames := 3, cells := 0, slots := 0, locals := 36 } : Room).cells ({ frames := 3, cells := 0, slots := 0, locals := 36 } : Room).slots) := by
  refine MetFree.of_bodySF (plainFor_of_name pn_java_util_ArrayList) hisR ?_
  intro p e s m args below meth c s₁ Bd hml0 hP hK
  obtain ⟨rfl, hZ, hh⟩ := hP
  have hx := Bd.exec
  have hby := Bd.bytes
  have hml : c.maxLocals = 1 := hml0
  have hown : s.vm.findClass "java/util/ArrayList" = some m.cls := findClass_of_methodNamed Bd.named
  have hnm := (name_of_methodNamed Bd.named Bd.method).1
  have X0 : Stand p l e ({ frames := 3, cells := 0, slots := 0, locals := 36 } : Room) s m #[(.ref a)] below meth c s₁ [] 0 0 := Stand.of_body Bd
  have e0 : s₁.heap = h0 := by rw [← hh, Bd.state]; rfl
  have N0 := Fr.nil n0
  have Z0 := own_z0 O0
  have pre0 : ∀ tg_, Steps p.tables e below (s₁.setTop (mkF m 0 #[.val (.ref a)] [])) tg_ → Steps p.tables e below (s₁.setTop (entryFrame m #[(.ref a)] 1)) tg_ := fun tg_ kt_ => castTop (ef_alInit m a) kt_
  obtain ⟨_, _, ⟨T1, L1, k1, n1⟩, -, X1, ⟨Lc1, hQ1, l1, y1, z1⟩, st1⟩ := X0.specialBack hx (y := mN9) rfl hown (mvT hZ (hw _ w_60)) (mvT hZ (hw _ w_61)) (mvT hZ (hw _ w_65)) (by decide) (backOf (W := 0) (rmablInit l Z a0 hw [] a u0 u1 (.int (0 : Int32)) h0 n0 O0 hp0 hp1 hp2 hp3 hp4) hZ (hw _ w_65) (hw _ w_64) (by decide) (by decide)) (g := (mkF m 1 #[.val (.ref a)] [(.ref a)])) rfl (by rw [hml]; rfl) (Steps.refl _) (a := a) (argsL := []) (rest := []) (lenOf pd___V rfl) rfl (by show 2 * 0 + _ ≤ _; exact Nat.le_of_eq rfl) (hb hby d9_1) (fun _ _ => ⟨rfl, e0, (by decide : 0 + 0 ≤ _), (by decide : 0 + 0 ≤ _)⟩)
  dsimp only [Pt.U, Pt.locs, Pt.cells, Pt.slots] at X1 l1 y1 z1 st1 hQ1
  subst l1 y1 z1
  obtain ⟨rfl, N1q, Kc1, r1_1, r1_2, r1_3, r1_4⟩ := hQ1
  have N1 := Fr.app N0 N1q
  have O1 : Old Z n0 T1.heap := O0.keep Kc1 (allS hp1 all0)
  have K1 : Keep h0 T1.heap [a] := (Keep.refl h0 [a]).trans Kc1 (allS (Or.inl (List.mem_of_getElem? (i := 0) rfl)) all0)
  obtain ⟨T2, X2, e2, st2⟩ := getS2 X1 hx hZ hown (host := "") (Or.inl (hw _ w_75)) Via.refl rfl (hp5.ext O1.2) (g := (mkF m 5 #[.val (.ref a)] [(.ref a)])) rfl (hb hby d9_5)
  obtain ⟨T3, h3, X3, e3, W3, st3⟩ := putF X2 hx hZ hown (host := "") (Or.inl (hw _ w_76)) Via.refl e2 r1_3 r1_1 (Or.inl (hw _ w_77)) (hw _ w_55) (ty := (.array (.object "java/lang/Object"))) (by decide) rfl rfl (g := (mkF m 8 #[.val (.ref a)] [(.ref dd), (.ref a)])) rfl rfl (hb hby d9_8)
  have Fw3 := r1_3.same W3
  have N3 := Fr.snoc X3 N1 hp1
  have O3 : Old Z n0 h3 := O1.wr W3 hp1
  have K3 : Keep h0 h3 [a] := K1.wr W3 (Or.inl (List.mem_of_getElem? (i := 0) rfl))
  obtain ⟨fs, hr, hrun, hended, hW, hsame⟩ := X3.leave (v := none) (fun _ => rfl)
  refine ⟨_, _, pre0 _ ?_, hrun, hended, _, _, rfl, ?_, ⟨_, rfl⟩, hW, hsame.mono (by decide) (by decide)⟩
  · refine XS.aloadN X0.here hx rfl (hb hby d9_0) rfl rfl ?_
    show Steps p.tables e below (s₁.setTop (mkF m 1 #[.val (.ref a)] [(.ref a)])) _
    refine st1.trans ?_
    refine XS.aloadN X1.here hx rfl (hb hby d9_4) rfl rfl ?_
    show Steps p.tables e below (T1.setTop (mkF m 5 #[.val (.ref a)] [(.ref a)])) _
    refine st2 _ ?_
    show Steps p.tables e below (T2.setTop (mkF m 8 #[.val (.ref a)] [(.ref dd), (.ref a)])) _
    refine st3 _ ?_
    show Steps p.tables e below (T3.setTop (mkF m 11 #[.val (.ref a)] [])) _
    exact X3.returnOut hx Bd.returns (hb hby d9_11) hr
  · show QalInit Z a u0 u1 dd h0 n0 _ T3.heap _
    rw [e3]
    exact ⟨rfl, N3, K3, (r1_1.wr W3), (r1_2.other W3 (Or.inr (slot_ne (Or.inl (hw _ w_74)) (Or.inl (hw _ w_77)) (by decide) (t := .int) (t' := (.array (.object "java/lang/Object"))) (by decide) (by decide)))), Fw3, (r1_4.other W3 (Or.inr (slot_ne (Or.inl (hw _ w_86)) (Or.inl (hw _ w_77)) (by decide) (t := .int) (t' := (.array (.object "java/lang/Object"))) (by decide) (by decide))))⟩
theorem d16_0 : decode jdk_29_method_65_code 0 = .ok (.iload_n 0, 1) := by decide +kernel
theorem d16_1 : decode jdk_29_method_65_code 1 = .ok (.iload_n 1, 1) := by decide +kernel
theorem d16_2 : decode jdk_29_method_65_code 2 = .ok (.if_icmp .lt 7, 3) := by decide +kernel
theorem d16_9 : decode jdk_29_method_65_code 9 = .ok (.iload_n 1, 1) := by decide +kernel
theorem d16_10 : decode jdk_29_method_65_code 10 = .ok (.ireturn, 1) := by decide +kernel
abbrev mN11 : MethodName := ⟨"java/lang/Math", "max", "(II)I"⟩
theorem ef_maxL (m : MethodId) (x0 : Int32) (x1 : Int32) : entryFrame m #[(.int x0), (.int x1)] 2 = mkF m 0 #[.val (.int x0), .val (.int x1)] [] := by first | (simp [entryFrame, mkF, argsToLocals, Value.category]; done) | rfl
def QmaxL (Z : State) (xx : Int32) (yy : Int32) (h0 : Heap) (n0 : Nat) (v : Option Value) (h : Heap) (L : List Loc) : Prop := v = some (.int yy) ∧ Fr n0 L ∧ h = h0
theorem pn_b16 : plainFor (⟨"java/lang/Math", "max", "(II)I"⟩ : MethodName) = true := by decide +kernel
set_option maxRecDepth 65536 in
set_option maxHeartbeats 40000000 in
theorem rmmaxL (l : Launch) (Z : State) (a0 : Array Value) (hw : ∀ d ∈ tables_1, d.before a0 Z = true) (ws : List Jvm.Cond) (xx : Int32) (yy : Int32) (h0 : Heap) (n0 : Nat) (O0 : Old Z n0 h0) (h : (xx < yy)) :
    MetFree l mN11 (head1 (Jvm.Cond.code mN11 jdk_29_method_65_code 2 (some .int) :: ws) ({ frames := 0, cells := 0, slots := 0, locals := 0 } : Room)) (fun as_ U => as_ = #[(.int xx), (.int yy)] ∧ Z.Warmed39 U.vm ∧ U.heap = h0) (fun _ _ _ _ _ => True) (fun _ U o U' => ∃ v L, o = .returned v ∧ QmaxL Z xx yy h0 n0 v U'.heap L ∧ FrameEnd U o U' L ({ frames := 0, cells := 0, slots := 0, locals := 0 } : Room).cells ({ frames := 0, cells := 0, slots := 0, locals := 0 } : Room).slots) := by
  refine MetFree.of_bodySF pn_b16 hisR ?_
  intro p e s m args below meth c s₁ Bd hml0 hP hK
  obtain ⟨rfl, hZ, hh⟩ := hP
  have hx := Bd.exec
  have hby := Bd.bytes
  have hml : c.maxLocals = 2 := hml0
  have hown : s.vm.findClass "java/lang/Math" = some m.cls := findClass_of_methodNamed Bd.named
  have hnm := (name_of_methodNamed Bd.named Bd.method).1
  have X0 : Stand p l e ({ frames := 0, cells := 0, slots := 0, locals := 0 } : Room) s m #[(.int xx), (.int yy)] below meth c s₁ [] 0 0 := Stand.of_body Bd
  have e0 : s₁.heap = h0 := by rw [← hh, Bd.state]; rfl
  have N0 := Fr.nil n0
  have Z0 := own_z0 O0
  have pre0 : ∀ tg_, Steps p.tables e below (s₁.setTop (mkF m 0 #[.val (.int xx), .val (.int yy)] [])) tg_ → Steps p.tables e below (s₁.setTop (entryFrame m #[(.int xx), (.int yy)] 2)) tg_ := fun tg_ kt_ => castTop (ef_maxL m xx yy) kt_
  obtain ⟨fs, hr, hrun, hended, hW, hsame⟩ := X0.leave (v := some (.int yy)) (fun h => by rw [Bd.returns] at h; cases h)
  refine ⟨_, _, pre0 _ ?_, hrun, hended, _, _, rfl, ?_, ⟨_, rfl⟩, hW, hsame.mono (by decide) (by decide)⟩
  · refine XS.iloadN X0.here hx rfl (hb hby d16_0) rfl ?_
    refine XS.iloadN X0.here hx rfl (hb hby d16_1) rfl ?_
    refine XS.icmpYes X0.here hx rfl (pc0 := 2) (pc' := 9) rfl (hb hby d16_2) rfl (tlt h).1 (by decide) (by decide) ?_
    show Steps p.tables e below (s₁.setTop (mkF m 9 #[.val (.int xx), .val (.int yy)] [])) _
    refine XS.iloadN X0.here hx rfl (hb hby d16_9) rfl ?_
    show Steps p.tables e below (s₁.setTop (mkF m 10 #[.val (.int xx), .val (.int yy)] [(.int yy)])) _
    exact retI X0 hx Bd.returns (hb hby d16_10) hr
  · show QmaxL Z xx yy h0 n0 _ s₁.heap _
    rw [e0]
    exact ⟨rfl, N0, rfl⟩
theorem d16_5 : decode jdk_29_method_65_code 5 = .ok (.iload_n 0, 1) := by decide +kernel
theorem d16_6 : decode jdk_29_method_65_code 6 = .ok (.goto 4, 3) := by decide +kernel
theorem ef_maxG (m : MethodId) (x0 : Int32) (x1 : Int32) : entryFrame m #[(.int x0), (.int x1)] 2 = mkF m 0 #[.val (.int x0), .val (.int x1)] [] := by first | (simp [entryFrame, mkF, argsToLocals, Value.category]; done) | rfl
def QmaxG (Z : State) (xx : Int32) (yy : Int32) (h0 : Heap) (n0 : Nat) (v : Option Value) (h : Heap) (L : List Loc) : Prop := v = some (.int xx) ∧ Fr n0 L ∧ h = h0
set_option maxRecDepth 65536 in
set_option maxHeartbeats 40000000 in
theorem rmmaxG (l : Launch) (Z : State) (a0 : Array Value) (hw : ∀ d ∈ tables_1, d.before a0 Z = true) (ws : List Jvm.Cond) (xx : Int32) (yy : Int32) (h0 : Heap) (n0 : Nat) (O0 : Old Z n0 h0) (h : (¬ (xx < yy))) :
    MetFree l mN11 (head1 (Jvm.Cond.code mN11 jdk_29_method_65_code 2 (some .int) :: ws) ({ frames := 0, cells := 0, slots := 0, locals := 0 } : Room)) (fun as_ U => as_ = #[(.int xx), (.int yy)] ∧ Z.Warmed39 U.vm ∧ U.heap = h0) (fun _ _ _ _ _ => True) (fun _ U o U' => ∃ v L, o = .returned v ∧ QmaxG Z xx yy h0 n0 v U'.heap L ∧ FrameEnd U o U' L ({ frames := 0, cells := 0, slots := 0, locals := 0 } : Room).cells ({ frames := 0, cells := 0, slots := 0, locals := 0 } : Room).slots) := by
  refine MetFree.of_bodySF pn_b16 hisR ?_
  intro p e s m args below meth c s₁ Bd hml0 hP hK
  obtain ⟨rfl, hZ, hh⟩ := hP
  have hx := Bd.exec
  have hby := Bd.bytes
  have hml : c.maxLocals = 2 := hml0
  have hown : s.vm.findClass "java/lang/Math" = some m.cls := findClass_of_methodNamed Bd.named
  have hnm := (name_of_methodNamed Bd.named Bd.method).1
  have X0 : Stand p l e ({ frames := 0, cells := 0, slots := 0, locals := 0 } : Room) s m #[(.int xx), (.int yy)] below meth c s₁ [] 0 0 := Stand.of_body Bd
  have e0 : s₁.heap = h0 := by rw [← hh, Bd.state]; rfl
  have N0 := Fr.nil n0
  have Z0 := own_z0 O0
  have pre0 : ∀ tg_, Steps p.tables e below (s₁.setTop (mkF m 0 #[.val (.int xx), .val (.int yy)] [])) tg_ → Steps p.tables e below (s₁.setTop (entryFrame m #[(.int xx), (.int yy)] 2)) tg_ := fun tg_ kt_ => castTop (ef_maxG m xx yy) kt_
  obtain ⟨fs, hr, hrun, hended, hW, hsame⟩ := X0.leave (v := some (.int xx)) (fun h => by rw [Bd.returns] at h; cases h)
  refine ⟨_, _, pre0 _ ?_, hrun, hended, _, _, rfl, ?_, ⟨_, rfl⟩, hW, hsame.mono (by decide) (by decide)⟩
  · refine XS.iloadN X0.here hx rfl (hb hby d16_0) rfl ?_
    refine XS.iloadN X0.here hx rfl (hb hby d16_1) rfl ?_
    refine XS.icmpNo X0.here hx rfl (hb hby d16_2) rfl (flt h).1 ?_
    show Steps p.tables e below (s₁.setTop (mkF m 5 #[.val (.int xx), .val (.int yy)] [])) _
    refine XS.iloadN X0.here hx rfl (hb hby d16_5) rfl ?_
    refine XS.goto X0.here hx rfl (pc0 := 6) (pc' := 10) rfl (hb hby d16_6) (by decide) (by decide) ?_
    show Steps p.tables e below (s₁.setTop (mkF m 10 #[.val (.int xx), .val (.int yy)] [(.int xx)])) _
    exact retI X0 hx Bd.returns (hb hby d16_10) hr
  · show QmaxG Z xx yy h0 n0 _ s₁.heap _
    rw [e0]
    exact ⟨rfl, N0, rfl⟩
theorem d15_0 : decode jdk_38_method_6_code 0 = .ok (.aload_n 0, 1) := by decide +kernel
theorem d15_1 : decode jdk_38_method_6_code 1 = .ok (.getfield 9, 3) := by decide +kernel
theorem d15_4 : decode jdk_38_method_6_code 4 = .ok (.arraylength, 1) := by decide +kernel
theorem d15_5 : decode jdk_38_method_6_code 5 = .ok (.istore_n 2, 1) := by decide +kernel
theorem d15_6 : decode jdk_38_method_6_code 6 = .ok (.iload_n 2, 1) := by decide +kernel
theorem d15_7 : decode jdk_38_method_6_code 7 = .ok (.ifCond .gt 13, 3) := by decide +kernel
theorem d15_10 : decode jdk_38_method_6_code 10 = .ok (.aload_n 0, 1) := by decide +kernel
theorem d15_11 : decode jdk_38_method_6_code 11 = .ok (.getfield 9, 3) := by decide +kernel
theorem d15_14 : decode jdk_38_method_6_code 14 = .ok (.getstatic 39, 3) := by decide +kernel
theorem d15_17 : decode jdk_38_method_6_code 17 = .ok (.if_acmp .eq 28, 3) := by decide +kernel
theorem d15_45 : decode jdk_38_method_6_code 45 = .ok (.aload_n 0, 1) := by decide +kernel
theorem d15_46 : decode jdk_38_method_6_code 46 = .ok (.bipush 10, 2) := by decide +kernel
theorem d15_48 : decode jdk_38_method_6_code 48 = .ok (.iload_n 1, 1) := by decide +kernel
theorem w_102 : (Jvm.Cond.methodLink "java/util/ArrayList" (79 : Nat) ({ cls := "java/lang/Math", name := "max", desc := "(II)I" } : Jvm.MethodName)) ∈ tables_1 := List.mem_of_getElem? (i := 102) (by decide +kernel)
theorem w_105 : (Jvm.Cond.code ({ cls := "java/lang/Math", name := "max", desc := "(II)I" } : Jvm.MethodName) jdk_29_method_65_code (2 : Nat) (Option.some Jvm.ClassFile.FieldType.int)) ∈ tables_1 := List.mem_of_getElem? (i := 105) (by decide +kernel)
theorem w_104 : (Jvm.Cond.initialized "java/lang/Math") ∈ tables_1 := List.mem_of_getElem? (i := 104) (by decide +kernel)
theorem pd__II_I : parseMethodDescriptor "(II)I" = some ⟨[.int, .int], some .int⟩ := by decide +kernel
theorem d15_49 : decode jdk_38_method_6_code 49 = .ok (.invokestatic 79, 3) := by decide +kernel
theorem w_103 : (Jvm.Cond.static ({ cls := "java/lang/Math", name := "max", desc := "(II)I" } : Jvm.MethodName)) ∈ tables_1 := List.mem_of_getElem? (i := 103) (by decide +kernel)
theorem w_106 : (Jvm.Cond.classLink "java/util/ArrayList" (7 : Nat) "java/lang/Object") ∈ tables_1 := List.mem_of_getElem? (i := 106) (by decide +kernel)
theorem w_107 : (Jvm.Cond.arrayOver (Jvm.ClassFile.FieldType.object "java/lang/Object")) ∈ tables_1 := List.mem_of_getElem? (i := 107) (by decide +kernel)
theorem d15_52 : decode jdk_38_method_6_code 52 = .ok (.anewarray 7, 3) := by decide +kernel
theorem d15_55 : decode jdk_38_method_6_code 55 = .ok (.dup_x1, 1) := by decide +kernel
theorem d15_56 : decode jdk_38_method_6_code 56 = .ok (.putfield 9, 3) := by decide +kernel
theorem d15_59 : decode jdk_38_method_6_code 59 = .ok (.areturn, 1) := by decide +kernel
abbrev mN12 : MethodName := ⟨"java/util/ArrayList", "grow", "(I)[Ljava/lang/Object;"⟩
theorem ef_growI (m : MethodId) (x0 : Addr) (x1 : Int32) : entryFrame m #[(.ref x0), (.int x1)] 4 = mkF m 0 #[.val (.ref x0), .val (.int x1), .unset, .unset] [] := by first | (simp [entryFrame, mkF, argsToLocals, Value.category]; done) | rfl
def QgrowI (Z : State) (a : Addr) (dd : Addr) (kd : ClassId) (mc : Int32) (h0 : Heap) (n0 : Nat) (v : Option Value) (h : Heap) (L : List Loc) : Prop := ∃ (b : Addr), ∃ (kb : ClassId), v = some (.ref b) ∧ Fr n0 L ∧ Keep h0 h [a] ∧ h0.size ≤ b ∧ Exa Z h a "java/util/ArrayList" ∧ Fld Z h a "java/util/ArrayList" "elementData" "[Ljava/lang/Object;" (.ref b) ∧ Fld Z h a "java/util/ArrayList" "size" "I" (.int (0 : Int32)) ∧ Fld Z h a "java/util/AbstractList" "modCount" "I" (.int mc) ∧ Arv Z h b kb (.object "java/lang/Object") (10 : Int32) [.null, .null, .null, .null, .null, .null, .null, .null, .null, .null] .null ∧ (Ovr Z kb "java/lang/Object") ∧ Exa Z h b "[Ljava/lang/Object;"
set_option maxRecDepth 65536 in
set_option maxHeartbeats 40000000 in
theorem rmgrowI (l : Launch) (Z : State) (a0 : Array Value) (hw : ∀ d ∈ tables_1, d.before a0 Z = true) (ws : List Jvm.Cond) (a : Addr) (dd : Addr) (kd : ClassId) (mc : Int32) (h0 : Heap) (n0 : Nat) (O0 : Old Z n0 h0) (hp0 : Exa Z h0 a "java/util/ArrayList") (hp1 : n0 ≤ a) (hp2 : Fld Z h0 a "java/util/ArrayList" "elementData" "[Ljava/lang/Object;" (.ref dd)) (hp3 : Fld Z h0 a "java/util/ArrayList" "size" "I" (.int (0 : Int32))) (hp4 : Fld Z h0 a "java/util/AbstractList" "modCount" "I" (.int mc)) (hp5 : Sta Z Z.heap "java/util/ArrayList" "DEFAULTCAPACITY_EMPTY_ELEMENTDATA" "[Ljava/lang/Object;" (.ref dd)) (hp6 : Arv Z Z.heap dd kd (.object "java/lang/Object") (0 : Int32) [] .null) :
    MetFree l mN12 (head1 (Jvm.Cond.code mN12 jdk_38_method_6_code 4 (some (.array (.object "java/lang/Object"))) :: ws) ({ frames := 1, cells := 1, slots := 10, locals := 14 } : Room)) (fun as_ U => as_ = #[(.ref a), (.int (1 : Int32))] ∧ Z.Warmed39 U.vm ∧ U.heap = h0) (fun _ _ _ _ _ => True) (fun _ U o U' => ∃ v L, o = .returned v ∧ QgrowI Z a dd kd mc h0 n0 v U'.heap L ∧ FrameEnd U o U' L ({ frames := 1, cells := 1, slots := 10, locals := 14 } : Room).cells ({ frames := 1, cells := 1, slots := 10, locals := 14 } : Room).slots) := by
  refine MetFree.of_bodySF (plainFor_of_name pn_java_util_ArrayList) hisR ?_
  intro p e s m args below meth c s₁ Bd hml0 hP hK
  obtain ⟨rfl, hZ, hh⟩ := hP
  have hx := Bd.exec
  have hby := Bd.bytes
  have hml : c.maxLocals = 4 := hml0
  have hown : s.vm.findClass "java/util/ArrayList" = some m.cls := findClass_of_methodNamed Bd.named
  have hnm := (name_of_methodNamed Bd.named Bd.method).1
  have X0 : Stand p l e ({ frames := 1, cells := 1, slots := 10, locals := 14 } : Room) s m #[(.ref a), (.int (1 : Int32))] below meth c s₁ [] 0 0 := Stand.of_body Bd
  have e0 : s₁.heap = h0 := by rw [← hh, Bd.state]; rfl
  have N0 := Fr.nil n0
  have Z0 := own_z0 O0
  have pre0 : ∀ tg_, Steps p.tables e below (s₁.setTop (mkF m 0 #[.val (.ref a), .val (.int (1 : Int32)), .unset, .unset] [])) tg_ → Steps p.tables e below (s₁.setTop (entryFrame m #[(.ref a), (.int (1 : Int32))] 4)) tg_ := fun tg_ kt_ => castTop (ef_growI m a (1 : Int32)) kt_
  obtain ⟨T1, X1, e1, st1⟩ := getF X0 hx hZ hown (host := "") (Or.inl (hw _ w_76)) Via.refl e0 hp2 (g := (mkF m 1 #[.val (.ref a), .val (.int (1 : Int32)), .unset, .unset] [(.ref a)])) rfl rfl (hb hby d15_1)
  obtain ⟨cl2, Ar2, -, S2, Ng2, -, -⟩ := id (hp6.ext O0.2)
  obtain ⟨T3, X3, e3, st3⟩ := getF X1 hx hZ hown (host := "") (Or.inl (hw _ w_76)) Via.refl e1 hp2 (g := (mkF m 11 #[.val (.ref a), .val (.int (1 : Int32)), .val (.int (0 : Int32)), .unset] [(.ref a)])) rfl rfl (hb hby d15_11)
  obtain ⟨T4, X4, e4, st4⟩ := getS2 X3 hx hZ hown (host := "") (Or.inl (hw _ w_75)) Via.refl e3 (hp5.ext O0.2) (g := (mkF m 14 #[.val (.ref a), .val (.int (1 : Int32)), .val (.int (0 : Int32)), .unset] [(.ref dd)])) rfl (hb hby d15_14)
  obtain ⟨_, _, ⟨T5, L5, k5, n5⟩, -, X5, ⟨Lc5, hQ5, l5, y5, z5⟩, st5⟩ := Jvm.LawKit.callS X4 hx (y := mN11) hown (mvT hZ (hw _ w_102)) (mvT hZ (hw _ w_103)) (mvT hZ (hw _ w_104)) (mvT hZ (hw _ w_105)) (by decide) (backOf (W := 1) (rmmaxG l Z a0 hw [] (10 : Int32) (1 : Int32) h0 n0 O0 (by decide)) hZ (hw _ w_105) (hw _ w_104) (by decide) (by decide)) (g := (mkF m 49 #[.val (.ref a), .val (.int (1 : Int32)), .val (.int (0 : Int32)), .unset] [(.int (1 : Int32)), (.int (10 : Int32)), (.ref a)])) rfl (by rw [hml]; rfl) (argsL := [(.int (10 : Int32)), (.int (1 : Int32))]) (rest := [(.ref a)]) (lenOf pd__II_I rfl) rfl (by show 2 * 0 + _ ≤ _; exact Nat.le_of_eq rfl) (hb hby d15_49) (fun _ _ => ⟨rfl, e4, (by decide : 0 + 0 ≤ _), (by decide : 0 + 0 ≤ _)⟩)
  dsimp only [Pt.U, Pt.locs, Pt.cells, Pt.slots] at X5 l5 y5 z5 st5 hQ5
  subst l5 y5 z5
  obtain ⟨rfl, N5q, eh5⟩ := hQ5
  have N5 := Fr.app N0 N5q
  obtain ⟨T6, h6, k6, X6, e6, E6, A6, Ex6, Ov6, st6⟩ := newRE X5 hx hZ hown (hw _ w_106) (hw _ w_107) eh5 (g := (mkF m 52 #[.val (.ref a), .val (.int (1 : Int32)), .val (.int (0 : Int32)), .unset] [(.int (10 : Int32)), (.ref a)])) rfl (hb hby d15_52) rfl (by decide) (cap := 10) (by decide) (by decide) (by decide) (by decide) (ad := "[Ljava/lang/Object;") (by decide)
  obtain ⟨b6, g6⟩ : ∃ z, z = h0.size := ⟨_, rfl⟩
  rw [← g6] at A6 Ex6 st6
  have sz6 : h0.size ≤ b6 := Nat.le_trans (Keep.refl h0 [a]).1 (Nat.le_of_eq g6.symm)
  have gn6 : n0 ≤ b6 := Nat.le_trans Z0 sz6
  have O6 : Old Z n0 h6 := O0.ext E6
  have K6 : Keep h0 h6 [a] := (Keep.refl h0 [a]).ext E6
  have V6 : Arv Z h6 b6 k6 (.object "java/lang/Object") (10 : Int32) [.null, .null, .null, .null, .null, .null, .null, .null, .null, .null] .null := (Arv.new A6 (by decide)).pad (pad_rep [] .null 10)
  obtain ⟨T8, h8, X8, e8, W8, st8⟩ := putF X6 hx hZ hown (host := "") (Or.inl (hw _ w_76)) Via.refl e6 (hp2.ext E6) (hp0.ext E6) (Or.inl (hw _ w_77)) (hw _ w_55) (ty := (.array (.object "java/lang/Object"))) (by decide) rfl rfl (g := (mkF m 56 #[.val (.ref a), .val (.int (1 : Int32)), .val (.int (0 : Int32)), .unset] [(.ref b6), (.ref a), (.ref b6)])) rfl rfl (hb hby d15_56)
  have Fw8 := (hp2.ext E6).same W8
  have N8 := Fr.snoc X8 N5 hp1
  have O8 : Old Z n0 h8 := O6.wr W8 hp1
  have K8 : Keep h0 h8 [a] := K6.wr W8 (Or.inl (List.mem_of_getElem? (i := 0) rfl))
  obtain ⟨fs, hr, hrun, hended, hW, hsame⟩ := X8.leave (v := some (.ref b6)) (fun h => by rw [Bd.returns] at h; cases h)
  refine ⟨_, _, pre0 _ ?_, hrun, hended, _, _, rfl, ?_, ⟨_, rfl⟩, hW, hsame.mono (by decide) (by decide)⟩
  · refine XS.aloadN X0.here hx rfl (hb hby d15_0) rfl rfl ?_
    show Steps p.tables e below (s₁.setTop (mkF m 1 #[.val (.ref a), .val (.int (1 : Int32)), .unset, .unset] [(.ref a)])) _
    refine st1 _ ?_
    show Steps p.tables e below (T1.setTop (mkF m 4 #[.val (.ref a), .val (.int (1 : Int32)), .unset, .unset] [(.ref dd)])) _
    refine X1.arraylength hx (by rw [e1]; exact Ar2.1) (State.isArrayOf_alike hZ.alike Ar2.2.1) (g := (mkF m 4 #[.val (.ref a), .val (.int (1 : Int32)), .unset, .unset] [(.ref dd)])) rfl rfl (hb hby d15_4) _ ?_
    rw [len_of S2 Ng2]
    refine XS.istoreN X1.here hx rfl (hb hby d15_5) rfl (l' := #[.val (.ref a), .val (.int (1 : Int32)), .val (.int (0 : Int32)), .unset]) rfl ?_
    refine XS.iloadN X1.here hx rfl (hb hby d15_6) rfl ?_
    refine XS.ifNo X1.here hx rfl (hb hby d15_7) rfl ((if0 _ _).trans (flt (by decide : ¬ ((0 : Int32) < (0 : Int32)))).2.2.1) ?_
    show Steps p.tables e below (T1.setTop (mkF m 10 #[.val (.ref a), .val (.int (1 : Int32)), .val (.int (0 : Int32)), .unset] [])) _
    refine XS.aloadN X1.here hx rfl (hb hby d15_10) rfl rfl ?_
    show Steps p.tables e below (T1.setTop (mkF m 11 #[.val (.ref a), .val (.int (1 : Int32)), .val (.int (0 : Int32)), .unset] [(.ref a)])) _
    refine st3 _ ?_
    show Steps p.tables e below (T3.setTop (mkF m 14 #[.val (.ref a), .val (.int (1 : Int32)), .val (.int (0 : Int32)), .unset] [(.ref dd)])) _
    refine st4 _ ?_
    show Steps p.tables e below (T4.setTop (mkF m 17 #[.val (.ref a), .val (.int (1 : Int32)), .val (.int (0 : Int32)), .unset] [(.ref dd), (.ref dd)])) _
    refine Jvm.RoadKit.acmp (g := (mkF m 17 #[.val (.ref a), .val (.int (1 : Int32)), .val (.int (0 : Int32)), .unset] [(.ref dd), (.ref dd)])) X4 hx rfl rfl rfl (pc0 := 17) (pc' := 45) (same := true) rfl (hb hby d15_17) rfl (decide_eq_true rfl) (by decide) (by decide) ?_
    refine XS.aloadN X4.here hx rfl (hb hby d15_45) rfl rfl ?_
    refine XS.bipush X4.here hx rfl (hb hby d15_46) ?_
    refine XS.iloadN X4.here hx rfl (hb hby d15_48) rfl ?_
    show Steps p.tables e below (T4.setTop (mkF m 49 #[.val (.ref a), .val (.int (1 : Int32)), .val (.int (0 : Int32)), .unset] [(.int (1 : Int32)), (.int (10 : Int32)), (.ref a)])) _
    refine st5 _ ?_
    show Steps p.tables e below (T5.setTop (mkF m 52 #[.val (.ref a), .val (.int (1 : Int32)), .val (.int (0 : Int32)), .unset] [(.int (10 : Int32)), (.ref a)])) _
    refine st6 _ ?_
    refine XS.dupX1 X6.here hx rfl (hb hby d15_55) rfl rfl rfl ?_
    show Steps p.tables e below (T6.setTop (mkF m 56 #[.val (.ref a), .val (.int (1 : Int32)), .val (.int (0 : Int32)), .unset] [(.ref b6), (.ref a), (.ref b6)])) _
    refine st8 _ ?_
    show Steps p.tables e below (T8.setTop (mkF m 59 #[.val (.ref a), .val (.int (1 : Int32)), .val (.int (0 : Int32)), .unset] [(.ref b6)])) _
    jvm_step X8.here [X8.here.top, hx, (hb hby d15_59), X8.method', Bd.returns, Value.isRef, FieldType.isReference]
    first | (intro acts; rw [hr _ acts rfl rfl rfl]) | rw [hr _ _ rfl rfl rfl]
    exact Steps.refl _
  · show QgrowI Z a dd kd mc h0 n0 _ T8.heap _
    rw [e8]
    exact ⟨b6, k6, rfl, N8, K8, sz6, ((hp0.ext E6).wr W8), Fw8, ((hp3.ext E6).other W8 (Or.inr (slot_ne (Or.inl (hw _ w_86)) (Or.inl (hw _ w_77)) (by decide) (t := .int) (t' := (.array (.object "java/lang/Object"))) (by decide) (by decide)))), ((hp4.ext E6).other W8 (Or.inr (slot_ne (Or.inl (hw _ w_74)) (Or.inl (hw _ w_77)) (by decide) (t := .int) (t' := (.array (.object "java/lang/Object"))) (by decide) (by decide)))), (V6.other W8 (Ne.symm (Nat.ne_of_lt (Nat.lt_of_lt_of_le hp0.lt (Nat.le_of_eq g6.symm))))), Ov6, (Ex6.wr W8)⟩
theorem d14_0 : decode jdk_38_method_7_code 0 = .ok (.aload_n 0, 1) := by decide +kernel
theorem d14_1 : decode jdk_38_method_7_code 1 = .ok (.aload_n 0, 1) := by decide +kernel
theorem w_85 : (Jvm.Cond.fieldLink "java/util/ArrayList" (48 : Nat) "java/util/ArrayList" "size" "I") ∈ tables_1 := List.mem_of_getElem? (i := 85) (by decide +kernel)
theorem d14_2 : decode jdk_38_method_7_code 2 = .ok (.getfield 48, 3) := by decide +kernel
theorem d14_5 : decode jdk_38_method_7_code 5 = .ok (.iconst 1, 1) := by decide +kernel
theorem d14_6 : decode jdk_38_method_7_code 6 = .ok (.iadd, 1) := by decide +kernel
theorem w_97 : (Jvm.Cond.methodLink "java/util/ArrayList" (69 : Nat) ({ cls := "java/util/ArrayList", name := "grow", desc := "(I)[Ljava/lang/Object;" } : Jvm.MethodName)) ∈ tables_1 := List.mem_of_getElem? (i := 97) (by decide +kernel)
theorem w_101 : (Jvm.Cond.code ({ cls := "java/util/ArrayList", name := "grow", desc := "(I)[Ljava/lang/Object;" } : Jvm.MethodName) jdk_38_method_6_code (4 : Nat) (Option.some (Jvm.ClassFile.FieldType.array (Jvm.ClassFile.FieldType.object "java/lang/Object")))) ∈ tables_1 := List.mem_of_getElem? (i := 101) (by decide +kernel)
theorem w_56 : (Jvm.Cond.initialized "java/util/ArrayList") ∈ tables_1 := List.mem_of_getElem? (i := 56) (by decide +kernel)
theorem pd__I_ALjava_lang_Object_ : parseMethodDescriptor "(I)[Ljava/lang/Object;" = some ⟨[.int], some (.array (.object "java/lang/Object"))⟩ := by decide +kernel
theorem d14_7 : decode jdk_38_method_7_code 7 = .ok (.invokevirtual 69, 3) := by decide +kernel
theorem w_100 : (Jvm.Cond.selects "java/util/ArrayList" ({ cls := "java/util/ArrayList", name := "grow", desc := "(I)[Ljava/lang/Object;" } : Jvm.MethodName) ({ cls := "java/util/ArrayList", name := "grow", desc := "(I)[Ljava/lang/Object;" } : Jvm.MethodName)) ∈ tables_1 := List.mem_of_getElem? (i := 100) (by decide +kernel)
theorem w_98 : (Jvm.Cond.instanceMethod ({ cls := "java/util/ArrayList", name := "grow", desc := "(I)[Ljava/lang/Object;" } : Jvm.MethodName)) ∈ tables_1 := List.mem_of_getElem? (i := 98) (by decide +kernel)
theorem w_99 : (Jvm.Cond.privateMethod ({ cls := "java/util/ArrayList", name := "grow", desc := "(I)[Ljava/lang/Object;" } : Jvm.MethodName)) ∈ tables_1 := List.mem_of_getElem? (i := 99) (by decide +kernel)
theorem d14_10 : decode jdk_38_method_7_code 10 = .ok (.areturn, 1) := by decide +kernel
abbrev mN13 : MethodName := ⟨"java/util/ArrayList", "grow", "()[Ljava/lang/Object;"⟩
theorem ef_grow0 (m : MethodId) (x0 : Addr) : entryFrame m #[(.ref x0)] 1 = mkF m 0 #[.val (.ref x0)] [] := by first | (simp [entryFrame, mkF, argsToLocals, Value.category]; done) | rfl
def Qgrow0 (Z : State) (a : Addr) (dd : Addr) (kd : ClassId) (mc : Int32) (h0 : Heap) (n0 : Nat) (v : Option Value) (h : Heap) (L : List Loc) : Prop := ∃ (b : Addr), ∃ (kb : ClassId), v = some (.ref b) ∧ Fr n0 L ∧ Keep h0 h [a] ∧ h0.size ≤ b ∧ Exa Z h a "java/util/ArrayList" ∧ Fld Z h a "java/util/ArrayList" "elementData" "[Ljava/lang/Object;" (.ref b) ∧ Fld Z h a "java/util/ArrayList" "size" "I" (.int (0 : Int32)) ∧ Fld Z h a "java/util/AbstractList" "modCount" "I" (.int mc) ∧ Arv Z h b kb (.object "java/lang/Object") (10 : Int32) [.null, .null, .null, .null, .null, .null, .null, .null, .null, .null] .null ∧ (Ovr Z kb "java/lang/Object") ∧ Exa Z h b "[Ljava/lang/Object;"
set_option maxRecDepth 65536 in
set_option maxHeartbeats 40000000 in
theorem rmgrow0 (l : Launch) (Z : State) (a0 : Array Value) (hw : ∀ d ∈ tables_1, d.before a0 Z = true) (ws : List Jvm.Cond) (a : Addr) (dd : Addr) (kd : ClassId) (mc : Int32) (h0 : Heap) (n0 : Nat) (O0 : Old Z n0 h0) (hp0 : Exa Z h0 a "java/util/ArrayList") (hp1 : n0 ≤ a) (hp2 : Fld Z h0 a "java/util/ArrayList" "elementData" "[Ljava/lang/Object;" (.ref dd)) (hp3 : Fld Z h0 a "java/util/ArrayList" "size" "I" (.int (0 : Int32))) (hp4 : Fld Z h0 a "java/util/AbstractList" "modCount" "I" (.int mc)) (hp5 : Sta Z Z.heap "java/util/ArrayList" "DEFAULTCAPACITY_EMPTY_ELEMENTDATA" "[Ljava/lang/Object;" (.ref dd)) (hp6 : Arv Z Z.heap dd kd (.object "java/lang/Object") (0 : Int32) [] .null) :
    MetFree l mN13 (head1 (Jvm.Cond.code mN13 jdk_38_method_7_code 1 (some (.array (.object "java/lang/Object"))) :: ws) ({ frames := 2, cells := 1, slots := 10, locals := 29 } : Room)) (fun as_ U => as_ = #[(.ref a)] ∧ Z.Warmed39 U.vm ∧ U.heap = h0) (fun _ _ _ _ _ => True) (fun _ U o U' => ∃ v L, o = .returned v ∧ Qgrow0 Z a dd kd mc h0 n0 v U'.heap L ∧ FrameEnd U o U' L ({ frames := 2, cells := 1, slots := 10, locals := 29 } : Room).cells ({ frames := 2, cells := 1, slots := 10, locals := 29 } : Room).slots) := by
  refine MetFree.of_bodySF (plainFor_of_name pn_java_util_ArrayList) hisR ?_
  intro p e s m args below meth c s₁ Bd hml0 hP hK
  obtain ⟨rfl, hZ, hh⟩ := hP
  have hx := Bd.exec
  have hby := Bd.bytes
  have hml : c.maxLocals = 1 := hml0
  have hown : s.vm.findClass "java/util/ArrayList" = some m.cls := findClass_of_methodNamed Bd.named
  have hnm := (name_of_methodNamed Bd.named Bd.method).1
  have X0 : Stand p l e ({ frames := 2, cells := 1, slots := 10, locals := 29 } : Room) s m #[(.ref a)] below meth c s₁ [] 0 0 := Stand.of_body Bd
  have e0 : s₁.heap = h0 := by rw [← hh, Bd.state]; rfl
  have N0 := Fr.nil n0
  have Z0 := own_z0 O0
  have pre0 : ∀ tg_, Steps p.tables e below (s₁.setTop (mkF m 0 #[.val (.ref a)] [])) tg_ → Steps p.tables e below (s₁.setTop (entryFrame m #[(.ref a)] 1)) tg_ := fun tg_ kt_ => castTop (ef_grow0 m a) kt_
  obtain ⟨T1, X1, e1, st1⟩ := getF X0 hx hZ hown (host := "") (Or.inl (hw _ w_85)) Via.refl e0 hp3 (g := (mkF m 2 #[.val (.ref a)] [(.ref a), (.ref a)])) rfl rfl (hb hby d14_2)
  obtain ⟨cq2, q2, q2'⟩ := hp0.cell
  obtain ⟨_, _, ⟨T2, L2, k2, n2⟩, -, X2, ⟨Lc2, hQ2, l2, y2, z2⟩, st2⟩ := X1.privateBack hx (y := mN12) hown (mvT hZ (hw _ w_97)) (mvT hZ (hw _ w_98)) (mvT hZ (hw _ w_100)) (Cond.privateMethod_at (mvP hZ (hw _ w_99) (args := #[]))) (mvT hZ (hw _ w_101)) (by decide) (backOf (W := 0) (rmgrowI l Z a0 hw [] a dd kd mc h0 n0 O0 hp0 hp1 hp2 hp3 hp4 hp5 hp6) hZ (hw _ w_101) (hw _ w_56) (by decide) (by decide)) (g := (mkF m 7 #[.val (.ref a)] [(.int (1 : Int32)), (.ref a)])) rfl (by rw [hml]; rfl) (Steps.refl _) (a := a) (by rw [e1]; exact q2) q2' (argsL := [(.int (1 : Int32))]) (rest := []) (lenOf pd__I_ALjava_lang_Object_ rfl) rfl (by show 2 * 0 + _ ≤ _; exact Nat.le_of_eq rfl) (hb hby d14_7) (fun _ _ => ⟨rfl, e1, (by decide : 0 + 1 ≤ _), (by decide : 0 + 10 ≤ _)⟩)
  dsimp only [Pt.U, Pt.locs, Pt.cells, Pt.slots] at X2 l2 y2 z2 st2 hQ2
  subst l2 y2 z2
  obtain ⟨b_2, kb_2, rfl, N2q, Kc2, r2_1, r2_2, r2_3, r2_4, r2_5, r2_6, r2_7, r2_8⟩ := hQ2
  have N2 := Fr.app N0 N2q
  have sz3 : h0.size ≤ b_2 := Nat.le_trans (Keep.refl h0 [a]).1 r2_1
  have gn3 : n0 ≤ b_2 := Nat.le_trans Z0 sz3
  have O2 : Old Z n0 T2.heap := O0.keep Kc2 (allS hp1 all0)
  have K2 : Keep h0 T2.heap [a] := (Keep.refl h0 [a]).trans Kc2 (allS (Or.inl (List.mem_of_getElem? (i := 0) rfl)) all0)
  obtain ⟨fs, hr, hrun, hended, hW, hsame⟩ := X2.leave (v := some (.ref b_2)) (fun h => by rw [Bd.returns] at h; cases h)
  refine ⟨_, _, pre0 _ ?_, hrun, hended, _, _, rfl, ?_, ⟨_, rfl⟩, hW, hsame.mono (by decide) (by decide)⟩
  · refine XS.aloadN X0.here hx rfl (hb hby d14_0) rfl rfl ?_
    refine XS.aloadN X0.here hx rfl (hb hby d14_1) rfl rfl ?_
    show Steps p.tables e below (s₁.setTop (mkF m 2 #[.val (.ref a)] [(.ref a), (.ref a)])) _
    refine st1 _ ?_
    refine XS.iconst X1.here hx rfl (hb hby d14_5) ?_
    refine XS.iadd X1.here hx rfl (hb hby d14_6) rfl ?_
    show Steps p.tables e below (T1.setTop (mkF m 7 #[.val (.ref a)] [(.int (1 : Int32)), (.ref a)])) _
    refine st2.trans ?_
    show Steps p.tables e below (T2.setTop (mkF m 10 #[.val (.ref a)] [(.ref b_2)])) _
    jvm_step X2.here [X2.here.top, hx, (hb hby d14_10), X2.method', Bd.returns, Value.isRef, FieldType.isReference]
    first | (intro acts; rw [hr _ acts rfl rfl rfl]) | rw [hr _ _ rfl rfl rfl]
    exact Steps.refl _
  · show Qgrow0 Z a dd kd mc h0 n0 _ T2.heap _
    exact ⟨b_2, kb_2, rfl, N2, K2, sz3, r2_2, r2_3, r2_4, r2_5, r2_6, r2_7, r2_8⟩
theorem d13_0 : decode jdk_38_method_24_code 0 = .ok (.iload_n 3, 1) := by decide +kernel
theorem d13_1 : decode jdk_38_method_24_code 1 = .ok (.aload_n 2, 1) := by decide +kernel
theorem d13_2 : decode jdk_38_method_24_code 2 = .ok (.arraylength, 1) := by decide +kernel
theorem d13_3 : decode jdk_38_method_24_code 3 = .ok (.if_icmp .ne 8, 3) := by decide +kernel
theorem d13_6 : decode jdk_38_method_24_code 6 = .ok (.aload_n 0, 1) := by decide +kernel
theorem w_92 : (Jvm.Cond.methodLink "java/util/ArrayList" (129 : Nat) ({ cls := "java/util/ArrayList", name := "grow", desc := "()[Ljava/lang/Object;" } : Jvm.MethodName)) ∈ tables_1 := List.mem_of_getElem? (i := 92) (by decide +kernel)
theorem w_96 : (Jvm.Cond.code ({ cls := "java/util/ArrayList", name := "grow", desc := "()[Ljava/lang/Object;" } : Jvm.MethodName) jdk_38_method_7_code (1 : Nat) (Option.some (Jvm.ClassFile.FieldType.array (Jvm.ClassFile.FieldType.object "java/lang/Object")))) ∈ tables_1 := List.mem_of_getElem? (i := 96) (by decide +kernel)
theorem pd___ALjava_lang_Object_ : parseMethodDescriptor "()[Ljava/lang/Object;" = some ⟨[], some (.array (.object "java/lang/Object"))⟩ := by decide +kernel
theorem d13_7 : decode jdk_38_method_24_code 7 = .ok (.invokevirtual 129, 3) := by decide +kernel
theorem w_95 : (Jvm.Cond.selects "java/util/ArrayList" ({ cls := "java/util/ArrayList", name := "grow", desc := "()[Ljava/lang/Object;" } : Jvm.MethodName) ({ cls := "java/util/ArrayList", name := "grow", desc := "()[Ljava/lang/Object;" } : Jvm.MethodName)) ∈ tables_1 := List.mem_of_getElem? (i := 95) (by decide +kernel)
theorem w_93 : (Jvm.Cond.instanceMethod ({ cls := "java/util/ArrayList", name := "grow", desc := "()[Ljava/lang/Object;" } : Jvm.MethodName)) ∈ tables_1 := List.mem_of_getElem? (i := 93) (by decide +kernel)
theorem w_94 : (Jvm.Cond.privateMethod ({ cls := "java/util/ArrayList", name := "grow", desc := "()[Ljava/lang/Object;" } : Jvm.MethodName)) ∈ tables_1 := List.mem_of_getElem? (i := 94) (by decide +kernel)
theorem d13_10 : decode jdk_38_method_24_code 10 = .ok (.astore_n 2, 1) := by decide +kernel
theorem d13_11 : decode jdk_38_method_24_code 11 = .ok (.aload_n 2, 1) := by decide +kernel
theorem d13_12 : decode jdk_38_method_24_code 12 = .ok (.iload_n 3, 1) := by decide +kernel
theorem d13_13 : decode jdk_38_method_24_code 13 = .ok (.aload_n 1, 1) := by decide +kernel
theorem d13_14 : decode jdk_38_method_24_code 14 = .ok (.aastore, 1) := by decide +kernel
theorem d13_15 : decode jdk_38_method_24_code 15 = .ok (.aload_n 0, 1) := by decide +kernel
theorem d13_16 : decode jdk_38_method_24_code 16 = .ok (.iload_n 3, 1) := by decide +kernel
theorem d13_17 : decode jdk_38_method_24_code 17 = .ok (.iconst 1, 1) := by decide +kernel
theorem d13_18 : decode jdk_38_method_24_code 18 = .ok (.iadd, 1) := by decide +kernel
theorem d13_19 : decode jdk_38_method_24_code 19 = .ok (.putfield 48, 3) := by decide +kernel
theorem d13_22 : decode jdk_38_method_24_code 22 = .ok (.return_, 1) := by decide +kernel
abbrev mN14 : MethodName := ⟨"java/util/ArrayList", "add", "(Ljava/lang/Object;[Ljava/lang/Object;I)V"⟩
theorem ef_help0 (m : MethodId) (x0 : Addr) (x1 : Addr) (x2 : Addr) (x3 : Int32) : entryFrame m #[(.ref x0), (.ref x1), (.ref x2), (.int x3)] 4 = mkF m 0 #[.val (.ref x0), .val (.ref x1), .val (.ref x2), .val (.int x3)] [] := by first | (simp [entryFrame, mkF, argsToLocals, Value.category]; done) | rfl
def Qhelp0 (Z : State) (a : Addr) (xo : Addr) (dd : Addr) (kd : ClassId) (mc : Int32) (h0 : Heap) (n0 : Nat) (v : Option Value) (h : Heap) (L : List Loc) : Prop := ∃ (b : Addr), ∃ (kb : ClassId), v = none ∧ Fr n0 L ∧ Keep h0 h [a] ∧ h0.size ≤ b ∧ Exa Z h a "java/util/ArrayList" ∧ Fld Z h a "java/util/ArrayList" "elementData" "[Ljava/lang/Object;" (.ref b) ∧ Fld Z h a "java/util/ArrayList" "size" "I" (.int (1 : Int32)) ∧ Fld Z h a "java/util/AbstractList" "modCount" "I" (.int mc) ∧ Arv Z h b kb (.object "java/lang/Object") (10 : Int32) [(.ref xo), .null, .null, .null, .null, .null, .null, .null, .null, .null] .null ∧ (Ovr Z kb "java/lang/Object") ∧ Exa Z h b "[Ljava/lang/Object;"
set_option maxRecDepth 65536 in
set_option maxHeartbeats 40000000 in
theorem rmhelp0 (l : Launch) (Z : State) (a0 : Array Value) (hw : ∀ d ∈ tables_1, d.before a0 Z = true) (ws : List Jvm.Cond) (a : Addr) (xo : Addr) (dd : Addr) (kd : ClassId) (mc : Int32) (h0 : Heap) (n0 : Nat) (O0 : Old Z n0 h0) (hp0 : Exa Z h0 a "java/util/ArrayList") (hp1 : n0 ≤ a) (hp2 : Fld Z h0 a "java/util/ArrayList" "elementData" "[Ljava/lang/Object;" (.ref dd)) (hp3 : Fld Z h0 a "java/util/ArrayList" "size" "I" (.int (0 : Int32))) (hp4 : Fld Z h0 a "java/util/AbstractList" "modCount" "I" (.int mc)) (hp5 : Sta Z Z.heap "java/util/ArrayList" "DEFAULTCAPACITY_EMPTY_ELEMENTDATA" "[Ljava/lang/Object;" (.ref dd)) (hp6 : Arv Z Z.heap dd kd (.object "java/lang/Object") (0 : Int32) [] .null) (hp7 : Ins Z h0 xo "java/lang/Object" true) :
    MetFree l mN14 (head1 (Jvm.Cond.code mN14 jdk_38_method_24_code 4 none :: ws) ({ frames := 3, cells := 1, slots := 10, locals := 41 } : Room)) (fun as_ U => as_ = #[(.ref a), (.ref xo), (.ref dd), (.int (0 : Int32))] ∧ Z.Warmed39 U.vm ∧ U.heap = h0) (fun _ _ _ _ _ => True) (fun _ U o U' => ∃ v L, o = .returned v ∧ Qhelp0 Z a xo dd kd mc h0 n0 v U'.heap L ∧ FrameEnd U o U' L ({ frames := 3, cells := 1, slots := 10, locals := 41 } : Room).cells ({ frames := 3, cells := 1, slots := 10, locals := 41 } : Room).slots) := by
  refine MetFree.of_bodySF (plainFor_of_name pn_java_util_ArrayList) hisR ?_
  intro p e s m args below meth c s₁ Bd hml0 hP hK
  obtain ⟨rfl, hZ, hh⟩ := hP
  have hx := Bd.exec
  have hby := Bd.bytes
  have hml : c.maxLocals = 4 := hml0
  have hown : s.vm.findClass "java/util/ArrayList" = some m.cls := findClass_of_methodNamed Bd.named
  have hnm := (name_of_methodNamed Bd.named Bd.method).1
  have X0 : Stand p l e ({ frames := 3, cells := 1, slots := 10, locals := 41 } : Room) s m #[(.ref a), (.ref xo), (.ref dd), (.int (0 : Int32))] below meth c s₁ [] 0 0 := Stand.of_body Bd
  have e0 : s₁.heap = h0 := by rw [← hh, Bd.state]; rfl
  have N0 := Fr.nil n0
  have Z0 := own_z0 O0
  have pre0 : ∀ tg_, Steps p.tables e below (s₁.setTop (mkF m 0 #[.val (.ref a), .val (.ref xo), .val (.ref dd), .val (.int (0 : Int32))] [])) tg_ → Steps p.tables e below (s₁.setTop (entryFrame m #[(.ref a), (.ref xo), (.ref dd), (.int (0 : Int32))] 4)) tg_ := fun tg_ kt_ => castTop (ef_help0 m a xo dd (0 : Int32)) kt_
  obtain ⟨cl1, Ar1, -, S1, Ng1, -, -⟩ := id (hp6.ext O0.2)
  obtain ⟨cq2, q2, q2'⟩ := hp0.cell
  obtain ⟨_, _, ⟨T2, L2, k2, n2⟩, -, X2, ⟨Lc2, hQ2, l2, y2, z2⟩, st2⟩ := X0.privateBack hx (y := mN13) hown (mvT hZ (hw _ w_92)) (mvT hZ (hw _ w_93)) (mvT hZ (hw _ w_95)) (Cond.privateMethod_at (mvP hZ (hw _ w_94) (args := #[]))) (mvT hZ (hw _ w_96)) (by decide) (backOf (W := 0) (rmgrow0 l Z a0 hw [] a dd kd mc h0 n0 O0 hp0 hp1 hp2 hp3 hp4 hp5 hp6) hZ (hw _ w_96) (hw _ w_56) (by decide) (by decide)) (g := (mkF m 7 #[.val (.ref a), .val (.ref xo), .val (.ref dd), .val (.int (0 : Int32))] [(.ref a)])) rfl (by rw [hml]; rfl) (Steps.refl _) (a := a) (by rw [e0]; exact q2) q2' (argsL := []) (rest := []) (lenOf pd___ALjava_lang_Object_ rfl) rfl (by show 2 * 0 + _ ≤ _; exact Nat.le_of_eq rfl) (hb hby d13_7) (fun _ _ => ⟨rfl, e0, (by decide : 0 + 1 ≤ _), (by decide : 0 + 10 ≤ _)⟩)
  dsimp only [Pt.U, Pt.locs, Pt.cells, Pt.slots] at X2 l2 y2 z2 st2 hQ2
  subst l2 y2 z2
  obtain ⟨b_2, kb_2, rfl, N2q, Kc2, r2_1, r2_2, r2_3, r2_4, r2_5, r2_6, r2_7, r2_8⟩ := hQ2
  have N2 := Fr.app N0 N2q
  have sz3 : h0.size ≤ b_2 := Nat.le_trans (Keep.refl h0 [a]).1 r2_1
  have gn3 : n0 ≤ b_2 := Nat.le_trans Z0 sz3
  have O2 : Old Z n0 T2.heap := O0.keep Kc2 (allS hp1 all0)
  have K2 : Keep h0 T2.heap [a] := (Keep.refl h0 [a]).trans Kc2 (allS (Or.inl (List.mem_of_getElem? (i := 0) rfl)) all0)
  obtain ⟨cl5, Ar5, q5, S5, Ng5, H5, G5⟩ := id r2_6
  have hin5 : ¬ ((0 : Int32) < 0 ∨ cl5.slots.size ≤ ((0 : Int32)).toNatClampNeg) := inb_of S5 ⟨by decide, by decide⟩
  obtain ⟨T5, h5, X5, e5, W5, st5⟩ := stR X2 hx hZ rfl Ar5 (j := (0 : Int32)) hin5 rfl (Sto.of Ar5 (by rw [q5]; exact r2_7) (own_insKeep hp7 Kc2)) (g := (mkF m 14 #[.val (.ref a), .val (.ref xo), .val (.ref b_2), .val (.int (0 : Int32))] [(.ref xo), (.int (0 : Int32)), (.ref b_2)])) rfl rfl (hb hby d13_14)
  have V5 : Arv Z h5 b_2 kb_2 (.object "java/lang/Object") (10 : Int32) [(.ref xo), .null, .null, .null, .null, .null, .null, .null, .null, .null] .null := Arv.set Ar5 q5 S5 Ng5 H5 G5 rfl W5 0 rfl (Nat.le_of_ble_eq_true rfl)
  have N5 := Fr.snoc X5 N2 gn3
  have O5 : Old Z n0 h5 := O2.wr W5 gn3
  have K5 : Keep h0 h5 [a] := K2.wr W5 (Or.inr sz3)
  obtain ⟨T6, h6, X6, e6, W6, st6⟩ := putF X5 hx hZ hown (host := "") (Or.inl (hw _ w_85)) Via.refl e5 (r2_4.other W5 (Or.inl (Nat.ne_of_lt (Nat.lt_of_lt_of_le hp0.lt r2_1)))) (r2_2.wr W5) (Or.inl (hw _ w_86)) (hw _ w_55) (ty := .int) (by decide) rfl rfl (g := (mkF m 19 #[.val (.ref a), .val (.ref xo), .val (.ref b_2), .val (.int (0 : Int32))] [(.int (1 : Int32)), (.ref a)])) rfl rfl (hb hby d13_19)
  have Fw6 := (r2_4.other W5 (Or.inl (Nat.ne_of_lt (Nat.lt_of_lt_of_le hp0.lt r2_1)))).same W6
  have N6 := Fr.snoc X6 N5 hp1
  have O6 : Old Z n0 h6 := O5.wr W6 hp1
  have K6 : Keep h0 h6 [a] := K5.wr W6 (Or.inl (List.mem_of_getElem? (i := 0) rfl))
  obtain ⟨fs, hr, hrun, hended, hW, hsame⟩ := X6.leave (v := none) (fun _ => rfl)
  refine ⟨_, _, pre0 _ ?_, hrun, hended, _, _, rfl, ?_, ⟨_, rfl⟩, hW, hsame.mono (by decide) (by decide)⟩
  · refine XS.iloadN X0.here hx rfl (hb hby d13_0) rfl ?_
    refine XS.aloadN X0.here hx rfl (hb hby d13_1) rfl rfl ?_
    show Steps p.tables e below (s₁.setTop (mkF m 2 #[.val (.ref a), .val (.ref xo), .val (.ref dd), .val (.int (0 : Int32))] [(.ref dd), (.int (0 : Int32))])) _
    refine X0.arraylength hx (by rw [e0]; exact Ar1.1) (State.isArrayOf_alike hZ.alike Ar1.2.1) (g := (mkF m 2 #[.val (.ref a), .val (.ref xo), .val (.ref dd), .val (.int (0 : Int32))] [(.ref dd), (.int (0 : Int32))])) rfl rfl (hb hby d13_2) _ ?_
    rw [len_of S1 Ng1]
    refine XS.icmpNo X0.here hx rfl (hb hby d13_3) rfl (teq (by decide : (0 : Int32) = (0 : Int32))).2 ?_
    refine XS.aloadN X0.here hx rfl (hb hby d13_6) rfl rfl ?_
    show Steps p.tables e below (s₁.setTop (mkF m 7 #[.val (.ref a), .val (.ref xo), .val (.ref dd), .val (.int (0 : Int32))] [(.ref a)])) _
    refine st2.trans ?_
    refine XS.astoreN X2.here hx rfl (hb hby d13_10) rfl rfl (l' := #[.val (.ref a), .val (.ref xo), .val (.ref b_2), .val (.int (0 : Int32))]) rfl ?_
    refine XS.aloadN X2.here hx rfl (hb hby d13_11) rfl rfl ?_
    refine XS.iloadN X2.here hx rfl (hb hby d13_12) rfl ?_
    show Steps p.tables e below (T2.setTop (mkF m 13 #[.val (.ref a), .val (.ref xo), .val (.ref b_2), .val (.int (0 : Int32))] [(.int (0 : Int32)), (.ref b_2)])) _
    refine XS.aloadN X2.here hx rfl (hb hby d13_13) rfl rfl ?_
    show Steps p.tables e below (T2.setTop (mkF m 14 #[.val (.ref a), .val (.ref xo), .val (.ref b_2), .val (.int (0 : Int32))] [(.ref xo), (.int (0 : Int32)), (.ref b_2)])) _
    refine st5 _ ?_
    refine XS.aloadN X5.here hx rfl (hb hby d13_15) rfl rfl ?_
    refine XS.iloadN X5.here hx rfl (hb hby d13_16) rfl ?_
    refine XS.iconst X5.here hx rfl (hb hby d13_17) ?_
    show Steps p.tables e below (T5.setTop (mkF m 18 #[.val (.ref a), .val (.ref xo), .val (.ref b_2), .val (.int (0 : Int32))] [(.int (1 : Int32)), (.int (0 : Int32)), (.ref a)])) _
    refine XS.iadd X5.here hx rfl (hb hby d13_18) rfl ?_
    show Steps p.tables e below (T5.setTop (mkF m 19 #[.val (.ref a), .val (.ref xo), .val (.ref b_2), .val (.int (0 : Int32))] [(.int (1 : Int32)), (.ref a)])) _
    refine st6 _ ?_
    show Steps p.tables e below (T6.setTop (mkF m 22 #[.val (.ref a), .val (.ref xo), .val (.ref b_2), .val (.int (0 : Int32))] [])) _
    exact X6.returnOut hx Bd.returns (hb hby d13_22) hr
  · show Qhelp0 Z a xo dd kd mc h0 n0 _ T6.heap _
    rw [e6]
    exact ⟨b_2, kb_2, rfl, N6, K6, sz3, ((r2_2.wr W5).wr W6), ((r2_3.other W5 (Or.inl (Nat.ne_of_lt (Nat.lt_of_lt_of_le hp0.lt r2_1)))).other W6 (Or.inr (slot_ne (Or.inl (hw _ w_77)) (Or.inl (hw _ w_86)) (by decide) (t := (.array (.object "java/lang/Object"))) (t' := .int) (by decide) (by decide)))), Fw6, ((r2_5.other W5 (Or.inl (Nat.ne_of_lt (Nat.lt_of_lt_of_le hp0.lt r2_1)))).other W6 (Or.inr (slot_ne (Or.inl (hw _ w_74)) (Or.inl (hw _ w_86)) (by decide) (t := .int) (t' := .int) (by decide) (by decide)))), (V5.other W6 (Ne.symm (Nat.ne_of_lt (Nat.lt_of_lt_of_le hp0.lt r2_1)))), r2_7, ((r2_8.wr W5).wr W6)⟩
theorem d12_0 : decode jdk_38_method_25_code 0 = .ok (.aload_n 0, 1) := by decide +kernel
theorem d12_1 : decode jdk_38_method_25_code 1 = .ok (.dup, 1) := by decide +kernel
theorem w_83 : (Jvm.Cond.fieldLink "java/util/ArrayList" (63 : Nat) "java/util/ArrayList" "modCount" "I") ∈ tables_1 := List.mem_of_getElem? (i := 83) (by decide +kernel)
theorem w_84 : (Jvm.Cond.sameField "java/util/ArrayList" "java/util/AbstractList" "modCount" "I") ∈ tables_1 := List.mem_of_getElem? (i := 84) (by decide +kernel)
theorem d12_2 : decode jdk_38_method_25_code 2 = .ok (.getfield 63, 3) := by decide +kernel
theorem d12_5 : decode jdk_38_method_25_code 5 = .ok (.iconst 1, 1) := by decide +kernel
theorem d12_6 : decode jdk_38_method_25_code 6 = .ok (.iadd, 1) := by decide +kernel
theorem d12_7 : decode jdk_38_method_25_code 7 = .ok (.putfield 63, 3) := by decide +kernel
theorem d12_10 : decode jdk_38_method_25_code 10 = .ok (.aload_n 0, 1) := by decide +kernel
theorem d12_11 : decode jdk_38_method_25_code 11 = .ok (.aload_n 1, 1) := by decide +kernel
theorem d12_12 : decode jdk_38_method_25_code 12 = .ok (.aload_n 0, 1) := by decide +kernel
theorem d12_13 : decode jdk_38_method_25_code 13 = .ok (.getfield 9, 3) := by decide +kernel
theorem d12_16 : decode jdk_38_method_25_code 16 = .ok (.aload_n 0, 1) := by decide +kernel
theorem d12_17 : decode jdk_38_method_25_code 17 = .ok (.getfield 48, 3) := by decide +kernel
theorem w_87 : (Jvm.Cond.methodLink "java/util/ArrayList" (131 : Nat) ({ cls := "java/util/ArrayList", name := "add", desc := "(Ljava/lang/Object;[Ljava/lang/Object;I)V" } : Jvm.MethodName)) ∈ tables_1 := List.mem_of_getElem? (i := 87) (by decide +kernel)
theorem w_91 : (Jvm.Cond.code ({ cls := "java/util/ArrayList", name := "add", desc := "(Ljava/lang/Object;[Ljava/lang/Object;I)V" } : Jvm.MethodName) jdk_38_method_24_code (4 : Nat) (Option.none : Option Jvm.ClassFile.FieldType)) ∈ tables_1 := List.mem_of_getElem? (i := 91) (by decide +kernel)
theorem pd__Ljava_lang_Object_ALjava_lang_Object_I_V : parseMethodDescriptor "(Ljava/lang/Object;[Ljava/lang/Object;I)V" = some ⟨[(.object "java/lang/Object"), (.array (.object "java/lang/Object")), .int], none⟩ := by decide +kernel
theorem d12_20 : decode jdk_38_method_25_code 20 = .ok (.invokevirtual 131, 3) := by decide +kernel
theorem w_90 : (Jvm.Cond.selects "java/util/ArrayList" ({ cls := "java/util/ArrayList", name := "add", desc := "(Ljava/lang/Object;[Ljava/lang/Object;I)V" } : Jvm.MethodName) ({ cls := "java/util/ArrayList", name := "add", desc := "(Ljava/lang/Object;[Ljava/lang/Object;I)V" } : Jvm.MethodName)) ∈ tables_1 := List.mem_of_getElem? (i := 90) (by decide +kernel)
theorem w_88 : (Jvm.Cond.instanceMethod ({ cls := "java/util/ArrayList", name := "add", desc := "(Ljava/lang/Object;[Ljava/lang/Object;I)V" } : Jvm.MethodName)) ∈ tables_1 := List.mem_of_getElem? (i := 88) (by decide +kernel)
theorem w_89 : (Jvm.Cond.privateMethod ({ cls := "java/util/ArrayList", name := "add", desc := "(Ljava/lang/Object;[Ljava/lang/Object;I)V" } : Jvm.MethodName)) ∈ tables_1 := List.mem_of_getElem? (i := 89) (by decide +kernel)
theorem d12_23 : decode jdk_38_method_25_code 23 = .ok (.iconst 1, 1) := by decide +kernel
theorem d12_24 : decode jdk_38_method_25_code 24 = .ok (.ireturn, 1) := by decide +kernel
abbrev mN15 : MethodName := ⟨"java/util/ArrayList", "add", "(Ljava/lang/Object;)Z"⟩
theorem ef_add0 (m : MethodId) (x0 : Addr) (x1 : Addr) : entryFrame m #[(.ref x0), (.ref x1)] 2 = mkF m 0 #[.val (.ref x0), .val (.ref x1)] [] := by first | (simp [entryFrame, mkF, argsToLocals, Value.category]; done) | rfl
def Qadd0 (Z : State) (a : Addr) (xo : Addr) (dd : Addr) (kd : ClassId) (mc : Int32) (h0 : Heap) (n0 : Nat) (v : Option Value) (h : Heap) (L : List Loc) : Prop := ∃ (b : Addr), ∃ (kb : ClassId), v = some (.int (1 : Int32)) ∧ Fr n0 L ∧ Keep h0 h [a] ∧ h0.size ≤ b ∧ Exa Z h a "java/util/ArrayList" ∧ Fld Z h a "java/util/ArrayList" "elementData" "[Ljava/lang/Object;" (.ref b) ∧ Fld Z h a "java/util/ArrayList" "size" "I" (.int (1 : Int32)) ∧ Fld Z h a "java/util/AbstractList" "modCount" "I" (.int (mc + (1 : Int32))) ∧ Arv Z h b kb (.object "java/lang/Object") (10 : Int32) [(.ref xo), .null, .null, .null, .null, .null, .null, .null, .null, .null] .null ∧ (Ovr Z kb "java/lang/Object") ∧ Exa Z h b "[Ljava/lang/Object;"
set_option maxRecDepth 65536 in
set_option maxHeartbeats 40000000 in
theorem rmadd0 (l : Launch) (Z : State) (a0 : Array Value) (hw : ∀ d ∈ tables_1, d.before a0 Z = true) (ws : List Jvm.Cond) (a : Addr) (xo : Addr) (dd : Addr) (kd : ClassId) (mc : Int32) (h0 : Heap) (n0 : Nat) (O0 : Old Z n0 h0) (hp0 : Exa Z h0 a "java/util/ArrayList") (hp1 : n0 ≤ a) (hp2 : Fld Z h0 a "java/util/ArrayList" "elementData" "[Ljava/lang/Object;" (.ref dd)) (hp3 : Fld Z h0 a "java/util/ArrayList" "size" "I" (.int (0 : Int32))) (hp4 : Fld Z h0 a "java/util/AbstractList" "modCount" "I" (.int mc)) (hp5 : Sta Z Z.heap "java/util/ArrayList" "DEFAULTCAPACITY_EMPTY_ELEMENTDATA" "[Ljava/lang/Object;" (.ref dd)) (hp6 : Arv Z Z.heap dd kd (.object "java/lang/Object") (0 : Int32) [] .null) (hp7 : Ins Z h0 xo "java/lang/Object" true) :
    MetFree l mN15 (head1 (Jvm.Cond.code mN15 jdk_38_method_25_code 2 (some .boolean) :: ws) ({ frames := 4, cells := 1, slots := 10, locals := 56 } : Room)) (fun as_ U => as_ = #[(.ref a), (.ref xo)] ∧ Z.Warmed39 U.vm ∧ U.heap = h0) (fun _ _ _ _ _ => True) (fun _ U o U' => ∃ v L, o = .returned v ∧ Qadd0 Z a xo dd kd mc h0 n0 v U'.heap L ∧ FrameEnd U o U' L ({ frames := 4, cells := 1, slots := 10, locals := 56 } : Room).cells ({ frames := 4, cells := 1, slots := 10, locals := 56 } : Room).slots) := by
  refine MetFree.of_bodySF (plainFor_of_name pn_java_util_ArrayList) hisR ?_
  intro p e s m args below meth c s₁ Bd hml0 hP hK
  obtain ⟨rfl, hZ, hh⟩ := hP
  have hx := Bd.exec
  have hby := Bd.bytes
  have hml : c.maxLocals = 2 := hml0
  have hown : s.vm.findClass "java/util/ArrayList" = some m.cls := findClass_of_methodNamed Bd.named
  have hnm := (name_of_methodNamed Bd.named Bd.method).1
  have X0 : Stand p l e ({ frames := 4, cells := 1, slots := 10, locals := 56 } : Room) s m #[(.ref a), (.ref xo)] below meth c s₁ [] 0 0 := Stand.of_body Bd
  have e0 : s₁.heap = h0 := by rw [← hh, Bd.state]; rfl
  have N0 := Fr.nil n0
  have Z0 := own_z0 O0
  have pre0 : ∀ tg_, Steps p.tables e below (s₁.setTop (mkF m 0 #[.val (.ref a), .val (.ref xo)] [])) tg_ → Steps p.tables e below (s₁.setTop (entryFrame m #[(.ref a), (.ref xo)] 2)) tg_ := fun tg_ kt_ => castTop (ef_add0 m a xo) kt_
  obtain ⟨T1, X1, e1, st1⟩ := getF X0 hx hZ hown (host := "") (Or.inl (hw _ w_83)) (Via.of (hw _ w_84)) e0 hp4 (g := (mkF m 2 #[.val (.ref a), .val (.ref xo)] [(.ref a), (.ref a)])) rfl rfl (hb hby d12_2)
  obtain ⟨T2, h2, X2, e2, W2, st2⟩ := putF X1 hx hZ hown (host := "") (Or.inl (hw _ w_83)) (Via.of (hw _ w_84)) e1 hp4 hp0 (Or.inl (hw _ w_74)) (hw _ w_55) (ty := .int) (by decide) rfl rfl (g := (mkF m 7 #[.val (.ref a), .val (.ref xo)] [(.int (mc + (1 : Int32))), (.ref a)])) rfl rfl (hb hby d12_7)
  have Fw2 := hp4.same W2
  have N2 := Fr.snoc X2 N0 hp1
  have O2 : Old Z n0 h2 := O0.wr W2 hp1
  have K2 : Keep h0 h2 [a] := (Keep.refl h0 [a]).wr W2 (Or.inl (List.mem_of_getElem? (i := 0) rfl))
  obtain ⟨T3, X3, e3, st3⟩ := getF X2 hx hZ hown (host := "") (Or.inl (hw _ w_76)) Via.refl e2 (hp2.other W2 (Or.inr (slot_ne (Or.inl (hw _ w_77)) (Or.inl (hw _ w_74)) (by decide) (t := (.array (.object "java/lang/Object"))) (t' := .int) (by decide) (by decide)))) (g := (mkF m 13 #[.val (.ref a), .val (.ref xo)] [(.ref a), (.ref xo), (.ref a)])) rfl rfl (hb hby d12_13)
  obtain ⟨T4, X4, e4, st4⟩ := getF X3 hx hZ hown (host := "") (Or.inl (hw _ w_85)) Via.refl e3 (hp3.other W2 (Or.inr (slot_ne (Or.inl (hw _ w_86)) (Or.inl (hw _ w_74)) (by decide) (t := .int) (t' := .int) (by decide) (by decide)))) (g := (mkF m 17 #[.val (.ref a), .val (.ref xo)] [(.ref a), (.ref dd), (.ref xo), (.ref a)])) rfl rfl (hb hby d12_17)
  obtain ⟨cq5, q5, q5'⟩ := (hp0.wr W2).cell
  obtain ⟨_, _, ⟨T5, L5, k5, n5⟩, -, X5, ⟨Lc5, hQ5, l5, y5, z5⟩, st5⟩ := X4.privateBack hx (y := mN14) hown (mvT hZ (hw _ w_87)) (mvT hZ (hw _ w_88)) (mvT hZ (hw _ w_90)) (Cond.privateMethod_at (mvP hZ (hw _ w_89) (args := #[]))) (mvT hZ (hw _ w_91)) (by decide) (backOf (W := 0) (rmhelp0 l Z a0 hw [] a xo dd kd (mc + (1 : Int32)) h2 n0 O2 (hp0.wr W2) hp1 (hp2.other W2 (Or.inr (slot_ne (Or.inl (hw _ w_77)) (Or.inl (hw _ w_74)) (by decide) (t := (.array (.object "java/lang/Object"))) (t' := .int) (by decide) (by decide)))) (hp3.other W2 (Or.inr (slot_ne (Or.inl (hw _ w_86)) (Or.inl (hw _ w_74)) (by decide) (t := .int) (t' := .int) (by decide) (by decide)))) Fw2 hp5 hp6 (hp7.wr W2)) hZ (hw _ w_91) (hw _ w_56) (by decide) (by decide)) (g := (mkF m 20 #[.val (.ref a), .val (.ref xo)] [(.int (0 : Int32)), (.ref dd), (.ref xo), (.ref a)])) rfl (by rw [hml]; rfl) (Steps.refl _) (a := a) (by rw [e4]; exact q5) q5' (argsL := [(.ref xo), (.ref dd), (.int (0 : Int32))]) (rest := []) (lenOf pd__Ljava_lang_Object_ALjava_lang_Object_I_V rfl) rfl (by show 2 * 0 + _ ≤ _; exact Nat.le_of_eq rfl) (hb hby d12_20) (fun _ _ => ⟨rfl, e4, (by decide : 0 + 1 ≤ _), (by decide : 0 + 10 ≤ _)⟩)
  dsimp only [Pt.U, Pt.locs, Pt.cells, Pt.slots] at X5 l5 y5 z5 st5 hQ5
  subst l5 y5 z5
  obtain ⟨b_5, kb_5, rfl, N5q, Kc5, r5_1, r5_2, r5_3, r5_4, r5_5, r5_6, r5_7, r5_8⟩ := hQ5
  have N5 := Fr.app N2 N5q
  have sz6 : h0.size ≤ b_5 := Nat.le_trans K2.1 r5_1
  have gn6 : n0 ≤ b_5 := Nat.le_trans Z0 sz6
  have O5 : Old Z n0 T5.heap := O2.keep Kc5 (allS hp1 all0)
  have K5 : Keep h0 T5.heap [a] := K2.trans Kc5 (allS (Or.inl (List.mem_of_getElem? (i := 0) rfl)) all0)
  obtain ⟨fs, hr, hrun, hended, hW, hsame⟩ := X5.leave (v := some (.int (1 : Int32))) (fun h => by rw [Bd.returns] at h; cases h)
  refine ⟨_, _, pre0 _ ?_, hrun, hended, _, _, rfl, ?_, ⟨_, rfl⟩, hW, hsame.mono (by decide) (by decide)⟩
  · refine XS.aloadN X0.here hx rfl (hb hby d12_0) rfl rfl ?_
    refine XS.dup X0.here hx rfl (hb hby d12_1) rfl rfl ?_
    show Steps p.tables e below (s₁.setTop (mkF m 2 #[.val (.ref a), .val (.ref xo)] [(.ref a), (.ref a)])) _
    refine st1 _ ?_
    refine XS.iconst X1.here hx rfl (hb hby d12_5) ?_
    refine XS.iadd X1.here hx rfl (hb hby d12_6) rfl ?_
    show Steps p.tables e below (T1.setTop (mkF m 7 #[.val (.ref a), .val (.ref xo)] [(.int (mc + (1 : Int32))), (.ref a)])) _
    refine st2 _ ?_
    refine XS.aloadN X2.here hx rfl (hb hby d12_10) rfl rfl ?_
    refine XS.aloadN X2.here hx rfl (hb hby d12_11) rfl rfl ?_
    refine XS.aloadN X2.here hx rfl (hb hby d12_12) rfl rfl ?_
    show Steps p.tables e below (T2.setTop (mkF m 13 #[.val (.ref a), .val (.ref xo)] [(.ref a), (.ref xo), (.ref a)])) _
    refine st3 _ ?_
    refine XS.aloadN X3.here hx rfl (hb hby d12_16) rfl rfl ?_
    show Steps p.tables e below (T3.setTop (mkF m 17 #[.val (.ref a), .val (.ref xo)] [(.ref a), (.ref dd), (.ref xo), (.ref a)])) _
    refine st4 _ ?_
    show Steps p.tables e below (T4.setTop (mkF m 20 #[.val (.ref a), .val (.ref xo)] [(.int (0 : Int32)), (.ref dd), (.ref xo), (.ref a)])) _
    refine st5.trans ?_
    refine XS.iconst X5.here hx rfl (hb hby d12_23) ?_
    show Steps p.tables e below (T5.setTop (mkF m 24 #[.val (.ref a), .val (.ref xo)] [(.int (1 : Int32))])) _
    exact retN X5 hx (t := .boolean) Bd.returns (by simp) (hb hby d12_24) hr
  · show Qadd0 Z a xo dd kd mc h0 n0 _ T5.heap _
    exact ⟨b_5, kb_5, rfl, N5, K5, sz6, r5_2, r5_3, r5_4, r5_5, r5_6, r5_7, r5_8⟩
theorem ef_help1 (m : MethodId) (x0 : Addr) (x1 : Addr) (x2 : Addr) (x3 : Int32) : entryFrame m #[(.ref x0), (.ref x1), (.ref x2), (.int x3)] 4 = mkF m 0 #[.val (.ref x0), .val (.ref x1), .val (.ref x2), .val (.int x3)] [] := by first | (simp [entryFrame, mkF, argsToLocals, Value.category]; done) | rfl
def Qhelp1 (Z : State) (a : Addr) (xo : Addr) (y0 : Addr) (mc : Int32) (b : Addr) (kb : ClassId) (h0 : Heap) (n0 : Nat) (v : Option Value) (h : Heap) (L : List Loc) : Prop := v = none ∧ Fr n0 L ∧ Keep h0 h [a, b] ∧ Exa Z h a "java/util/ArrayList" ∧ Fld Z h a "java/util/ArrayList" "elementData" "[Ljava/lang/Object;" (.ref b) ∧ Fld Z h a "java/util/ArrayList" "size" "I" (.int (2 : Int32)) ∧ Fld Z h a "java/util/AbstractList" "modCount" "I" (.int mc) ∧ Arv Z h b kb (.object "java/lang/Object") (10 : Int32) [(.ref y0), (.ref xo), .null, .null, .null, .null, .null, .null, .null, .null] .null ∧ Exa Z h b "[Ljava/lang/Object;"
set_option maxRecDepth 65536 in
set_option maxHeartbeats 40000000 in
theorem rmhelp1 (l : Launch) (Z : State) (a0 : Array Value) (hw : ∀ d ∈ tables_1, d.before a0 Z = true) (ws : List Jvm.Cond) (a : Addr) (xo : Addr) (y0 : Addr) (mc : Int32) (b : Addr) (kb : ClassId) (h0 : Heap) (n0 : Nat) (O0 : Old Z n0 h0) (hp0 : Exa Z h0 a "java/util/ArrayList") (hp1 : n0 ≤ a) (hp2 : Fld Z h0 a "java/util/ArrayList" "elementData" "[Ljava/lang/Object;" (.ref b)) (hp3 : Fld Z h0 a "java/util/ArrayList" "size" "I" (.int (1 : Int32))) (hp4 : Fld Z h0 a "java/util/AbstractList" "modCount" "I" (.int mc)) (hp5 : Arv Z h0 b kb (.object "java/lang/Object") (10 : Int32) [(.ref y0), .null, .null, .null, .null, .null, .null, .null, .null, .null] .null) (hp6 : n0 ≤ b) (ov : (Ovr Z kb "java/lang/Object")) (hp8 : Exa Z h0 b "[Ljava/lang/Object;") (hp9 : Ins Z h0 xo "java/lang/Object" true) :
    MetFree l mN14 (head1 (Jvm.Cond.code mN14 jdk_38_method_24_code 4 none :: ws) ({ frames := 0, cells := 0, slots := 0, locals := 0 } : Room)) (fun as_ U => as_ = #[(.ref a), (.ref xo), (.ref b), (.int (1 : Int32))] ∧ Z.Warmed39 U.vm ∧ U.heap = h0) (fun _ _ _ _ _ => True) (fun _ U o U' => ∃ v L, o = .returned v ∧ Qhelp1 Z a xo y0 mc b kb h0 n0 v U'.heap L ∧ FrameEnd U o U' L ({ frames := 0, cells := 0, slots := 0, locals := 0 } : Room).cells ({ frames := 0, cells := 0, slots := 0, locals := 0 } : Room).slots) := by
  refine MetFree.of_bodySF (plainFor_of_name pn_java_util_ArrayList) hisR ?_
  intro p e s m args below meth c s₁ Bd hml0 hP hK
  obtain ⟨rfl, hZ, hh⟩ := hP
  have hx := Bd.exec
  have hby := Bd.bytes
  have hml : c.maxLocals = 4 := hml0
  have hown : s.vm.findClass "java/util/ArrayList" = some m.cls := findClass_of_methodNamed Bd.named
  have hnm := (name_of_methodNamed Bd.named Bd.method).1
  have X0 : Stand p l e ({ frames := 0, cells := 0, slots := 0, locals := 0 } : Room) s m #[(.ref a), (.ref xo), (.ref b), (.int (1 : Int32))] below meth c s₁ [] 0 0 := Stand.of_body Bd
  have e0 : s₁.heap = h0 := by rw [← hh, Bd.state]; rfl
  have N0 := Fr.nil n0
  have Z0 := own_z0 O0
  have pre0 : ∀ tg_, Steps p.tables e below (s₁.setTop (mkF m 0 #[.val (.ref a), .val (.ref xo), .val (.ref b), .val (.int (1 : Int32))] [])) tg_ → Steps p.tables e below (s₁.setTop (entryFrame m #[(.ref a), (.ref xo), (.ref b), (.int (1 : Int32))] 4)) tg_ := fun tg_ kt_ => castTop (ef_help1 m a xo b (1 : Int32)) kt_
  obtain ⟨cl1, Ar1, -, S1, Ng1, -, -⟩ := id hp5
  obtain ⟨cl2, Ar2, q2, S2, Ng2, H2, G2⟩ := id hp5
  have hin2 : ¬ ((1 : Int32) < 0 ∨ cl2.slots.size ≤ ((1 : Int32)).toNatClampNeg) := inb_of S2 ⟨by decide, by decide⟩
  obtain ⟨T2, h2, X2, e2, W2, st2⟩ := stR X0 hx hZ e0 Ar2 (j := (1 : Int32)) hin2 rfl (Sto.of Ar2 (by rw [q2]; exact ov) hp9) (g := (mkF m 14 #[.val (.ref a), .val (.ref xo), .val (.ref b), .val (.int (1 : Int32))] [(.ref xo), (.int (1 : Int32)), (.ref b)])) rfl rfl (hb hby d13_14)
  have V2 : Arv Z h2 b kb (.object "java/lang/Object") (10 : Int32) [(.ref y0), (.ref xo), .null, .null, .null, .null, .null, .null, .null, .null] .null := Arv.set Ar2 q2 S2 Ng2 H2 G2 rfl W2 1 rfl (Nat.le_of_ble_eq_true rfl)
  have N2 := Fr.snoc X2 N0 hp6
  have O2 : Old Z n0 h2 := O0.wr W2 hp6
  have K2 : Keep h0 h2 [a, b] := (Keep.refl h0 [a, b]).wr W2 (Or.inl (List.mem_of_getElem? (i := 1) rfl))
  obtain ⟨T3, h3, X3, e3, W3, st3⟩ := putF X2 hx hZ hown (host := "") (Or.inl (hw _ w_85)) Via.refl e2 (hp3.other W2 (Or.inl (ne_exa hp0 hp8 (by decide)))) (hp0.wr W2) (Or.inl (hw _ w_86)) (hw _ w_55) (ty := .int) (by decide) rfl rfl (g := (mkF m 19 #[.val (.ref a), .val (.ref xo), .val (.ref b), .val (.int (1 : Int32))] [(.int (2 : Int32)), (.ref a)])) rfl rfl (hb hby d13_19)
  have Fw3 := (hp3.other W2 (Or.inl (ne_exa hp0 hp8 (by decide)))).same W3
  have N3 := Fr.snoc X3 N2 hp1
  have O3 : Old Z n0 h3 := O2.wr W3 hp1
  have K3 : Keep h0 h3 [a, b] := K2.wr W3 (Or.inl (List.mem_of_getElem? (i := 0) rfl))
  obtain ⟨fs, hr, hrun, hended, hW, hsame⟩ := X3.leave (v := none) (fun _ => rfl)
  refine ⟨_, _, pre0 _ ?_, hrun, hended, _, _, rfl, ?_, ⟨_, rfl⟩, hW, hsame.mono (by decide) (by decide)⟩
  · refine XS.iloadN X0.here hx rfl (hb hby d13_0) rfl ?_
    refine XS.aloadN X0.here hx rfl (hb hby d13_1) rfl rfl ?_
    show Steps p.tables e below (s₁.setTop (mkF m 2 #[.val (.ref a), .val (.ref xo), .val (.ref b), .val (.int (1 : Int32))] [(.ref b), (.int (1 : Int32))])) _
    refine X0.arraylength hx (by rw [e0]; exact Ar1.1) (State.isArrayOf_alike hZ.alike Ar1.2.1) (g := (mkF m 2 #[.val (.ref a), .val (.ref xo), .val (.ref b), .val (.int (1 : Int32))] [(.ref b), (.int (1 : Int32))])) rfl rfl (hb hby d13_2) _ ?_
    rw [len_of S1 Ng1]
    refine XS.icmpYes X0.here hx rfl (pc0 := 3) (pc' := 11) rfl (hb hby d13_3) rfl (feq (by decide : ¬ ((1 : Int32) = (10 : Int32)))).2 (by decide) (by decide) ?_
    refine XS.aloadN X0.here hx rfl (hb hby d13_11) rfl rfl ?_
    refine XS.iloadN X0.here hx rfl (hb hby d13_12) rfl ?_
    show Steps p.tables e below (s₁.setTop (mkF m 13 #[.val (.ref a), .val (.ref xo), .val (.ref b), .val (.int (1 : Int32))] [(.int (1 : Int32)), (.ref b)])) _
    refine XS.aloadN X0.here hx rfl (hb hby d13_13) rfl rfl ?_
    show Steps p.tables e below (s₁.setTop (mkF m 14 #[.val (.ref a), .val (.ref xo), .val (.ref b), .val (.int (1 : Int32))] [(.ref xo), (.int (1 : Int32)), (.ref b)])) _
    refine st2 _ ?_
    refine XS.aloadN X2.here hx rfl (hb hby d13_15) rfl rfl ?_
    refine XS.iloadN X2.here hx rfl (hb hby d13_16) rfl ?_
    refine XS.iconst X2.here hx rfl (hb hby d13_17) ?_
    show Steps p.tables e below (T2.setTop (mkF m 18 #[.val (.ref a), .val (.ref xo), .val (.ref b), .val (.int (1 : Int32))] [(.int (1 : Int32)), (.int (1 : Int32)), (.ref a)])) _
    refine XS.iadd X2.here hx rfl (hb hby d13_18) rfl ?_
    show Steps p.tables e below (T2.setTop (mkF m 19 #[.val (.ref a), .val (.ref xo), .val (.ref b), .val (.int (1 : Int32))] [(.int (2 : Int32)), (.ref a)])) _
    refine st3 _ ?_
    show Steps p.tables e below (T3.setTop (mkF m 22 #[.val (.ref a), .val (.ref xo), .val (.ref b), .val (.int (1 : Int32))] [])) _
    exact X3.returnOut hx Bd.returns (hb hby d13_22) hr
  · show Qhelp1 Z a xo y0 mc b kb h0 n0 _ T3.heap _
    rw [e3]
    exact ⟨rfl, N3, K3, ((hp0.wr W2).wr W3), ((hp2.other W2 (Or.inl (ne_exa hp0 hp8 (by decide)))).other W3 (Or.inr (slot_ne (Or.inl (hw _ w_77)) (Or.inl (hw _ w_86)) (by decide) (t := (.array (.object "java/lang/Object"))) (t' := .int) (by decide) (by decide)))), Fw3, ((hp4.other W2 (Or.inl (ne_exa hp0 hp8 (by decide)))).other W3 (Or.inr (slot_ne (Or.inl (hw _ w_74)) (Or.inl (hw _ w_86)) (by decide) (t := .int) (t' := .int) (by decide) (by decide)))), (V2.other W3 (ne_exa (hp8.wr W2) (hp0.wr W2) (by decide))), ((hp8.wr W2).wr W3)⟩
theorem ef_add1 (m : MethodId) (x0 : Addr) (x1 : Addr) : entryFrame m #[(.ref x0), (.ref x1)] 2 = mkF m 0 #[.val (.ref x0), .val (.ref x1)] [] := by first | (simp [entryFrame, mkF, argsToLocals, Value.category]; done) | rfl
def Qadd1 (Z : State) (a : Addr) (xo : Addr) (y0 : Addr) (mc : Int32) (b : Addr) (kb : ClassId) (h0 : Heap) (n0 : Nat) (v : Option Value) (h : Heap) (L : List Loc) : Prop := v = some (.int (1 : Int32)) ∧ Fr n0 L ∧ Keep h0 h [a, b] ∧ Exa Z h a "java/util/ArrayList" ∧ Fld Z h a "java/util/ArrayList" "elementData" "[Ljava/lang/Object;" (.ref b) ∧ Fld Z h a "java/util/ArrayList" "size" "I" (.int (2 : Int32)) ∧ Fld Z h a "java/util/AbstractList" "modCount" "I" (.int (mc + (1 : Int32))) ∧ Arv Z h b kb (.object "java/lang/Object") (10 : Int32) [(.ref y0), (.ref xo), .null, .null, .null, .null, .null, .null, .null, .null] .null ∧ Exa Z h b "[Ljava/lang/Object;"
set_option maxRecDepth 65536 in
set_option maxHeartbeats 40000000 in
theorem rmadd1 (l : Launch) (Z : State) (a0 : Array Value) (hw : ∀ d ∈ tables_1, d.before a0 Z = true) (ws : List Jvm.Cond) (a : Addr) (xo : Addr) (y0 : Addr) (mc : Int32) (b : Addr) (kb : ClassId) (h0 : Heap) (n0 : Nat) (O0 : Old Z n0 h0) (hp0 : Exa Z h0 a "java/util/ArrayList") (hp1 : n0 ≤ a) (hp2 : Fld Z h0 a "java/util/ArrayList" "elementData" "[Ljava/lang/Object;" (.ref b)) (hp3 : Fld Z h0 a "java/util/ArrayList" "size" "I" (.int (1 : Int32))) (hp4 : Fld Z h0 a "java/util/AbstractList" "modCount" "I" (.int mc)) (hp5 : Arv Z h0 b kb (.object "java/lang/Object") (10 : Int32) [(.ref y0), .null, .null, .null, .null, .null, .null, .null, .null, .null] .null) (hp6 : n0 ≤ b) (ov : (Ovr Z kb "java/lang/Object")) (hp8 : Exa Z h0 b "[Ljava/lang/Object;") (hp9 : Ins Z h0 xo "java/lang/Object" true) :
    MetFree l mN15 (head1 (Jvm.Cond.code mN15 jdk_38_method_25_code 2 (some .boolean) :: ws) ({ frames := 1, cells := 0, slots := 0, locals := 15 } : Room)) (fun as_ U => as_ = #[(.ref a), (.ref xo)] ∧ Z.Warmed39 U.vm ∧ U.heap = h0) (fun _ _ _ _ _ => True) (fun _ U o U' => ∃ v L, o = .returned v ∧ Qadd1 Z a xo y0 mc b kb h0 n0 v U'.heap L ∧ FrameEnd U o U' L ({ frames := 1, cells := 0, slots := 0, locals := 15 } : Room).cells ({ frames := 1, cells := 0, slots := 0, locals := 15 } : Room).slots) := by
  refine MetFree.of_bodySF (plainFor_of_name pn_java_util_ArrayList) hisR ?_
  intro p e s m args below meth c s₁ Bd hml0 hP hK
  obtain ⟨rfl, hZ, hh⟩ := hP
  have hx := Bd.exec
  have hby := Bd.bytes
  have hml : c.maxLocals = 2 := hml0
  have hown : s.vm.findClass "java/util/ArrayList" = some m.cls := findClass_of_methodNamed Bd.named
  have hnm := (name_of_methodNamed Bd.named Bd.method).1
  have X0 : Stand p l e ({ frames := 1, cells := 0, slots := 0, locals := 15 } : Room) s m #[(.ref a), (.ref xo)] below meth c s₁ [] 0 0 := Stand.of_body Bd
  have e0 : s₁.heap = h0 := by rw [← hh, Bd.state]; rfl
  have N0 := Fr.nil n0
  have Z0 := own_z0 O0
  have pre0 : ∀ tg_, Steps p.tables e below (s₁.setTop (mkF m 0 #[.val (.ref a), .val (.ref xo)] [])) tg_ → Steps p.tables e below (s₁.setTop (entryFrame m #[(.ref a), (.ref xo)] 2)) tg_ := fun tg_ kt_ => castTop (ef_add1 m a xo) kt_
  obtain ⟨T1, X1, e1, st1⟩ := getF X0 hx hZ hown (host := "") (Or.inl (hw _ w_83)) (Via.of (hw _ w_84)) e0 hp4 (g := (mkF m 2 #[.val (.ref a), .val (.ref xo)] [(.ref a), (.ref a)])) rfl rfl (hb hby d12_2)
  obtain ⟨T2, h2, X2, e2, W2, st2⟩ := putF X1 hx hZ hown (host := "") (Or.inl (hw _ w_83)) (Via.of (hw _ w_84)) e1 hp4 hp0 (Or.inl (hw _ w_74)) (hw _ w_55) (ty := .int) (by decide) rfl rfl (g := (mkF m 7 #[.val (.ref a), .val (.ref xo)] [(.int (mc + (1 : Int32))), (.ref a)])) rfl rfl (hb hby d12_7)
  have Fw2 := hp4.same W2
  have N2 := Fr.snoc X2 N0 hp1
  have O2 : Old Z n0 h2 := O0.wr W2 hp1
  have K2 : Keep h0 h2 [a, b] := (Keep.refl h0 [a, b]).wr W2 (Or.inl (List.mem_of_getElem? (i := 0) rfl))
  obtain ⟨T3, X3, e3, st3⟩ := getF X2 hx hZ hown (host := "") (Or.inl (hw _ w_76)) Via.refl e2 (hp2.other W2 (Or.inr (slot_ne (Or.inl (hw _ w_77)) (Or.inl (hw _ w_74)) (by decide) (t := (.array (.object "java/lang/Object"))) (t' := .int) (by decide) (by decide)))) (g := (mkF m 13 #[.val (.ref a), .val (.ref xo)] [(.ref a), (.ref xo), (.ref a)])) rfl rfl (hb hby d12_13)
  obtain ⟨T4, X4, e4, st4⟩ := getF X3 hx hZ hown (host := "") (Or.inl (hw _ w_85)) Via.refl e3 (hp3.other W2 (Or.inr (slot_ne (Or.inl (hw _ w_86)) (Or.inl (hw _ w_74)) (by decide) (t := .int) (t' := .int) (by decide) (by decide)))) (g := (mkF m 17 #[.val (.ref a), .val (.ref xo)] [(.ref a), (.ref b), (.ref xo), (.ref a)])) rfl rfl (hb hby d12_17)
  obtain ⟨cq5, q5, q5'⟩ := (hp0.wr W2).cell
  obtain ⟨_, _, ⟨T5, L5, k5, n5⟩, -, X5, ⟨Lc5, hQ5, l5, y5, z5⟩, st5⟩ := X4.privateBack hx (y := mN14) hown (mvT hZ (hw _ w_87)) (mvT hZ (hw _ w_88)) (mvT hZ (hw _ w_90)) (Cond.privateMethod_at (mvP hZ (hw _ w_89) (args := #[]))) (mvT hZ (hw _ w_91)) (by decide) (backOf (W := 0) (rmhelp1 l Z a0 hw [] a xo y0 (mc + (1 : Int32)) b kb h2 n0 O2 (hp0.wr W2) hp1 (hp2.other W2 (Or.inr (slot_ne (Or.inl (hw _ w_77)) (Or.inl (hw _ w_74)) (by decide) (t := (.array (.object "java/lang/Object"))) (t' := .int) (by decide) (by decide)))) (hp3.other W2 (Or.inr (slot_ne (Or.inl (hw _ w_86)) (Or.inl (hw _ w_74)) (by decide) (t := .int) (t' := .int) (by decide) (by decide)))) Fw2 (hp5.other W2 (ne_exa hp8 hp0 (by decide))) hp6 ov (hp8.wr W2) (hp9.wr W2)) hZ (hw _ w_91) (hw _ w_56) (by decide) (by decide)) (g := (mkF m 20 #[.val (.ref a), .val (.ref xo)] [(.int (1 : Int32)), (.ref b), (.ref xo), (.ref a)])) rfl (by rw [hml]; rfl) (Steps.refl _) (a := a) (by rw [e4]; exact q5) q5' (argsL := [(.ref xo), (.ref b), (.int (1 : Int32))]) (rest := []) (lenOf pd__Ljava_lang_Object_ALjava_lang_Object_I_V rfl) rfl (by show 2 * 0 + _ ≤ _; exact Nat.le_of_eq rfl) (hb hby d12_20) (fun _ _ => ⟨rfl, e4, (by decide : 0 + 0 ≤ _), (by decide : 0 + 0 ≤ _)⟩)
  dsimp only [Pt.U, Pt.locs, Pt.cells, Pt.slots] at X5 l5 y5 z5 st5 hQ5
  subst l5 y5 z5
  obtain ⟨rfl, N5q, Kc5, r5_1, r5_2, r5_3, r5_4, r5_5, r5_6⟩ := hQ5
  have N5 := Fr.app N2 N5q
  have O5 : Old Z n0 T5.heap := O2.keep Kc5 (allS hp1 (allS hp6 all0))
  have K5 : Keep h0 T5.heap [a, b] := K2.trans Kc5 (allS (Or.inl (List.mem_of_getElem? (i := 0) rfl)) (allS (Or.inl (List.mem_of_getElem? (i := 1) rfl)) all0))
  obtain ⟨fs, hr, hrun, hended, hW, hsame⟩ := X5.leave (v := some (.int (1 : Int32))) (fun h => by rw [Bd.returns] at h; cases h)
  refine ⟨_, _, pre0 _ ?_, hrun, hended, _, _, rfl, ?_, ⟨_, rfl⟩, hW, hsame.mono (by decide) (by decide)⟩
  · refine XS.aloadN X0.here hx rfl (hb hby d12_0) rfl rfl ?_
    refine XS.dup X0.here hx rfl (hb hby d12_1) rfl rfl ?_
    show Steps p.tables e below (s₁.setTop (mkF m 2 #[.val (.ref a), .val (.ref xo)] [(.ref a), (.ref a)])) _
    refine st1 _ ?_
    refine XS.iconst X1.here hx rfl (hb hby d12_5) ?_
    refine XS.iadd X1.here hx rfl (hb hby d12_6) rfl ?_
    show Steps p.tables e below (T1.setTop (mkF m 7 #[.val (.ref a), .val (.ref xo)] [(.int (mc + (1 : Int32))), (.ref a)])) _
    refine st2 _ ?_
    refine XS.aloadN X2.here hx rfl (hb hby d12_10) rfl rfl ?_
    refine XS.aloadN X2.here hx rfl (hb hby d12_11) rfl rfl ?_
    refine XS.aloadN X2.here hx rfl (hb hby d12_12) rfl rfl ?_
    show Steps p.tables e below (T2.setTop (mkF m 13 #[.val (.ref a), .val (.ref xo)] [(.ref a), (.ref xo), (.ref a)])) _
    refine st3 _ ?_
    refine XS.aloadN X3.here hx rfl (hb hby d12_16) rfl rfl ?_
    show Steps p.tables e below (T3.setTop (mkF m 17 #[.val (.ref a), .val (.ref xo)] [(.ref a), (.ref b), (.ref xo), (.ref a)])) _
    refine st4 _ ?_
    show Steps p.tables e below (T4.setTop (mkF m 20 #[.val (.ref a), .val (.ref xo)] [(.int (1 : Int32)), (.ref b), (.ref xo), (.ref a)])) _
    refine st5.trans ?_
    refine XS.iconst X5.here hx rfl (hb hby d12_23) ?_
    show Steps p.tables e below (T5.setTop (mkF m 24 #[.val (.ref a), .val (.ref xo)] [(.int (1 : Int32))])) _
    exact retN X5 hx (t := .boolean) Bd.returns (by simp) (hb hby d12_24) hr
  · show Qadd1 Z a xo y0 mc b kb h0 n0 _ T5.heap _
    exact ⟨rfl, N5, K5, r5_1, r5_2, r5_3, r5_4, r5_5, r5_6⟩
theorem ef_help2 (m : MethodId) (x0 : Addr) (x1 : Addr) (x2 : Addr) (x3 : Int32) : entryFrame m #[(.ref x0), (.ref x1), (.ref x2), (.int x3)] 4 = mkF m 0 #[.val (.ref x0), .val (.ref x1), .val (.ref x2), .val (.int x3)] [] := by first | (simp [entryFrame, mkF, argsToLocals, Value.category]; done) | rfl
def Qhelp2 (Z : State) (a : Addr) (xo : Addr) (y0 : Addr) (y1 : Addr) (mc : Int32) (b : Addr) (kb : ClassId) (h0 : Heap) (n0 : Nat) (v : Option Value) (h : Heap) (L : List Loc) : Prop := v = none ∧ Fr n0 L ∧ Keep h0 h [a, b] ∧ Exa Z h a "java/util/ArrayList" ∧ Fld Z h a "java/util/ArrayList" "elementData" "[Ljava/lang/Object;" (.ref b) ∧ Fld Z h a "java/util/ArrayList" "size" "I" (.int (3 : Int32)) ∧ Fld Z h a "java/util/AbstractList" "modCount" "I" (.int mc) ∧ Arv Z h b kb (.object "java/lang/Object") (10 : Int32) [(.ref y0), (.ref y1), (.ref xo), .null, .null, .null, .null, .null, .null, .null] .null ∧ Exa Z h b "[Ljava/lang/Object;"
set_option maxRecDepth 65536 in
set_option maxHeartbeats 40000000 in
theorem rmhelp2 (l : Launch) (Z : State) (a0 : Array Value) (hw : ∀ d ∈ tables_1, d.before a0 Z = true) (ws : List Jvm.Cond) (a : Addr) (xo : Addr) (y0 : Addr) (y1 : Addr) (mc : Int32) (b : Addr) (kb : ClassId) (h0 : Heap) (n0 : Nat) (O0 : Old Z n0 h0) (hp0 : Exa Z h0 a "java/util/ArrayList") (hp1 : n0 ≤ a) (hp2 : Fld Z h0 a "java/util/ArrayList" "elementData" "[Ljava/lang/Object;" (.ref b)) (hp3 : Fld Z h0 a "java/util/ArrayList" "size" "I" (.int (2 : Int32))) (hp4 : Fld Z h0 a "java/util/AbstractList" "modCount" "I" (.int mc)) (hp5 : Arv Z h0 b kb (.object "java/lang/Object") (10 : Int32) [(.ref y0), (.ref y1), .null, .null, .null, .null, .null, .null, .null, .null] .null) (hp6 : n0 ≤ b) (ov : (Ovr Z kb "java/lang/Object")) (hp8 : Exa Z h0 b "[Ljava/lang/Object;") (hp9 : Ins Z h0 xo "java/lang/Object" true) :
    MetFree l mN14 (head1 (Jvm.Cond.code mN14 jdk_38_method_24_code 4 none :: ws) ({ frames := 0, cells := 0, slots := 0, locals := 0 } : Room)) (fun as_ U => as_ = #[(.ref a), (.ref xo), (.ref b), (.int (2 : Int32))] ∧ Z.Warmed39 U.vm ∧ U.heap = h0) (fun _ _ _ _ _ => True) (fun _ U o U' => ∃ v L, o = .returned v ∧ Qhelp2 Z a xo y0 y1 mc b kb h0 n0 v U'.heap L ∧ FrameEnd U o U' L ({ frames := 0, cells := 0, slots := 0, locals := 0 } : Room).cells ({ frames := 0, cells := 0, slots := 0, locals := 0 } : Room).slots) := by
  refine MetFree.of_bodySF (plainFor_of_name pn_java_util_ArrayList) hisR ?_
  intro p e s m args below meth c s₁ Bd hml0 hP hK
  obtain ⟨rfl, hZ, hh⟩ := hP
  have hx := Bd.exec
  have hby := Bd.bytes
  have hml : c.maxLocals = 4 := hml0
  have hown : s.vm.findClass "java/util/ArrayList" = some m.cls := findClass_of_methodNamed Bd.named
  have hnm := (name_of_methodNamed Bd.named Bd.method).1
  have X0 : Stand p l e ({ frames := 0, cells := 0, slots := 0, locals := 0 } : Room) s m #[(.ref a), (.ref xo), (.ref b), (.int (2 : Int32))] below meth c s₁ [] 0 0 := Stand.of_body Bd
  have e0 : s₁.heap = h0 := by rw [← hh, Bd.state]; rfl
  have N0 := Fr.nil n0
  have Z0 := own_z0 O0
  have pre0 : ∀ tg_, Steps p.tables e below (s₁.setTop (mkF m 0 #[.val (.ref a), .val (.ref xo), .val (.ref b), .val (.int (2 : Int32))] [])) tg_ → Steps p.tables e below (s₁.setTop (entryFrame m #[(.ref a), (.ref xo), (.ref b), (.int (2 : Int32))] 4)) tg_ := fun tg_ kt_ => castTop (ef_help2 m a xo b (2 : Int32)) kt_
  obtain ⟨cl1, Ar1, -, S1, Ng1, -, -⟩ := id hp5
  obtain ⟨cl2, Ar2, q2, S2, Ng2, H2, G2⟩ := id hp5
  have hin2 : ¬ ((2 : Int32) < 0 ∨ cl2.slots.size ≤ ((2 : Int32)).toNatClampNeg) := inb_of S2 ⟨by decide, by decide⟩
  obtain ⟨T2, h2, X2, e2, W2, st2⟩ := stR X0 hx hZ e0 Ar2 (j := (2 : Int32)) hin2 rfl (Sto.of Ar2 (by rw [q2]; exact ov) hp9) (g := (mkF m 14 #[.val (.ref a), .val (.ref xo), .val (.ref b), .val (.int (2 : Int32))] [(.ref xo), (.int (2 : Int32)), (.ref b)])) rfl rfl (hb hby d13_14)
  have V2 : Arv Z h2 b kb (.object "java/lang/Object") (10 : Int32) [(.ref y0), (.ref y1), (.ref xo), .null, .null, .null, .null, .null, .null, .null] .null := Arv.set Ar2 q2 S2 Ng2 H2 G2 rfl W2 2 rfl (Nat.le_of_ble_eq_true rfl)
  have N2 := Fr.snoc X2 N0 hp6
  have O2 : Old Z n0 h2 := O0.wr W2 hp6
  have K2 : Keep h0 h2 [a, b] := (Keep.refl h0 [a, b]).wr W2 (Or.inl (List.mem_of_getElem? (i := 1) rfl))
  obtain ⟨T3, h3, X3, e3, W3, st3⟩ := putF X2 hx hZ hown (host := "") (Or.inl (hw _ w_85)) Via.refl e2 (hp3.other W2 (Or.inl (ne_exa hp0 hp8 (by decide)))) (hp0.wr W2) (Or.inl (hw _ w_86)) (hw _ w_55) (ty := .int) (by decide) rfl rfl (g := (mkF m 19 #[.val (.ref a), .val (.ref xo), .val (.ref b), .val (.int (2 : Int32))] [(.int (3 : Int32)), (.ref a)])) rfl rfl (hb hby d13_19)
  have Fw3 := (hp3.other W2 (Or.inl (ne_exa hp0 hp8 (by decide)))).same W3
  have N3 := Fr.snoc X3 N2 hp1
  have O3 : Old Z n0 h3 := O2.wr W3 hp1
  have K3 : Keep h0 h3 [a, b] := K2.wr W3 (Or.inl (List.mem_of_getElem? (i := 0) rfl))
  obtain ⟨fs, hr, hrun, hended, hW, hsame⟩ := X3.leave (v := none) (fun _ => rfl)
  refine ⟨_, _, pre0 _ ?_, hrun, hended, _, _, rfl, ?_, ⟨_, rfl⟩, hW, hsame.mono (by decide) (by decide)⟩
  · refine XS.iloadN X0.here hx rfl (hb hby d13_0) rfl ?_
    refine XS.aloadN X0.here hx rfl (hb hby d13_1) rfl rfl ?_
    show Steps p.tables e below (s₁.setTop (mkF m 2 #[.val (.ref a), .val (.ref xo), .val (.ref b), .val (.int (2 : Int32))] [(.ref b), (.int (2 : Int32))])) _
    refine X0.arraylength hx (by rw [e0]; exact Ar1.1) (State.isArrayOf_alike hZ.alike Ar1.2.1) (g := (mkF m 2 #[.val (.ref a), .val (.ref xo), .val (.ref b), .val (.int (2 : Int32))] [(.ref b), (.int (2 : Int32))])) rfl rfl (hb hby d13_2) _ ?_
    rw [len_of S1 Ng1]
    refine XS.icmpYes X0.here hx rfl (pc0 := 3) (pc' := 11) rfl (hb hby d13_3) rfl (feq (by decide : ¬ ((2 : Int32) = (10 : Int32)))).2 (by decide) (by decide) ?_
    refine XS.aloadN X0.here hx rfl (hb hby d13_11) rfl rfl ?_
    refine XS.iloadN X0.here hx rfl (hb hby d13_12) rfl ?_
    show Steps p.tables e below (s₁.setTop (mkF m 13 #[.val (.ref a), .val (.ref xo), .val (.ref b), .val (.int (2 : Int32))] [(.int (2 : Int32)), (.ref b)])) _
    refine XS.aloadN X0.here hx rfl (hb hby d13_13) rfl rfl ?_
    show Steps p.tables e below (s₁.setTop (mkF m 14 #[.val (.ref a), .val (.ref xo), .val (.ref b), .val (.int (2 : Int32))] [(.ref xo), (.int (2 : Int32)), (.ref b)])) _
    refine st2 _ ?_
    refine XS.aloadN X2.here hx rfl (hb hby d13_15) rfl rfl ?_
    refine XS.iloadN X2.here hx rfl (hb hby d13_16) rfl ?_
    refine XS.iconst X2.here hx rfl (hb hby d13_17) ?_
    show Steps p.tables e below (T2.setTop (mkF m 18 #[.val (.ref a), .val (.ref xo), .val (.ref b), .val (.int (2 : Int32))] [(.int (1 : Int32)), (.int (2 : Int32)), (.ref a)])) _
    refine XS.iadd X2.here hx rfl (hb hby d13_18) rfl ?_
    show Steps p.tables e below (T2.setTop (mkF m 19 #[.val (.ref a), .val (.ref xo), .val (.ref b), .val (.int (2 : Int32))] [(.int (3 : Int32)), (.ref a)])) _
    refine st3 _ ?_
    show Steps p.tables e below (T3.setTop (mkF m 22 #[.val (.ref a), .val (.ref xo), .val (.ref b), .val (.int (2 : Int32))] [])) _
    exact X3.returnOut hx Bd.returns (hb hby d13_22) hr
  · show Qhelp2 Z a xo y0 y1 mc b kb h0 n0 _ T3.heap _
    rw [e3]
    exact ⟨rfl, N3, K3, ((hp0.wr W2).wr W3), ((hp2.other W2 (Or.inl (ne_exa hp0 hp8 (by decide)))).other W3 (Or.inr (slot_ne (Or.inl (hw _ w_77)) (Or.inl (hw _ w_86)) (by decide) (t := (.array (.object "java/lang/Object"))) (t' := .int) (by decide) (by decide)))), Fw3, ((hp4.other W2 (Or.inl (ne_exa hp0 hp8 (by decide)))).other W3 (Or.inr (slot_ne (Or.inl (hw _ w_74)) (Or.inl (hw _ w_86)) (by decide) (t := .int) (t' := .int) (by decide) (by decide)))), (V2.other W3 (ne_exa (hp8.wr W2) (hp0.wr W2) (by decide))), ((hp8.wr W2).wr W3)⟩
theorem ef_add2 (m : MethodId) (x0 : Addr) (x1 : Addr) : entryFrame m #[(.ref x0), (.ref x1)] 2 = mkF m 0 #[.val (.ref x0), .val (.ref x1)] [] := by first | (simp [entryFrame, mkF, argsToLocals, Value.category]; done) | rfl
def Qadd2 (Z : State) (a : Addr) (xo : Addr) (y0 : Addr) (y1 : Addr) (mc : Int32) (b : Addr) (kb : ClassId) (h0 : Heap) (n0 : Nat) (v : Option Value) (h : Heap) (L : List Loc) : Prop := v = some (.int (1 : Int32)) ∧ Fr n0 L ∧ Keep h0 h [a, b] ∧ Exa Z h a "java/util/ArrayList" ∧ Fld Z h a "java/util/ArrayList" "elementData" "[Ljava/lang/Object;" (.ref b) ∧ Fld Z h a "java/util/ArrayList" "size" "I" (.int (3 : Int32)) ∧ Fld Z h a "java/util/AbstractList" "modCount" "I" (.int (mc + (1 : Int32))) ∧ Arv Z h b kb (.object "java/lang/Object") (10 : Int32) [(.ref y0), (.ref y1), (.ref xo), .null, .null, .null, .null, .null, .null, .null] .null ∧ Exa Z h b "[Ljava/lang/Object;"
set_option maxRecDepth 65536 in
set_option maxHeartbeats 40000000 in
theorem rmadd2 (l : Launch) (Z : State) (a0 : Array Value) (hw : ∀ d ∈ tables_1, d.before a0 Z = true) (ws : List Jvm.Cond) (a : Addr) (xo : Addr) (y0 : Addr) (y1 : Addr) (mc : Int32) (b : Addr) (kb : ClassId) (h0 : Heap) (n0 : Nat) (O0 : Old Z n0 h0) (hp0 : Exa Z h0 a "java/util/ArrayList") (hp1 : n0 ≤ a) (hp2 : Fld Z h0 a "java/util/ArrayList" "elementData" "[Ljava/lang/Object;" (.ref b)) (hp3 : Fld Z h0 a "java/util/ArrayList" "size" "I" (.int (2 : Int32))) (hp4 : Fld Z h0 a "java/util/AbstractList" "modCount" "I" (.int mc)) (hp5 : Arv Z h0 b kb (.object "java/lang/Object") (10 : Int32) [(.ref y0), (.ref y1), .null, .null, .null, .null, .null, .null, .null, .null] .null) (hp6 : n0 ≤ b) (ov : (Ovr Z kb "java/lang/Object")) (hp8 : Exa Z h0 b "[Ljava/lang/Object;") (hp9 : Ins Z h0 xo "java/lang/Object" true) :
    MetFree l mN15 (head1 (Jvm.Cond.code mN15 jdk_38_method_25_code 2 (some .boolean) :: ws) ({ frames := 1, cells := 0, slots := 0, locals := 15 } : Room)) (fun as_ U => as_ = #[(.ref a), (.ref xo)] ∧ Z.Warmed39 U.vm ∧ U.heap = h0) (fun _ _ _ _ _ => True) (fun _ U o U' => ∃ v L, o = .returned v ∧ Qadd2 Z a xo y0 y1 mc b kb h0 n0 v U'.heap L ∧ FrameEnd U o U' L ({ frames := 1, cells := 0, slots := 0, locals := 15 } : Room).cells ({ frames := 1, cells := 0, slots := 0, locals := 15 } : Room).slots) := by
  refine MetFree.of_bodySF (plainFor_of_name pn_java_util_ArrayList) hisR ?_
  intro p e s m args below meth c s₁ Bd hml0 hP hK
  obtain ⟨rfl, hZ, hh⟩ := hP
  have hx := Bd.exec
  have hby := Bd.bytes
  have hml : c.maxLocals = 2 := hml0
  have hown : s.vm.findClass "java/util/ArrayList" = some m.cls := findClass_of_methodNamed Bd.named
  have hnm := (name_of_methodNamed Bd.named Bd.method).1
  have X0 : Stand p l e ({ frames := 1, cells := 0, slots := 0, locals := 15 } : Room) s m #[(.ref a), (.ref xo)] below meth c s₁ [] 0 0 := Stand.of_body Bd
  have e0 : s₁.heap = h0 := by rw [← hh, Bd.state]; rfl
  have N0 := Fr.nil n0
  have Z0 := own_z0 O0
  have pre0 : ∀ tg_, Steps p.tables e below (s₁.setTop (mkF m 0 #[.val (.ref a), .val (.ref xo)] [])) tg_ → Steps p.tables e below (s₁.setTop (entryFrame m #[(.ref a), (.ref xo)] 2)) tg_ := fun tg_ kt_ => castTop (ef_add2 m a xo) kt_
  obtain ⟨T1, X1, e1, st1⟩ := getF X0 hx hZ hown (host := "") (Or.inl (hw _ w_83)) (Via.of (hw _ w_84)) e0 hp4 (g := (mkF m 2 #[.val (.ref a), .val (.ref xo)] [(.ref a), (.ref a)])) rfl rfl (hb hby d12_2)
  obtain ⟨T2, h2, X2, e2, W2, st2⟩ := putF X1 hx hZ hown (host := "") (Or.inl (hw _ w_83)) (Via.of (hw _ w_84)) e1 hp4 hp0 (Or.inl (hw _ w_74)) (hw _ w_55) (ty := .int) (by decide) rfl rfl (g := (mkF m 7 #[.val (.ref a), .val (.ref xo)] [(.int (mc + (1 : Int32))), (.ref a)])) rfl rfl (hb hby d12_7)
  have Fw2 := hp4.same W2
  have N2 := Fr.snoc X2 N0 hp1
  have O2 : Old Z n0 h2 := O0.wr W2 hp1
  have K2 : Keep h0 h2 [a, b] := (Keep.refl h0 [a, b]).wr W2 (Or.inl (List.mem_of_getElem? (i := 0) rfl))
  obtain ⟨T3, X3, e3, st3⟩ := getF X2 hx hZ hown (host := "") (Or.inl (hw _ w_76)) Via.refl e2 (hp2.other W2 (Or.inr (slot_ne (Or.inl (hw _ w_77)) (Or.inl (hw _ w_74)) (by decide) (t := (.array (.object "java/lang/Object"))) (t' := .int) (by decide) (by decide)))) (g := (mkF m 13 #[.val (.ref a), .val (.ref xo)] [(.ref a), (.ref xo), (.ref a)])) rfl rfl (hb hby d12_13)
  obtain ⟨T4, X4, e4, st4⟩ := getF X3 hx hZ hown (host := "") (Or.inl (hw _ w_85)) Via.refl e3 (hp3.other W2 (Or.inr (slot_ne (Or.inl (hw _ w_86)) (Or.inl (hw _ w_74)) (by decide) (t := .int) (t' := .int) (by decide) (by decide)))) (g := (mkF m 17 #[.val (.ref a), .val (.ref xo)] [(.ref a), (.ref b), (.ref xo), (.ref a)])) rfl rfl (hb hby d12_17)
  obtain ⟨cq5, q5, q5'⟩ := (hp0.wr W2).cell
  obtain ⟨_, _, ⟨T5, L5, k5, n5⟩, -, X5, ⟨Lc5, hQ5, l5, y5, z5⟩, st5⟩ := X4.privateBack hx (y := mN14) hown (mvT hZ (hw _ w_87)) (mvT hZ (hw _ w_88)) (mvT hZ (hw _ w_90)) (Cond.privateMethod_at (mvP hZ (hw _ w_89) (args := #[]))) (mvT hZ (hw _ w_91)) (by decide) (backOf (W := 0) (rmhelp2 l Z a0 hw [] a xo y0 y1 (mc + (1 : Int32)) b kb h2 n0 O2 (hp0.wr W2) hp1 (hp2.other W2 (Or.inr (slot_ne (Or.inl (hw _ w_77)) (Or.inl (hw _ w_74)) (by decide) (t := (.array (.object "java/lang/Object"))) (t' := .int) (by decide) (by decide)))) (hp3.other W2 (Or.inr (slot_ne (Or.inl (hw _ w_86)) (Or.inl (hw _ w_74)) (by decide) (t := .int) (t' := .int) (by decide) (by decide)))) Fw2 (hp5.other W2 (ne_exa hp8 hp0 (by decide))) hp6 ov (hp8.wr W2) (hp9.wr W2)) hZ (hw _ w_91) (hw _ w_56) (by decide) (by decide)) (g := (mkF m 20 #[.val (.ref a), .val (.ref xo)] [(.int (2 : Int32)), (.ref b), (.ref xo), (.ref a)])) rfl (by rw [hml]; rfl) (Steps.refl _) (a := a) (by rw [e4]; exact q5) q5' (argsL := [(.ref xo), (.ref b), (.int (2 : Int32))]) (rest := []) (lenOf pd__Ljava_lang_Object_ALjava_lang_Object_I_V rfl) rfl (by show 2 * 0 + _ ≤ _; exact Nat.le_of_eq rfl) (hb hby d12_20) (fun _ _ => ⟨rfl, e4, (by decide : 0 + 0 ≤ _), (by decide : 0 + 0 ≤ _)⟩)
  dsimp only [Pt.U, Pt.locs, Pt.cells, Pt.slots] at X5 l5 y5 z5 st5 hQ5
  subst l5 y5 z5
  obtain ⟨rfl, N5q, Kc5, r5_1, r5_2, r5_3, r5_4, r5_5, r5_6⟩ := hQ5
  have N5 := Fr.app N2 N5q
  have O5 : Old Z n0 T5.heap := O2.keep Kc5 (allS hp1 (allS hp6 all0))
  have K5 : Keep h0 T5.heap [a, b] := K2.trans Kc5 (allS (Or.inl (List.mem_of_getElem? (i := 0) rfl)) (allS (Or.inl (List.mem_of_getElem? (i := 1) rfl)) all0))
  obtain ⟨fs, hr, hrun, hended, hW, hsame⟩ := X5.leave (v := some (.int (1 : Int32))) (fun h => by rw [Bd.returns] at h; cases h)
  refine ⟨_, _, pre0 _ ?_, hrun, hended, _, _, rfl, ?_, ⟨_, rfl⟩, hW, hsame.mono (by decide) (by decide)⟩
  · refine XS.aloadN X0.here hx rfl (hb hby d12_0) rfl rfl ?_
    refine XS.dup X0.here hx rfl (hb hby d12_1) rfl rfl ?_
    show Steps p.tables e below (s₁.setTop (mkF m 2 #[.val (.ref a), .val (.ref xo)] [(.ref a), (.ref a)])) _
    refine st1 _ ?_
    refine XS.iconst X1.here hx rfl (hb hby d12_5) ?_
    refine XS.iadd X1.here hx rfl (hb hby d12_6) rfl ?_
    show Steps p.tables e below (T1.setTop (mkF m 7 #[.val (.ref a), .val (.ref xo)] [(.int (mc + (1 : Int32))), (.ref a)])) _
    refine st2 _ ?_
    refine XS.aloadN X2.here hx rfl (hb hby d12_10) rfl rfl ?_
    refine XS.aloadN X2.here hx rfl (hb hby d12_11) rfl rfl ?_
    refine XS.aloadN X2.here hx rfl (hb hby d12_12) rfl rfl ?_
    show Steps p.tables e below (T2.setTop (mkF m 13 #[.val (.ref a), .val (.ref xo)] [(.ref a), (.ref xo), (.ref a)])) _
    refine st3 _ ?_
    refine XS.aloadN X3.here hx rfl (hb hby d12_16) rfl rfl ?_
    show Steps p.tables e below (T3.setTop (mkF m 17 #[.val (.ref a), .val (.ref xo)] [(.ref a), (.ref b), (.ref xo), (.ref a)])) _
    refine st4 _ ?_
    show Steps p.tables e below (T4.setTop (mkF m 20 #[.val (.ref a), .val (.ref xo)] [(.int (2 : Int32)), (.ref b), (.ref xo), (.ref a)])) _
    refine st5.trans ?_
    refine XS.iconst X5.here hx rfl (hb hby d12_23) ?_
    show Steps p.tables e below (T5.setTop (mkF m 24 #[.val (.ref a), .val (.ref xo)] [(.int (1 : Int32))])) _
    exact retN X5 hx (t := .boolean) Bd.returns (by simp) (hb hby d12_24) hr
  · show Qadd2 Z a xo y0 y1 mc b kb h0 n0 _ T5.heap _
    exact ⟨rfl, N5, K5, r5_1, r5_2, r5_3, r5_4, r5_5, r5_6⟩
theorem d20_0 : decode jdk_41_method_11_code 0 = .ok (.iload_n 0, 1) := by decide +kernel
theorem d20_1 : decode jdk_41_method_11_code 1 = .ok (.ifCond .lt 8, 3) := by decide +kernel
theorem d20_4 : decode jdk_41_method_11_code 4 = .ok (.iload_n 0, 1) := by decide +kernel
theorem d20_5 : decode jdk_41_method_11_code 5 = .ok (.iload_n 1, 1) := by decide +kernel
theorem d20_6 : decode jdk_41_method_11_code 6 = .ok (.if_icmp .lt 10, 3) := by decide +kernel
theorem d20_16 : decode jdk_41_method_11_code 16 = .ok (.iload_n 0, 1) := by decide +kernel
theorem d20_17 : decode jdk_41_method_11_code 17 = .ok (.ireturn, 1) := by decide +kernel
abbrev mN16 : MethodName := ⟨"jdk/internal/util/Preconditions", "checkIndex", "(IILjava/util/function/BiFunction;)I"⟩
theorem ef_pchk (m : MethodId) (x0 : Int32) (x1 : Int32) : entryFrame m #[(.int x0), (.int x1), .null] 3 = mkF m 0 #[.val (.int x0), .val (.int x1), .val .null] [] := by first | (simp [entryFrame, mkF, argsToLocals, Value.category]; done) | rfl
def Qpchk (Z : State) (i : Int32) (n : Int32) (h0 : Heap) (n0 : Nat) (v : Option Value) (h : Heap) (L : List Loc) : Prop := v = some (.int i) ∧ Fr n0 L ∧ h = h0
theorem pn_jdk_internal_util_Preconditions : plainName "jdk/internal/util/Preconditions" = true := by first | (simp [plainName, overriddenIn]; done) | decide +kernel
set_option maxRecDepth 65536 in
set_option maxHeartbeats 40000000 in
theorem rmpchk (l : Launch) (Z : State) (a0 : Array Value) (hw : ∀ d ∈ tables_1, d.before a0 Z = true) (ws : List Jvm.Cond) (i : Int32) (n : Int32) (h0 : Heap) (n0 : Nat) (O0 : Old Z n0 h0) (h1 : (¬ (i < (0 : Int32)))) (h2 : (i < n)) :
    MetFree l mN16 (head1 (Jvm.Cond.code mN16 jdk_41_method_11_code 3 (some .int) :: ws) ({ frames := 0, cells := 0, slots := 0, locals := 0 } : Room)) (fun as_ U => as_ = #[(.int i), (.int n), .null] ∧ Z.Warmed39 U.vm ∧ U.heap = h0) (fun _ _ _ _ _ => True) (fun _ U o U' => ∃ v L, o = .returned v ∧ Qpchk Z i n h0 n0 v U'.heap L ∧ FrameEnd U o U' L ({ frames := 0, cells := 0, slots := 0, locals := 0 } : Room).cells ({ frames := 0, cells := 0, slots := 0, locals := 0 } : Room).slots) := by
  refine MetFree.of_bodySF (plainFor_of_name pn_jdk_internal_util_Preconditions) hisR ?_
  intro p e s m args below meth c s₁ Bd hml0 hP hK
  obtain ⟨rfl, hZ, hh⟩ := hP
  have hx := Bd.exec
  have hby := Bd.bytes
  have hml : c.maxLocals = 3 := hml0
  have hown : s.vm.findClass "jdk/internal/util/Preconditions" = some m.cls := findClass_of_methodNamed Bd.named
  have hnm := (name_of_methodNamed Bd.named Bd.method).1
  have X0 : Stand p l e ({ frames := 0, cells := 0, slots := 0, locals := 0 } : Room) s m #[(.int i), (.int n), .null] below meth c s₁ [] 0 0 := Stand.of_body Bd
  have e0 : s₁.heap = h0 := by rw [← hh, Bd.state]; rfl
  have N0 := Fr.nil n0
  have Z0 := own_z0 O0
  have pre0 : ∀ tg_, Steps p.tables e below (s₁.setTop (mkF m 0 #[.val (.int i), .val (.int n), .val .null] [])) tg_ → Steps p.tables e below (s₁.setTop (entryFrame m #[(.int i), (.int n), .null] 3)) tg_ := fun tg_ kt_ => castTop (ef_pchk m i n) kt_
  obtain ⟨fs, hr, hrun, hended, hW, hsame⟩ := X0.leave (v := some (.int i)) (fun h => by rw [Bd.returns] at h; cases h)
  refine ⟨_, _, pre0 _ ?_, hrun, hended, _, _, rfl, ?_, ⟨_, rfl⟩, hW, hsame.mono (by decide) (by decide)⟩
  · refine XS.iloadN X0.here hx rfl (hb hby d20_0) rfl ?_
    refine XS.ifNo X0.here hx rfl (hb hby d20_1) rfl ((if0 _ _).trans (flt h1).1) ?_
    refine XS.iloadN X0.here hx rfl (hb hby d20_4) rfl ?_
    show Steps p.tables e below (s₁.setTop (mkF m 5 #[.val (.int i), .val (.int n), .val .null] [(.int i)])) _
    refine XS.iloadN X0.here hx rfl (hb hby d20_5) rfl ?_
    refine XS.icmpYes X0.here hx rfl (pc0 := 6) (pc' := 16) rfl (hb hby d20_6) rfl (tlt h2).1 (by decide) (by decide) ?_
    refine XS.iloadN X0.here hx rfl (hb hby d20_16) rfl ?_
    show Steps p.tables e below (s₁.setTop (mkF m 17 #[.val (.int i), .val (.int n), .val .null] [(.int i)])) _
    exact retI X0 hx Bd.returns (hb hby d20_17) hr
  · show Qpchk Z i n h0 n0 _ s₁.heap _
    rw [e0]
    exact ⟨rfl, N0, rfl⟩
theorem d19_0 : decode jdk_31_method_17_code 0 = .ok (.iload_n 0, 1) := by decide +kernel
theorem d19_1 : decode jdk_31_method_17_code 1 = .ok (.iload_n 1, 1) := by decide +kernel
theorem d19_2 : decode jdk_31_method_17_code 2 = .ok (.aconst_null, 1) := by decide +kernel
theorem w_128 : (Jvm.Cond.methodLink "java/util/Objects" (105 : Nat) ({ cls := "jdk/internal/util/Preconditions", name := "checkIndex", desc := "(IILjava/util/function/BiFunction;)I" } : Jvm.MethodName)) ∈ tables_1 := List.mem_of_getElem? (i := 128) (by decide +kernel)
theorem w_131 : (Jvm.Cond.code ({ cls := "jdk/internal/util/Preconditions", name := "checkIndex", desc := "(IILjava/util/function/BiFunction;)I" } : Jvm.MethodName) jdk_41_method_11_code (3 : Nat) (Option.some Jvm.ClassFile.FieldType.int)) ∈ tables_1 := List.mem_of_getElem? (i := 131) (by decide +kernel)
theorem w_130 : (Jvm.Cond.initialized "jdk/internal/util/Preconditions") ∈ tables_1 := List.mem_of_getElem? (i := 130) (by decide +kernel)
theorem pd__IILjava_util_function_BiFunction__I : parseMethodDescriptor "(IILjava/util/function/BiFunction;)I" = some ⟨[.int, .int, (.object "java/util/function/BiFunction")], some .int⟩ := by decide +kernel
theorem d19_3 : decode jdk_31_method_17_code 3 = .ok (.invokestatic 105, 3) := by decide +kernel
theorem w_129 : (Jvm.Cond.static ({ cls := "jdk/internal/util/Preconditions", name := "checkIndex", desc := "(IILjava/util/function/BiFunction;)I" } : Jvm.MethodName)) ∈ tables_1 := List.mem_of_getElem? (i := 129) (by decide +kernel)
theorem d19_6 : decode jdk_31_method_17_code 6 = .ok (.ireturn, 1) := by decide +kernel
abbrev mN17 : MethodName := ⟨"java/util/Objects", "checkIndex", "(II)I"⟩
theorem ef_ochk (m : MethodId) (x0 : Int32) (x1 : Int32) : entryFrame m #[(.int x0), (.int x1)] 2 = mkF m 0 #[.val (.int x0), .val (.int x1)] [] := by first | (simp [entryFrame, mkF, argsToLocals, Value.category]; done) | rfl
def Qochk (Z : State) (i : Int32) (n : Int32) (h0 : Heap) (n0 : Nat) (v : Option Value) (h : Heap) (L : List Loc) : Prop := v = some (.int i) ∧ Fr n0 L ∧ h = h0
theorem pn_java_util_Objects : plainName "java/util/Objects" = true := by first | (simp [plainName, overriddenIn]; done) | decide +kernel
set_option maxRecDepth 65536 in
set_option maxHeartbeats 40000000 in
theorem rmochk (l : Launch) (Z : State) (a0 : Array Value) (hw : ∀ d ∈ tables_1, d.before a0 Z = true) (ws : List Jvm.Cond) (i : Int32) (n : Int32) (h0 : Heap) (n0 : Nat) (O0 : Old Z n0 h0) (h1 : (¬ (i < (0 : Int32)))) (h2 : (i < n)) :
    MetFree l mN17 (head1 (Jvm.Cond.code mN17 jdk_31_method_17_code 2 (some .int) :: ws) ({ frames := 1, cells := 0, slots := 0, locals := 14 } : Room)) (fun as_ U => as_ = #[(.int i), (.int n)] ∧ Z.Warmed39 U.vm ∧ U.heap = h0) (fun _ _ _ _ _ => True) (fun _ U o U' => ∃ v L, o = .returned v ∧ Qochk Z i n h0 n0 v U'.heap L ∧ FrameEnd U o U' L ({ frames := 1, cells := 0, slots := 0, locals := 14 } : Room).cells ({ frames := 1, cells := 0, slots := 0, locals := 14 } : Room).slots) := by
  refine MetFree.of_bodySF (plainFor_of_name pn_java_util_Objects) hisR ?_
  intro p e s m args below meth c s₁ Bd hml0 hP hK
  obtain ⟨rfl, hZ, hh⟩ := hP
  have hx := Bd.exec
  have hby := Bd.bytes
  have hml : c.maxLocals = 2 := hml0
  have hown : s.vm.findClass "java/util/Objects" = some m.cls := findClass_of_methodNamed Bd.named
  have hnm := (name_of_methodNamed Bd.named Bd.method).1
  have X0 : Stand p l e ({ frames := 1, cells := 0, slots := 0, locals := 14 } : Room) s m #[(.int i), (.int n)] below meth c s₁ [] 0 0 := Stand.of_body Bd
  have e0 : s₁.heap = h0 := by rw [← hh, Bd.state]; rfl
  have N0 := Fr.nil n0
  have Z0 := own_z0 O0
  have pre0 : ∀ tg_, Steps p.tables e below (s₁.setTop (mkF m 0 #[.val (.int i), .val (.int n)] [])) tg_ → Steps p.tables e below (s₁.setTop (entryFrame m #[(.int i), (.int n)] 2)) tg_ := fun tg_ kt_ => castTop (ef_ochk m i n) kt_
  obtain ⟨_, _, ⟨T1, L1, k1, n1⟩, -, X1, ⟨Lc1, hQ1, l1, y1, z1⟩, st1⟩ := Jvm.LawKit.callS X0 hx (y := mN16) hown (mvT hZ (hw _ w_128)) (mvT hZ (hw _ w_129)) (mvT hZ (hw _ w_130)) (mvT hZ (hw _ w_131)) (by decide) (backOf (W := 0) (rmpchk l Z a0 hw [] i n h0 n0 O0 h1 h2) hZ (hw _ w_131) (hw _ w_130) (by decide) (by decide)) (g := (mkF m 3 #[.val (.int i), .val (.int n)] [.null, (.int n), (.int i)])) rfl (by rw [hml]; rfl) (argsL := [(.int i), (.int n), .null]) (rest := []) (lenOf pd__IILjava_util_function_BiFunction__I rfl) rfl (by show 2 * 0 + _ ≤ _; exact Nat.le_of_eq rfl) (hb hby d19_3) (fun _ _ => ⟨rfl, e0, (by decide : 0 + 0 ≤ _), (by decide : 0 + 0 ≤ _)⟩)
  dsimp only [Pt.U, Pt.locs, Pt.cells, Pt.slots] at X1 l1 y1 z1 st1 hQ1
  subst l1 y1 z1
  obtain ⟨rfl, N1q, eh1⟩ := hQ1
  have N1 := Fr.app N0 N1q
  obtain ⟨fs, hr, hrun, hended, hW, hsame⟩ := X1.leave (v := some (.int i)) (fun h => by rw [Bd.returns] at h; cases h)
  refine ⟨_, _, pre0 _ ?_, hrun, hended, _, _, rfl, ?_, ⟨_, rfl⟩, hW, hsame.mono (by decide) (by decide)⟩
  · refine XS.iloadN X0.here hx rfl (hb hby d19_0) rfl ?_
    refine XS.iloadN X0.here hx rfl (hb hby d19_1) rfl ?_
    refine XS.aconstNull X0.here hx rfl (hb hby d19_2) ?_
    show Steps p.tables e below (s₁.setTop (mkF m 3 #[.val (.int i), .val (.int n)] [.null, (.int n), (.int i)])) _
    refine st1 _ ?_
    show Steps p.tables e below (T1.setTop (mkF m 6 #[.val (.int i), .val (.int n)] [(.int i)])) _
    exact retI X1 hx Bd.returns (hb hby d19_6) hr
  · show Qochk Z i n h0 n0 _ T1.heap _
    rw [eh1]
    exact ⟨rfl, N1, rfl⟩
theorem d21_0 : decode jdk_38_method_18_code 0 = .ok (.aload_n 0, 1) := by decide +kernel
theorem d21_1 : decode jdk_38_method_18_code 1 = .ok (.getfield 9, 3) := by decide +kernel
theorem d21_4 : decode jdk_38_method_18_code 4 = .ok (.iload_n 1, 1) := by decide +kernel
theorem d21_5 : decode jdk_38_method_18_code 5 = .ok (.aaload, 1) := by decide +kernel
theorem d21_6 : decode jdk_38_method_18_code 6 = .ok (.areturn, 1) := by decide +kernel
abbrev mN18 : MethodName := ⟨"java/util/ArrayList", "elementData", "(I)Ljava/lang/Object;"⟩
theorem ef_elemD1 (m : MethodId) (x0 : Addr) (x1 : Int32) : entryFrame m #[(.ref x0), (.int x1)] 2 = mkF m 0 #[.val (.ref x0), .val (.int x1)] [] := by first | (simp [entryFrame, mkF, argsToLocals, Value.category]; done) | rfl
def QelemD1 (Z : State) (a : Addr) (y0 : Addr) (b : Addr) (kb : ClassId) (h0 : Heap) (n0 : Nat) (v : Option Value) (h : Heap) (L : List Loc) : Prop := v = some (.ref y0) ∧ Fr n0 L ∧ h = h0
set_option maxRecDepth 65536 in
set_option maxHeartbeats 40000000 in
theorem rmelemD1 (l : Launch) (Z : State) (a0 : Array Value) (hw : ∀ d ∈ tables_1, d.before a0 Z = true) (ws : List Jvm.Cond) (a : Addr) (y0 : Addr) (b : Addr) (kb : ClassId) (h0 : Heap) (n0 : Nat) (O0 : Old Z n0 h0) (hp0 : Fld Z h0 a "java/util/ArrayList" "elementData" "[Ljava/lang/Object;" (.ref b)) (hp1 : Arv Z h0 b kb (.object "java/lang/Object") (10 : Int32) [(.ref y0), .null, .null, .null, .null, .null, .null, .null, .null, .null] .null) :
    MetFree l mN18 (head1 (Jvm.Cond.code mN18 jdk_38_method_18_code 2 (some (.object "java/lang/Object")) :: ws) ({ frames := 0, cells := 0, slots := 0, locals := 0 } : Room)) (fun as_ U => as_ = #[(.ref a), (.int (0 : Int32))] ∧ Z.Warmed39 U.vm ∧ U.heap = h0) (fun _ _ _ _ _ => True) (fun _ U o U' => ∃ v L, o = .returned v ∧ QelemD1 Z a y0 b kb h0 n0 v U'.heap L ∧ FrameEnd U o U' L ({ frames := 0, cells := 0, slots := 0, locals := 0 } : Room).cells ({ frames := 0, cells := 0, slots := 0, locals := 0 } : Room).slots) := by
  refine MetFree.of_bodySF (plainFor_of_name pn_java_util_ArrayList) hisR ?_
  intro p e s m args below meth c s₁ Bd hml0 hP hK
  obtain ⟨rfl, hZ, hh⟩ := hP
  have hx := Bd.exec
  have hby := Bd.bytes
  have hml : c.maxLocals = 2 := hml0
  have hown : s.vm.findClass "java/util/ArrayList" = some m.cls := findClass_of_methodNamed Bd.named
  have hnm := (name_of_methodNamed Bd.named Bd.method).1
  have X0 : Stand p l e ({ frames := 0, cells := 0, slots := 0, locals := 0 } : Room) s m #[(.ref a), (.int (0 : Int32))] below meth c s₁ [] 0 0 := Stand.of_body Bd
  have e0 : s₁.heap = h0 := by rw [← hh, Bd.state]; rfl
  have N0 := Fr.nil n0
  have Z0 := own_z0 O0
  have pre0 : ∀ tg_, Steps p.tables e below (s₁.setTop (mkF m 0 #[.val (.ref a), .val (.int (0 : Int32))] [])) tg_ → Steps p.tables e below (s₁.setTop (entryFrame m #[(.ref a), (.int (0 : Int32))] 2)) tg_ := fun tg_ kt_ => castTop (ef_elemD1 m a (0 : Int32)) kt_
  obtain ⟨T1, X1, e1, st1⟩ := getF X0 hx hZ hown (host := "") (Or.inl (hw _ w_76)) Via.refl e0 hp0 (g := (mkF m 1 #[.val (.ref a), .val (.int (0 : Int32))] [(.ref a)])) rfl rfl (hb hby d21_1)
  obtain ⟨cl2, Ar2, -, S2, Ng2, H2, G2⟩ := id hp1
  have hin2 : ¬ ((0 : Int32) < 0 ∨ cl2.slots.size ≤ ((0 : Int32)).toNatClampNeg) := inb_of S2 ⟨by decide, by decide⟩
  have hat2 : cl2.slots[((0 : Int32)).toNatClampNeg]? = some (.ref y0) := H2.at hin2 rfl
  obtain ⟨fs, hr, hrun, hended, hW, hsame⟩ := X1.leave (v := some (.ref y0)) (fun h => by rw [Bd.returns] at h; cases h)
  refine ⟨_, _, pre0 _ ?_, hrun, hended, _, _, rfl, ?_, ⟨_, rfl⟩, hW, hsame.mono (by decide) (by decide)⟩
  · refine XS.aloadN X0.here hx rfl (hb hby d21_0) rfl rfl ?_
    show Steps p.tables e below (s₁.setTop (mkF m 1 #[.val (.ref a), .val (.int (0 : Int32))] [(.ref a)])) _
    refine st1 _ ?_
    refine XS.iloadN X1.here hx rfl (hb hby d21_4) rfl ?_
    refine X1.aaload hx (j := (0 : Int32)) (v := (.ref y0)) (by rw [e1]; exact Ar2.1) (State.isArrayOf_alike hZ.alike Ar2.2.1) rfl Ar2.2.2 hin2 hat2 (g := (mkF m 5 #[.val (.ref a), .val (.int (0 : Int32))] [(.int (0 : Int32)), (.ref b)])) rfl rfl (hb hby d21_5) _ ?_
    show Steps p.tables e below (T1.setTop (mkF m 6 #[.val (.ref a), .val (.int (0 : Int32))] [(.ref y0)])) _
    jvm_step X1.here [X1.here.top, hx, (hb hby d21_6), X1.method', Bd.returns, Value.isRef, FieldType.isReference]
    first | (intro acts; rw [hr _ acts rfl rfl rfl]) | rw [hr _ _ rfl rfl rfl]
    exact Steps.refl _
  · show QelemD1 Z a y0 b kb h0 n0 _ T1.heap _
    rw [e1]
    exact ⟨rfl, N0, rfl⟩
theorem d18_0 : decode jdk_38_method_20_code 0 = .ok (.iload_n 1, 1) := by decide +kernel
theorem d18_1 : decode jdk_38_method_20_code 1 = .ok (.aload_n 0, 1) := by decide +kernel
theorem d18_2 : decode jdk_38_method_20_code 2 = .ok (.getfield 48, 3) := by decide +kernel
theorem w_124 : (Jvm.Cond.methodLink "java/util/ArrayList" (118 : Nat) ({ cls := "java/util/Objects", name := "checkIndex", desc := "(II)I" } : Jvm.MethodName)) ∈ tables_1 := List.mem_of_getElem? (i := 124) (by decide +kernel)
theorem w_127 : (Jvm.Cond.code ({ cls := "java/util/Objects", name := "checkIndex", desc := "(II)I" } : Jvm.MethodName) jdk_31_method_17_code (2 : Nat) (Option.some Jvm.ClassFile.FieldType.int)) ∈ tables_1 := List.mem_of_getElem? (i := 127) (by decide +kernel)
theorem w_126 : (Jvm.Cond.initialized "java/util/Objects") ∈ tables_1 := List.mem_of_getElem? (i := 126) (by decide +kernel)
theorem d18_5 : decode jdk_38_method_20_code 5 = .ok (.invokestatic 118, 3) := by decide +kernel
theorem w_125 : (Jvm.Cond.static ({ cls := "java/util/Objects", name := "checkIndex", desc := "(II)I" } : Jvm.MethodName)) ∈ tables_1 := List.mem_of_getElem? (i := 125) (by decide +kernel)
theorem d18_8 : decode jdk_38_method_20_code 8 = .ok (.pop, 1) := by decide +kernel
theorem d18_9 : decode jdk_38_method_20_code 9 = .ok (.aload_n 0, 1) := by decide +kernel
theorem d18_10 : decode jdk_38_method_20_code 10 = .ok (.iload_n 1, 1) := by decide +kernel
theorem w_132 : (Jvm.Cond.methodLink "java/util/ArrayList" (123 : Nat) ({ cls := "java/util/ArrayList", name := "elementData", desc := "(I)Ljava/lang/Object;" } : Jvm.MethodName)) ∈ tables_1 := List.mem_of_getElem? (i := 132) (by decide +kernel)
theorem w_136 : (Jvm.Cond.code ({ cls := "java/util/ArrayList", name := "elementData", desc := "(I)Ljava/lang/Object;" } : Jvm.MethodName) jdk_38_method_18_code (2 : Nat) (Option.some (Jvm.ClassFile.FieldType.object "java/lang/Object"))) ∈ tables_1 := List.mem_of_getElem? (i := 136) (by decide +kernel)
theorem pd__I_Ljava_lang_Object_ : parseMethodDescriptor "(I)Ljava/lang/Object;" = some ⟨[.int], some (.object "java/lang/Object")⟩ := by decide +kernel
theorem d18_11 : decode jdk_38_method_20_code 11 = .ok (.invokevirtual 123, 3) := by decide +kernel
theorem w_135 : (Jvm.Cond.selects "java/util/ArrayList" ({ cls := "java/util/ArrayList", name := "elementData", desc := "(I)Ljava/lang/Object;" } : Jvm.MethodName) ({ cls := "java/util/ArrayList", name := "elementData", desc := "(I)Ljava/lang/Object;" } : Jvm.MethodName)) ∈ tables_1 := List.mem_of_getElem? (i := 135) (by decide +kernel)
theorem w_133 : (Jvm.Cond.declares ({ cls := "java/util/ArrayList", name := "elementData", desc := "(I)Ljava/lang/Object;" } : Jvm.MethodName)) ∈ tables_1 := List.mem_of_getElem? (i := 133) (by decide +kernel)
theorem w_134 : (Jvm.Cond.instanceMethod ({ cls := "java/util/ArrayList", name := "elementData", desc := "(I)Ljava/lang/Object;" } : Jvm.MethodName)) ∈ tables_1 := List.mem_of_getElem? (i := 134) (by decide +kernel)
theorem d18_14 : decode jdk_38_method_20_code 14 = .ok (.areturn, 1) := by decide +kernel
abbrev mN19 : MethodName := ⟨"java/util/ArrayList", "get", "(I)Ljava/lang/Object;"⟩
theorem ef_alGet1 (m : MethodId) (x0 : Addr) (x1 : Int32) : entryFrame m #[(.ref x0), (.int x1)] 2 = mkF m 0 #[.val (.ref x0), .val (.int x1)] [] := by first | (simp [entryFrame, mkF, argsToLocals, Value.category]; done) | rfl
def QalGet1 (Z : State) (a : Addr) (y0 : Addr) (b : Addr) (kb : ClassId) (h0 : Heap) (n0 : Nat) (v : Option Value) (h : Heap) (L : List Loc) : Prop := v = some (.ref y0) ∧ Fr n0 L ∧ h = h0
set_option maxRecDepth 65536 in
set_option maxHeartbeats 40000000 in
theorem rmalGet1 (l : Launch) (Z : State) (a0 : Array Value) (hw : ∀ d ∈ tables_1, d.before a0 Z = true) (ws : List Jvm.Cond) (a : Addr) (y0 : Addr) (b : Addr) (kb : ClassId) (h0 : Heap) (n0 : Nat) (O0 : Old Z n0 h0) (hp0 : Exa Z h0 a "java/util/ArrayList") (hp1 : Fld Z h0 a "java/util/ArrayList" "elementData" "[Ljava/lang/Object;" (.ref b)) (hp2 : Fld Z h0 a "java/util/ArrayList" "size" "I" (.int (1 : Int32))) (hp3 : Arv Z h0 b kb (.object "java/lang/Object") (10 : Int32) [(.ref y0), .null, .null, .null, .null, .null, .null, .null, .null, .null] .null) :
    MetFree l mN19 (head1 (Jvm.Cond.code mN19 jdk_38_method_20_code 2 (some (.object "java/lang/Object")) :: ws) ({ frames := 2, cells := 0, slots := 0, locals := 27 } : Room)) (fun as_ U => as_ = #[(.ref a), (.int (0 : Int32))] ∧ Z.Warmed39 U.vm ∧ U.heap = h0) (fun _ _ _ _ _ => True) (fun _ U o U' => ∃ v L, o = .returned v ∧ QalGet1 Z a y0 b kb h0 n0 v U'.heap L ∧ FrameEnd U o U' L ({ frames := 2, cells := 0, slots := 0, locals := 27 } : Room).cells ({ frames := 2, cells := 0, slots := 0, locals := 27 } : Room).slots) := by
  refine MetFree.of_bodySF (plainFor_of_name pn_java_util_ArrayList) hisR ?_
  intro p e s m args below meth c s₁ Bd hml0 hP hK
  obtain ⟨rfl, hZ, hh⟩ := hP
  have hx := Bd.exec
  have hby := Bd.bytes
  have hml : c.maxLocals = 2 := hml0
  have hown : s.vm.findClass "java/util/ArrayList" = some m.cls := findClass_of_methodNamed Bd.named
  have hnm := (name_of_methodNamed Bd.named Bd.method).1
  have X0 : Stand p l e ({ frames := 2, cells := 0, slots := 0, locals := 27 } : Room) s m #[(.ref a), (.int (0 : Int32))] below meth c s₁ [] 0 0 := Stand.of_body Bd
  have e0 : s₁.heap = h0 := by rw [← hh, Bd.state]; rfl
  have N0 := Fr.nil n0
  have Z0 := own_z0 O0
  have pre0 : ∀ tg_, Steps p.tables e below (s₁.setTop (mkF m 0 #[.val (.ref a), .val (.int (0 : Int32))] [])) tg_ → Steps p.tables e below (s₁.setTop (entryFrame m #[(.ref a), (.int (0 : Int32))] 2)) tg_ := fun tg_ kt_ => castTop (ef_alGet1 m a (0 : Int32)) kt_
  obtain ⟨T1, X1, e1, st1⟩ := getF X0 hx hZ hown (host := "") (Or.inl (hw _ w_85)) Via.refl e0 hp2 (g := (mkF m 2 #[.val (.ref a), .val (.int (0 : Int32))] [(.ref a), (.int (0 : Int32))])) rfl rfl (hb hby d18_2)
  obtain ⟨_, _, ⟨T2, L2, k2, n2⟩, -, X2, ⟨Lc2, hQ2, l2, y2, z2⟩, st2⟩ := Jvm.LawKit.callS X1 hx (y := mN17) hown (mvT hZ (hw _ w_124)) (mvT hZ (hw _ w_125)) (mvT hZ (hw _ w_126)) (mvT hZ (hw _ w_127)) (by decide) (backOf (W := 0) (rmochk l Z a0 hw [] (0 : Int32) (1 : Int32) h0 n0 O0 (by decide) (by decide)) hZ (hw _ w_127) (hw _ w_126) (by decide) (by decide)) (g := (mkF m 5 #[.val (.ref a), .val (.int (0 : Int32))] [(.int (1 : Int32)), (.int (0 : Int32))])) rfl (by rw [hml]; rfl) (argsL := [(.int (0 : Int32)), (.int (1 : Int32))]) (rest := []) (lenOf pd__II_I rfl) rfl (by show 2 * 0 + _ ≤ _; exact Nat.le_of_eq rfl) (hb hby d18_5) (fun _ _ => ⟨rfl, e1, (by decide : 0 + 0 ≤ _), (by decide : 0 + 0 ≤ _)⟩)
  dsimp only [Pt.U, Pt.locs, Pt.cells, Pt.slots] at X2 l2 y2 z2 st2 hQ2
  subst l2 y2 z2
  obtain ⟨rfl, N2q, eh2⟩ := hQ2
  have N2 := Fr.app N0 N2q
  obtain ⟨cq3, kq3, q3a, q3b, q3c⟩ := isOf hZ eh2 hp0
  obtain ⟨_, _, ⟨T3, L3, k3, n3⟩, -, X3, ⟨Lc3, hQ3, l3, y3, z3⟩, st3⟩ := X2.virtualBack hx (y := mN18) (z := mN18) hown (mvT hZ (hw _ w_132)) (mvT hZ (hw _ w_133)) (notFace_of_selects (args := #[]) (mvT hZ (hw _ w_135))) (mvT hZ (hw _ w_135)) (mvT hZ (hw _ w_134)) (by decide) (backOf (W := 0) (rmelemD1 l Z a0 hw [] a y0 b kb h0 n0 O0 hp1 hp3) hZ (hw _ w_136) (hw _ w_56) (by decide) (by decide)) q3a q3c (g := (mkF m 11 #[.val (.ref a), .val (.int (0 : Int32))] [(.int (0 : Int32)), (.ref a)])) rfl (by rw [hml]; rfl) (Steps.refl _) (argsL := [(.int (0 : Int32))]) (rest := []) (lenOf pd__I_Ljava_lang_Object_ rfl) rfl (by show 2 * 0 + _ ≤ _; exact Nat.le_of_eq rfl) (hb hby d18_11) (fun _ _ => ⟨rfl, eh2, (by decide : 0 + 0 ≤ _), (by decide : 0 + 0 ≤ _)⟩)
  dsimp only [Pt.U, Pt.locs, Pt.cells, Pt.slots] at X3 l3 y3 z3 st3 hQ3
  subst l3 y3 z3
  obtain ⟨rfl, N3q, eh3⟩ := hQ3
  have N3 := Fr.app N2 N3q
  obtain ⟨fs, hr, hrun, hended, hW, hsame⟩ := X3.leave (v := some (.ref y0)) (fun h => by rw [Bd.returns] at h; cases h)
  refine ⟨_, _, pre0 _ ?_, hrun, hended, _, _, rfl, ?_, ⟨_, rfl⟩, hW, hsame.mono (by decide) (by decide)⟩
  · refine XS.iloadN X0.here hx rfl (hb hby d18_0) rfl ?_
    refine XS.aloadN X0.here hx rfl (hb hby d18_1) rfl rfl ?_
    show Steps p.tables e below (s₁.setTop (mkF m 2 #[.val (.ref a), .val (.int (0 : Int32))] [(.ref a), (.int (0 : Int32))])) _
    refine st1 _ ?_
    show Steps p.tables e below (T1.setTop (mkF m 5 #[.val (.ref a), .val (.int (0 : Int32))] [(.int (1 : Int32)), (.int (0 : Int32))])) _
    refine st2 _ ?_
    refine XS.pop X2.here hx rfl (hb hby d18_8) rfl rfl ?_
    refine XS.aloadN X2.here hx rfl (hb hby d18_9) rfl rfl ?_
    refine XS.iloadN X2.here hx rfl (hb hby d18_10) rfl ?_
    show Steps p.tables e below (T2.setTop (mkF m 11 #[.val (.ref a), .val (.int (0 : Int32))] [(.int (0 : Int32)), (.ref a)])) _
    refine st3.trans ?_
    show Steps p.tables e below (T3.setTop (mkF m 14 #[.val (.ref a), .val (.int (0 : Int32))] [(.ref y0)])) _
    jvm_step X3.here [X3.here.top, hx, (hb hby d18_14), X3.method', Bd.returns, Value.isRef, FieldType.isReference]
    first | (intro acts; rw [hr _ acts rfl rfl rfl]) | rw [hr _ _ rfl rfl rfl]
    exact Steps.refl _
  · show QalGet1 Z a y0 b kb h0 n0 _ T3.heap _
    rw [eh3]
    exact ⟨rfl, N3, rfl⟩
theorem ef_elemD2 (m : MethodId) (x0 : Addr) (x1 : Int32) : entryFrame m #[(.ref x0), (.int x1)] 2 = mkF m 0 #[.val (.ref x0), .val (.int x1)] [] := by first | (simp [entryFrame, mkF, argsToLocals, Value.category]; done) | rfl
def QelemD2 (Z : State) (a : Addr) (y0 : Addr) (y1 : Addr) (b : Addr) (kb : ClassId) (h0 : Heap) (n0 : Nat) (v : Option Value) (h : Heap) (L : List Loc) : Prop := v = some (.ref y0) ∧ Fr n0 L ∧ h = h0
set_option maxRecDepth 65536 in
set_option maxHeartbeats 40000000 in
theorem rmelemD2 (l : Launch) (Z : State) (a0 : Array Value) (hw : ∀ d ∈ tables_1, d.before a0 Z = true) (ws : List Jvm.Cond) (a : Addr) (y0 : Addr) (y1 : Addr) (b : Addr) (kb : ClassId) (h0 : Heap) (n0 : Nat) (O0 : Old Z n0 h0) (hp0 : Fld Z h0 a "java/util/ArrayList" "elementData" "[Ljava/lang/Object;" (.ref b)) (hp1 : Arv Z h0 b kb (.object "java/lang/Object") (10 : Int32) [(.ref y0), (.ref y1), .null, .null, .null, .null, .null, .null, .null, .null] .null) :
    MetFree l mN18 (head1 (Jvm.Cond.code mN18 jdk_38_method_18_code 2 (some (.object "java/lang/Object")) :: ws) ({ frames := 0, cells := 0, slots := 0, locals := 0 } : Room)) (fun as_ U => as_ = #[(.ref a), (.int (0 : Int32))] ∧ Z.Warmed39 U.vm ∧ U.heap = h0) (fun _ _ _ _ _ => True) (fun _ U o U' => ∃ v L, o = .returned v ∧ QelemD2 Z a y0 y1 b kb h0 n0 v U'.heap L ∧ FrameEnd U o U' L ({ frames := 0, cells := 0, slots := 0, locals := 0 } : Room).cells ({ frames := 0, cells := 0, slots := 0, locals := 0 } : Room).slots) := by
  refine MetFree.of_bodySF (plainFor_of_name pn_java_util_ArrayList) hisR ?_
  intro p e s m args below meth c s₁ Bd hml0 hP hK
  obtain ⟨rfl, hZ, hh⟩ := hP
  have hx := Bd.exec
  have hby := Bd.bytes
  have hml : c.maxLocals = 2 := hml0
  have hown : s.vm.findClass "java/util/ArrayList" = some m.cls := findClass_of_methodNamed Bd.named
  have hnm := (name_of_methodNamed Bd.named Bd.method).1
  have X0 : Stand p l e ({ frames := 0, cells := 0, slots := 0, locals := 0 } : Room) s m #[(.ref a), (.int (0 : Int32))] below meth c s₁ [] 0 0 := Stand.of_body Bd
  have e0 : s₁.heap = h0 := by rw [← hh, Bd.state]; rfl
  have N0 := Fr.nil n0
  have Z0 := own_z0 O0
  have pre0 : ∀ tg_, Steps p.tables e below (s₁.setTop (mkF m 0 #[.val (.ref a), .val (.int (0 : Int32))] [])) tg_ → Steps p.tables e below (s₁.setTop (entryFrame m #[(.ref a), (.int (0 : Int32))] 2)) tg_ := fun tg_ kt_ => castTop (ef_elemD2 m a (0 : Int32)) kt_
  obtain ⟨T1, X1, e1, st1⟩ := getF X0 hx hZ hown (host := "") (Or.inl (hw _ w_76)) Via.refl e0 hp0 (g := (mkF m 1 #[.val (.ref a), .val (.int (0 : Int32))] [(.ref a)])) rfl rfl (hb hby d21_1)
  obtain ⟨cl2, Ar2, -, S2, Ng2, H2, G2⟩ := id hp1
  have hin2 : ¬ ((0 : Int32) < 0 ∨ cl2.slots.size ≤ ((0 : Int32)).toNatClampNeg) := inb_of S2 ⟨by decide, by decide⟩
  have hat2 : cl2.slots[((0 : Int32)).toNatClampNeg]? = some (.ref y0) := H2.at hin2 rfl
  obtain ⟨fs, hr, hrun, hended, hW, hsame⟩ := X1.leave (v := some (.ref y0)) (fun h => by rw [Bd.returns] at h; cases h)
  refine ⟨_, _, pre0 _ ?_, hrun, hended, _, _, rfl, ?_, ⟨_, rfl⟩, hW, hsame.mono (by decide) (by decide)⟩
  · refine XS.aloadN X0.here hx rfl (hb hby d21_0) rfl rfl ?_
    show Steps p.tables e below (s₁.setTop (mkF m 1 #[.val (.ref a), .val (.int (0 : Int32))] [(.ref a)])) _
    refine st1 _ ?_
    refine XS.iloadN X1.here hx rfl (hb hby d21_4) rfl ?_
    refine X1.aaload hx (j := (0 : Int32)) (v := (.ref y0)) (by rw [e1]; exact Ar2.1) (State.isArrayOf_alike hZ.alike Ar2.2.1) rfl Ar2.2.2 hin2 hat2 (g := (mkF m 5 #[.val (.ref a), .val (.int (0 : Int32))] [(.int (0 : Int32)), (.ref b)])) rfl rfl (hb hby d21_5) _ ?_
    show Steps p.tables e below (T1.setTop (mkF m 6 #[.val (.ref a), .val (.int (0 : Int32))] [(.ref y0)])) _
    jvm_step X1.here [X1.here.top, hx, (hb hby d21_6), X1.method', Bd.returns, Value.isRef, FieldType.isReference]
    first | (intro acts; rw [hr _ acts rfl rfl rfl]) | rw [hr _ _ rfl rfl rfl]
    exact Steps.refl _
  · show QelemD2 Z a y0 y1 b kb h0 n0 _ T1.heap _
    rw [e1]
    exact ⟨rfl, N0, rfl⟩
theorem ef_alGet2 (m : MethodId) (x0 : Addr) (x1 : Int32) : entryFrame m #[(.ref x0), (.int x1)] 2 = mkF m 0 #[.val (.ref x0), .val (.int x1)] [] := by first | (simp [entryFrame, mkF, argsToLocals, Value.category]; done) | rfl
def QalGet2 (Z : State) (a : Addr) (y0 : Addr) (y1 : Addr) (b : Addr) (kb : ClassId) (h0 : Heap) (n0 : Nat) (v : Option Value) (h : Heap) (L : List Loc) : Prop := v = some (.ref y0) ∧ Fr n0 L ∧ h = h0
set_option maxRecDepth 65536 in
set_option maxHeartbeats 40000000 in
theorem rmalGet2 (l : Launch) (Z : State) (a0 : Array Value) (hw : ∀ d ∈ tables_1, d.before a0 Z = true) (ws : List Jvm.Cond) (a : Addr) (y0 : Addr) (y1 : Addr) (b : Addr) (kb : ClassId) (h0 : Heap) (n0 : Nat) (O0 : Old Z n0 h0) (hp0 : Exa Z h0 a "java/util/ArrayList") (hp1 : Fld Z h0 a "java/util/ArrayList" "elementData" "[Ljava/lang/Object;" (.ref b)) (hp2 : Fld Z h0 a "java/util/ArrayList" "size" "I" (.int (2 : Int32))) (hp3 : Arv Z h0 b kb (.object "java/lang/Object") (10 : Int32) [(.ref y0), (.ref y1), .null, .null, .null, .null, .null, .null, .null, .null] .null) :
    MetFree l mN19 (head1 (Jvm.Cond.code mN19 jdk_38_method_20_code 2 (some (.object "java/lang/Object")) :: ws) ({ frames := 2, cells := 0, slots := 0, locals := 27 } : Room)) (fun as_ U => as_ = #[(.ref a), (.int (0 : Int32))] ∧ Z.Warmed39 U.vm ∧ U.heap = h0) (fun _ _ _ _ _ => True) (fun _ U o U' => ∃ v L, o = .returned v ∧ QalGet2 Z a y0 y1 b kb h0 n0 v U'.heap L ∧ FrameEnd U o U' L ({ frames := 2, cells := 0, slots := 0, locals := 27 } : Room).cells ({ frames := 2, cells := 0, slots := 0, locals := 27 } : Room).slots) := by
  refine MetFree.of_bodySF (plainFor_of_name pn_java_util_ArrayList) hisR ?_
  intro p e s m args below meth c s₁ Bd hml0 hP hK
  obtain ⟨rfl, hZ, hh⟩ := hP
  have hx := Bd.exec
  have hby := Bd.bytes
  have hml : c.maxLocals = 2 := hml0
  have hown : s.vm.findClass "java/util/ArrayList" = some m.cls := findClass_of_methodNamed Bd.named
  have hnm := (name_of_methodNamed Bd.named Bd.method).1
  have X0 : Stand p l e ({ frames := 2, cells := 0, slots := 0, locals := 27 } : Room) s m #[(.ref a), (.int (0 : Int32))] below meth c s₁ [] 0 0 := Stand.of_body Bd
  have e0 : s₁.heap = h0 := by rw [← hh, Bd.state]; rfl
  have N0 := Fr.nil n0
  have Z0 := own_z0 O0
  have pre0 : ∀ tg_, Steps p.tables e below (s₁.setTop (mkF m 0 #[.val (.ref a), .val (.int (0 : Int32))] [])) tg_ → Steps p.tables e below (s₁.setTop (entryFrame m #[(.ref a), (.int (0 : Int32))] 2)) tg_ := fun tg_ kt_ => castTop (ef_alGet2 m a (0 : Int32)) kt_
  obtain ⟨T1, X1, e1, st1⟩ := getF X0 hx hZ hown (host := "") (Or.inl (hw _ w_85)) Via.refl e0 hp2 (g := (mkF m 2 #[.val (.ref a), .val (.int (0 : Int32))] [(.ref a), (.int (0 : Int32))])) rfl rfl (hb hby d18_2)
  obtain ⟨_, _, ⟨T2, L2, k2, n2⟩, -, X2, ⟨Lc2, hQ2, l2, y2, z2⟩, st2⟩ := Jvm.LawKit.callS X1 hx (y := mN17) hown (mvT hZ (hw _ w_124)) (mvT hZ (hw _ w_125)) (mvT hZ (hw _ w_126)) (mvT hZ (hw _ w_127)) (by decide) (backOf (W := 0) (rmochk l Z a0 hw [] (0 : Int32) (2 : Int32) h0 n0 O0 (by decide) (by decide)) hZ (hw _ w_127) (hw _ w_126) (by decide) (by decide)) (g := (mkF m 5 #[.val (.ref a), .val (.int (0 : Int32))] [(.int (2 : Int32)), (.int (0 : Int32))])) rfl (by rw [hml]; rfl) (argsL := [(.int (0 : Int32)), (.int (2 : Int32))]) (rest := []) (lenOf pd__II_I rfl) rfl (by show 2 * 0 + _ ≤ _; exact Nat.le_of_eq rfl) (hb hby d18_5) (fun _ _ => ⟨rfl, e1, (by decide : 0 + 0 ≤ _), (by decide : 0 + 0 ≤ _)⟩)
  dsimp only [Pt.U, Pt.locs, Pt.cells, Pt.slots] at X2 l2 y2 z2 st2 hQ2
  subst l2 y2 z2
  obtain ⟨rfl, N2q, eh2⟩ := hQ2
  have N2 := Fr.app N0 N2q
  obtain ⟨cq3, kq3, q3a, q3b, q3c⟩ := isOf hZ eh2 hp0
  obtain ⟨_, _, ⟨T3, L3, k3, n3⟩, -, X3, ⟨Lc3, hQ3, l3, y3, z3⟩, st3⟩ := X2.virtualBack hx (y := mN18) (z := mN18) hown (mvT hZ (hw _ w_132)) (mvT hZ (hw _ w_133)) (notFace_of_selects (args := #[]) (mvT hZ (hw _ w_135))) (mvT hZ (hw _ w_135)) (mvT hZ (hw _ w_134)) (by decide) (backOf (W := 0) (rmelemD2 l Z a0 hw [] a y0 y1 b kb h0 n0 O0 hp1 hp3) hZ (hw _ w_136) (hw _ w_56) (by decide) (by decide)) q3a q3c (g := (mkF m 11 #[.val (.ref a), .val (.int (0 : Int32))] [(.int (0 : Int32)), (.ref a)])) rfl (by rw [hml]; rfl) (Steps.refl _) (argsL := [(.int (0 : Int32))]) (rest := []) (lenOf pd__I_Ljava_lang_Object_ rfl) rfl (by show 2 * 0 + _ ≤ _; exact Nat.le_of_eq rfl) (hb hby d18_11) (fun _ _ => ⟨rfl, eh2, (by decide : 0 + 0 ≤ _), (by decide : 0 + 0 ≤ _)⟩)
  dsimp only [Pt.U, Pt.locs, Pt.cells, Pt.slots] at X3 l3 y3 z3 st3 hQ3
  subst l3 y3 z3
  obtain ⟨rfl, N3q, eh3⟩ := hQ3
  have N3 := Fr.app N2 N3q
  obtain ⟨fs, hr, hrun, hended, hW, hsame⟩ := X3.leave (v := some (.ref y0)) (fun h => by rw [Bd.returns] at h; cases h)
  refine ⟨_, _, pre0 _ ?_, hrun, hended, _, _, rfl, ?_, ⟨_, rfl⟩, hW, hsame.mono (by decide) (by decide)⟩
  · refine XS.iloadN X0.here hx rfl (hb hby d18_0) rfl ?_
    refine XS.aloadN X0.here hx rfl (hb hby d18_1) rfl rfl ?_
    show Steps p.tables e below (s₁.setTop (mkF m 2 #[.val (.ref a), .val (.int (0 : Int32))] [(.ref a), (.int (0 : Int32))])) _
    refine st1 _ ?_
    show Steps p.tables e below (T1.setTop (mkF m 5 #[.val (.ref a), .val (.int (0 : Int32))] [(.int (2 : Int32)), (.int (0 : Int32))])) _
    refine st2 _ ?_
    refine XS.pop X2.here hx rfl (hb hby d18_8) rfl rfl ?_
    refine XS.aloadN X2.here hx rfl (hb hby d18_9) rfl rfl ?_
    refine XS.iloadN X2.here hx rfl (hb hby d18_10) rfl ?_
    show Steps p.tables e below (T2.setTop (mkF m 11 #[.val (.ref a), .val (.int (0 : Int32))] [(.int (0 : Int32)), (.ref a)])) _
    refine st3.trans ?_
    show Steps p.tables e below (T3.setTop (mkF m 14 #[.val (.ref a), .val (.int (0 : Int32))] [(.ref y0)])) _
    jvm_step X3.here [X3.here.top, hx, (hb hby d18_14), X3.method', Bd.returns, Value.isRef, FieldType.isReference]
    first | (intro acts; rw [hr _ acts rfl rfl rfl]) | rw [hr _ _ rfl rfl rfl]
    exact Steps.refl _
  · show QalGet2 Z a y0 y1 b kb h0 n0 _ T3.heap _
    rw [eh3]
    exact ⟨rfl, N3, rfl⟩
theorem ef_elemD3 (m : MethodId) (x0 : Addr) (x1 : Int32) : entryFrame m #[(.ref x0), (.int x1)] 2 = mkF m 0 #[.val (.ref x0), .val (.int x1)] [] := by first | (simp [entryFrame, mkF, argsToLocals, Value.category]; done) | rfl
def QelemD3 (Z : State) (a : Addr) (y0 : Addr) (y1 : Addr) (y2 : Addr) (b : Addr) (kb : ClassId) (h0 : Heap) (n0 : Nat) (v : Option Value) (h : Heap) (L : List Loc) : Prop := v = some (.ref y0) ∧ Fr n0 L ∧ h = h0
set_option maxRecDepth 65536 in
set_option maxHeartbeats 40000000 in
theorem rmelemD3 (l : Launch) (Z : State) (a0 : Array Value) (hw : ∀ d ∈ tables_1, d.before a0 Z = true) (ws : List Jvm.Cond) (a : Addr) (y0 : Addr) (y1 : Addr) (y2 : Addr) (b : Addr) (kb : ClassId) (h0 : Heap) (n0 : Nat) (O0 : Old Z n0 h0) (hp0 : Fld Z h0 a "java/util/ArrayList" "elementData" "[Ljava/lang/Object;" (.ref b)) (hp1 : Arv Z h0 b kb (.object "java/lang/Object") (10 : Int32) [(.ref y0), (.ref y1), (.ref y2), .null, .null, .null, .null, .null, .null, .null] .null) :
    MetFree l mN18 (head1 (Jvm.Cond.code mN18 jdk_38_method_18_code 2 (some (.object "java/lang/Object")) :: ws) ({ frames := 0, cells := 0, slots := 0, locals := 0 } : Room)) (fun as_ U => as_ = #[(.ref a), (.int (0 : Int32))] ∧ Z.Warmed39 U.vm ∧ U.heap = h0) (fun _ _ _ _ _ => True) (fun _ U o U' => ∃ v L, o = .returned v ∧ QelemD3 Z a y0 y1 y2 b kb h0 n0 v U'.heap L ∧ FrameEnd U o U' L ({ frames := 0, cells := 0, slots := 0, locals := 0 } : Room).cells ({ frames := 0, cells := 0, slots := 0, locals := 0 } : Room).slots) := by
  refine MetFree.of_bodySF (plainFor_of_name pn_java_util_ArrayList) hisR ?_
  intro p e s m args below meth c s₁ Bd hml0 hP hK
  obtain ⟨rfl, hZ, hh⟩ := hP
  have hx := Bd.exec
  have hby := Bd.bytes
  have hml : c.maxLocals = 2 := hml0
  have hown : s.vm.findClass "java/util/ArrayList" = some m.cls := findClass_of_methodNamed Bd.named
  have hnm := (name_of_methodNamed Bd.named Bd.method).1
  have X0 : Stand p l e ({ frames := 0, cells := 0, slots := 0, locals := 0 } : Room) s m #[(.ref a), (.int (0 : Int32))] below meth c s₁ [] 0 0 := Stand.of_body Bd
  have e0 : s₁.heap = h0 := by rw [← hh, Bd.state]; rfl
  have N0 := Fr.nil n0
  have Z0 := own_z0 O0
  have pre0 : ∀ tg_, Steps p.tables e below (s₁.setTop (mkF m 0 #[.val (.ref a), .val (.int (0 : Int32))] [])) tg_ → Steps p.tables e below (s₁.setTop (entryFrame m #[(.ref a), (.int (0 : Int32))] 2)) tg_ := fun tg_ kt_ => castTop (ef_elemD3 m a (0 : Int32)) kt_
  obtain ⟨T1, X1, e1, st1⟩ := getF X0 hx hZ hown (host := "") (Or.inl (hw _ w_76)) Via.refl e0 hp0 (g := (mkF m 1 #[.val (.ref a), .val (.int (0 : Int32))] [(.ref a)])) rfl rfl (hb hby d21_1)
  obtain ⟨cl2, Ar2, -, S2, Ng2, H2, G2⟩ := id hp1
  have hin2 : ¬ ((0 : Int32) < 0 ∨ cl2.slots.size ≤ ((0 : Int32)).toNatClampNeg) := inb_of S2 ⟨by decide, by decide⟩
  have hat2 : cl2.slots[((0 : Int32)).toNatClampNeg]? = some (.ref y0) := H2.at hin2 rfl
  obtain ⟨fs, hr, hrun, hended, hW, hsame⟩ := X1.leave (v := some (.ref y0)) (fun h => by rw [Bd.returns] at h; cases h)
  refine ⟨_, _, pre0 _ ?_, hrun, hended, _, _, rfl, ?_, ⟨_, rfl⟩, hW, hsame.mono (by decide) (by decide)⟩
  · refine XS.aloadN X0.here hx rfl (hb hby d21_0) rfl rfl ?_
    show Steps p.tables e below (s₁.setTop (mkF m 1 #[.val (.ref a), .val (.int (0 : Int32))] [(.ref a)])) _
    refine st1 _ ?_
    refine XS.iloadN X1.here hx rfl (hb hby d21_4) rfl ?_
    refine X1.aaload hx (j := (0 : Int32)) (v := (.ref y0)) (by rw [e1]; exact Ar2.1) (State.isArrayOf_alike hZ.alike Ar2.2.1) rfl Ar2.2.2 hin2 hat2 (g := (mkF m 5 #[.val (.ref a), .val (.int (0 : Int32))] [(.int (0 : Int32)), (.ref b)])) rfl rfl (hb hby d21_5) _ ?_
    show Steps p.tables e below (T1.setTop (mkF m 6 #[.val (.ref a), .val (.int (0 : Int32))] [(.ref y0)])) _
    jvm_step X1.here [X1.here.top, hx, (hb hby d21_6), X1.method', Bd.returns, Value.isRef, FieldType.isReference]
    first | (intro acts; rw [hr _ acts rfl rfl rfl]) | rw [hr _ _ rfl rfl rfl]
    exact Steps.refl _
  · show QelemD3 Z a y0 y1 y2 b kb h0 n0 _ T1.heap _
    rw [e1]
    exact ⟨rfl, N0, rfl⟩
theorem ef_alGet3 (m : MethodId) (x0 : Addr) (x1 : Int32) : entryFrame m #[(.ref x0), (.int x1)] 2 = mkF m 0 #[.val (.ref x0), .val (.int x1)] [] := by first | (simp [entryFrame, mkF, argsToLocals, Value.category]; done) | rfl
def QalGet3 (Z : State) (a : Addr) (y0 : Addr) (y1 : Addr) (y2 : Addr) (b : Addr) (kb : ClassId) (h0 : Heap) (n0 : Nat) (v : Option Value) (h : Heap) (L : List Loc) : Prop := v = some (.ref y0) ∧ Fr n0 L ∧ h = h0
set_option maxRecDepth 65536 in
set_option maxHeartbeats 40000000 in
theorem rmalGet3 (l : Launch) (Z : State) (a0 : Array Value) (hw : ∀ d ∈ tables_1, d.before a0 Z = true) (ws : List Jvm.Cond) (a : Addr) (y0 : Addr) (y1 : Addr) (y2 : Addr) (b : Addr) (kb : ClassId) (h0 : Heap) (n0 : Nat) (O0 : Old Z n0 h0) (hp0 : Exa Z h0 a "java/util/ArrayList") (hp1 : Fld Z h0 a "java/util/ArrayList" "elementData" "[Ljava/lang/Object;" (.ref b)) (hp2 : Fld Z h0 a "java/util/ArrayList" "size" "I" (.int (3 : Int32))) (hp3 : Arv Z h0 b kb (.object "java/lang/Object") (10 : Int32) [(.ref y0), (.ref y1), (.ref y2), .null, .null, .null, .null, .null, .null, .null] .null) :
    MetFree l mN19 (head1 (Jvm.Cond.code mN19 jdk_38_method_20_code 2 (some (.object "java/lang/Object")) :: ws) ({ frames := 2, cells := 0, slots := 0, locals := 27 } : Room)) (fun as_ U => as_ = #[(.ref a), (.int (0 : Int32))] ∧ Z.Warmed39 U.vm ∧ U.heap = h0) (fun _ _ _ _ _ => True) (fun _ U o U' => ∃ v L, o = .returned v ∧ QalGet3 Z a y0 y1 y2 b kb h0 n0 v U'.heap L ∧ FrameEnd U o U' L ({ frames := 2, cells := 0, slots := 0, locals := 27 } : Room).cells ({ frames := 2, cells := 0, slots := 0, locals := 27 } : Room).slots) := by
  refine MetFree.of_bodySF (plainFor_of_name pn_java_util_ArrayList) hisR ?_
  intro p e s m args below meth c s₁ Bd hml0 hP hK
  obtain ⟨rfl, hZ, hh⟩ := hP
  have hx := Bd.exec
  have hby := Bd.bytes
  have hml : c.maxLocals = 2 := hml0
  have hown : s.vm.findClass "java/util/ArrayList" = some m.cls := findClass_of_methodNamed Bd.named
  have hnm := (name_of_methodNamed Bd.named Bd.method).1
  have X0 : Stand p l e ({ frames := 2, cells := 0, slots := 0, locals := 27 } : Room) s m #[(.ref a), (.int (0 : Int32))] below meth c s₁ [] 0 0 := Stand.of_body Bd
  have e0 : s₁.heap = h0 := by rw [← hh, Bd.state]; rfl
  have N0 := Fr.nil n0
  have Z0 := own_z0 O0
  have pre0 : ∀ tg_, Steps p.tables e below (s₁.setTop (mkF m 0 #[.val (.ref a), .val (.int (0 : Int32))] [])) tg_ → Steps p.tables e below (s₁.setTop (entryFrame m #[(.ref a), (.int (0 : Int32))] 2)) tg_ := fun tg_ kt_ => castTop (ef_alGet3 m a (0 : Int32)) kt_
  obtain ⟨T1, X1, e1, st1⟩ := getF X0 hx hZ hown (host := "") (Or.inl (hw _ w_85)) Via.refl e0 hp2 (g := (mkF m 2 #[.val (.ref a), .val (.int (0 : Int32))] [(.ref a), (.int (0 : Int32))])) rfl rfl (hb hby d18_2)
  obtain ⟨_, _, ⟨T2, L2, k2, n2⟩, -, X2, ⟨Lc2, hQ2, l2, y2, z2⟩, st2⟩ := Jvm.LawKit.callS X1 hx (y := mN17) hown (mvT hZ (hw _ w_124)) (mvT hZ (hw _ w_125)) (mvT hZ (hw _ w_126)) (mvT hZ (hw _ w_127)) (by decide) (backOf (W := 0) (rmochk l Z a0 hw [] (0 : Int32) (3 : Int32) h0 n0 O0 (by decide) (by decide)) hZ (hw _ w_127) (hw _ w_126) (by decide) (by decide)) (g := (mkF m 5 #[.val (.ref a), .val (.int (0 : Int32))] [(.int (3 : Int32)), (.int (0 : Int32))])) rfl (by rw [hml]; rfl) (argsL := [(.int (0 : Int32)), (.int (3 : Int32))]) (rest := []) (lenOf pd__II_I rfl) rfl (by show 2 * 0 + _ ≤ _; exact Nat.le_of_eq rfl) (hb hby d18_5) (fun _ _ => ⟨rfl, e1, (by decide : 0 + 0 ≤ _), (by decide : 0 + 0 ≤ _)⟩)
  dsimp only [Pt.U, Pt.locs, Pt.cells, Pt.slots] at X2 l2 y2 z2 st2 hQ2
  subst l2 y2 z2
  obtain ⟨rfl, N2q, eh2⟩ := hQ2
  have N2 := Fr.app N0 N2q
  obtain ⟨cq3, kq3, q3a, q3b, q3c⟩ := isOf hZ eh2 hp0
  obtain ⟨_, _, ⟨T3, L3, k3, n3⟩, -, X3, ⟨Lc3, hQ3, l3, y3, z3⟩, st3⟩ := X2.virtualBack hx (y := mN18) (z := mN18) hown (mvT hZ (hw _ w_132)) (mvT hZ (hw _ w_133)) (notFace_of_selects (args := #[]) (mvT hZ (hw _ w_135))) (mvT hZ (hw _ w_135)) (mvT hZ (hw _ w_134)) (by decide) (backOf (W := 0) (rmelemD3 l Z a0 hw [] a y0 y1 y2 b kb h0 n0 O0 hp1 hp3) hZ (hw _ w_136) (hw _ w_56) (by decide) (by decide)) q3a q3c (g := (mkF m 11 #[.val (.ref a), .val (.int (0 : Int32))] [(.int (0 : Int32)), (.ref a)])) rfl (by rw [hml]; rfl) (Steps.refl _) (argsL := [(.int (0 : Int32))]) (rest := []) (lenOf pd__I_Ljava_lang_Object_ rfl) rfl (by show 2 * 0 + _ ≤ _; exact Nat.le_of_eq rfl) (hb hby d18_11) (fun _ _ => ⟨rfl, eh2, (by decide : 0 + 0 ≤ _), (by decide : 0 + 0 ≤ _)⟩)
  dsimp only [Pt.U, Pt.locs, Pt.cells, Pt.slots] at X3 l3 y3 z3 st3 hQ3
  subst l3 y3 z3
  obtain ⟨rfl, N3q, eh3⟩ := hQ3
  have N3 := Fr.app N2 N3q
  obtain ⟨fs, hr, hrun, hended, hW, hsame⟩ := X3.leave (v := some (.ref y0)) (fun h => by rw [Bd.returns] at h; cases h)
  refine ⟨_, _, pre0 _ ?_, hrun, hended, _, _, rfl, ?_, ⟨_, rfl⟩, hW, hsame.mono (by decide) (by decide)⟩
  · refine XS.iloadN X0.here hx rfl (hb hby d18_0) rfl ?_
    refine XS.aloadN X0.here hx rfl (hb hby d18_1) rfl rfl ?_
    show Steps p.tables e below (s₁.setTop (mkF m 2 #[.val (.ref a), .val (.int (0 : Int32))] [(.ref a), (.int (0 : Int32))])) _
    refine st1 _ ?_
    show Steps p.tables e below (T1.setTop (mkF m 5 #[.val (.ref a), .val (.int (0 : Int32))] [(.int (3 : Int32)), (.int (0 : Int32))])) _
    refine st2 _ ?_
    refine XS.pop X2.here hx rfl (hb hby d18_8) rfl rfl ?_
    refine XS.aloadN X2.here hx rfl (hb hby d18_9) rfl rfl ?_
    refine XS.iloadN X2.here hx rfl (hb hby d18_10) rfl ?_
    show Steps p.tables e below (T2.setTop (mkF m 11 #[.val (.ref a), .val (.int (0 : Int32))] [(.int (0 : Int32)), (.ref a)])) _
    refine st3.trans ?_
    show Steps p.tables e below (T3.setTop (mkF m 14 #[.val (.ref a), .val (.int (0 : Int32))] [(.ref y0)])) _
    jvm_step X3.here [X3.here.top, hx, (hb hby d18_14), X3.method', Bd.returns, Value.isRef, FieldType.isReference]
    first | (intro acts; rw [hr _ acts rfl rfl rfl]) | rw [hr _ _ rfl rfl rfl]
    exact Steps.refl _
  · show QalGet3 Z a y0 y1 y2 b kb h0 n0 _ T3.heap _
    rw [eh3]
    exact ⟨rfl, N3, rfl⟩
theorem d22_0 : decode prog_1_method_4_code 0 = .ok (.aload_n 0, 1) := by decide +kernel
theorem d22_1 : decode prog_1_method_4_code 1 = .ok (.getfield 17, 3) := by decide +kernel
theorem d22_4 : decode prog_1_method_4_code 4 = .ok (.areturn, 1) := by decide +kernel
abbrev mN20 : MethodName := ⟨"com/example/levy/levy/api/ApiError", "message", "()Ljava/lang/String;"⟩
theorem ef_message (m : MethodId) (x0 : Addr) : entryFrame m #[(.ref x0)] 1 = mkF m 0 #[.val (.ref x0)] [] := by first | (simp [entryFrame, mkF, argsToLocals, Value.category]; done) | rfl
def Qmessage (Z : State) (a : Addr) (va : Addr) (h0 : Heap) (n0 : Nat) (v : Option Value) (h : Heap) (L : List Loc) : Prop := v = some (.ref va) ∧ Fr n0 L ∧ h = h0
set_option maxRecDepth 65536 in
set_option maxHeartbeats 40000000 in
theorem rmmessage (l : Launch) (Z : State) (a0 : Array Value) (hw : ∀ d ∈ tables_1, d.before a0 Z = true) (ws : List Jvm.Cond) (a : Addr) (va : Addr) (h0 : Heap) (n0 : Nat) (O0 : Old Z n0 h0) (hp0 : Fld Z h0 a "com/example/levy/levy/api/ApiError" "message" "Ljava/lang/String;" (.ref va)) :
    MetFree l mN20 (head1 (Jvm.Cond.code mN20 prog_1_method_4_code 1 (some (.object "java/lang/String")) :: ws) ({ frames := 0, cells := 0, slots := 0, locals := 0 } : Room)) (fun as_ U => as_ = #[(.ref a)] ∧ Z.Warmed39 U.vm ∧ U.heap = h0) (fun _ _ _ _ _ => True) (fun _ U o U' => ∃ v L, o = .returned v ∧ Qmessage Z a va h0 n0 v U'.heap L ∧ FrameEnd U o U' L ({ frames := 0, cells := 0, slots := 0, locals := 0 } : Room).cells ({ frames := 0, cells := 0, slots := 0, locals := 0 } : Room).slots) := by
  refine MetFree.of_bodySF (plainFor_of_name pn_com_example_levy_levy_api_ApiError) hisR ?_
  intro p e s m args below meth c s₁ Bd hml0 hP hK
  obtain ⟨rfl, hZ, hh⟩ := hP
  have hx := Bd.exec
  have hby := Bd.bytes
  have hml : c.maxLocals = 1 := hml0
  have hown : s.vm.findClass "com/example/levy/levy/api/ApiError" = some m.cls := findClass_of_methodNamed Bd.named
  have hnm := (name_of_methodNamed Bd.named Bd.method).1
  have X0 : Stand p l e ({ frames := 0, cells := 0, slots := 0, locals := 0 } : Room) s m #[(.ref a)] below meth c s₁ [] 0 0 := Stand.of_body Bd
  have e0 : s₁.heap = h0 := by rw [← hh, Bd.state]; rfl
  have N0 := Fr.nil n0
  have Z0 := own_z0 O0
  have pre0 : ∀ tg_, Steps p.tables e below (s₁.setTop (mkF m 0 #[.val (.ref a)] [])) tg_ → Steps p.tables e below (s₁.setTop (entryFrame m #[(.ref a)] 1)) tg_ := fun tg_ kt_ => castTop (ef_message m a) kt_
  obtain ⟨T1, X1, e1, st1⟩ := getF X0 hx hZ hown (host := "") (Or.inl (hw _ w_48)) Via.refl e0 hp0 (g := (mkF m 1 #[.val (.ref a)] [(.ref a)])) rfl rfl (hb hby d22_1)
  obtain ⟨fs, hr, hrun, hended, hW, hsame⟩ := X1.leave (v := some (.ref va)) (fun h => by rw [Bd.returns] at h; cases h)
  refine ⟨_, _, pre0 _ ?_, hrun, hended, _, _, rfl, ?_, ⟨_, rfl⟩, hW, hsame.mono (by decide) (by decide)⟩
  · refine XS.aloadN X0.here hx rfl (hb hby d22_0) rfl rfl ?_
    show Steps p.tables e below (s₁.setTop (mkF m 1 #[.val (.ref a)] [(.ref a)])) _
    refine st1 _ ?_
    show Steps p.tables e below (T1.setTop (mkF m 4 #[.val (.ref a)] [(.ref va)])) _
    jvm_step X1.here [X1.here.top, hx, (hb hby d22_4), X1.method', Bd.returns, Value.isRef, FieldType.isReference]
    first | (intro acts; rw [hr _ acts rfl rfl rfl]) | rw [hr _ _ rfl rfl rfl]
    exact Steps.refl _
  · show Qmessage Z a va h0 n0 _ T1.heap _
    rw [e1]
    exact ⟨rfl, N0, rfl⟩
theorem d42_0 : decode prog_1_method_2_code 0 = .ok (.aload_n 0, 1) := by decide +kernel
theorem d42_1 : decode prog_1_method_2_code 1 = .ok (.getfield 7, 3) := by decide +kernel
theorem d42_4 : decode prog_1_method_2_code 4 = .ok (.areturn, 1) := by decide +kernel
abbrev mN21 : MethodName := ⟨"com/example/levy/levy/api/ApiError", "type", "()Lcom/example/levy/levy/api/ErrorType;"⟩
theorem ef_atype (m : MethodId) (x0 : Addr) : entryFrame m #[(.ref x0)] 1 = mkF m 0 #[.val (.ref x0)] [] := by first | (simp [entryFrame, mkF, argsToLocals, Value.category]; done) | rfl
def Qatype (Z : State) (a : Addr) (va : Addr) (h0 : Heap) (n0 : Nat) (v : Option Value) (h : Heap) (L : List Loc) : Prop := v = some (.ref va) ∧ Fr n0 L ∧ h = h0
set_option maxRecDepth 65536 in
set_option maxHeartbeats 40000000 in
theorem rmatype (l : Launch) (Z : State) (a0 : Array Value) (hw : ∀ d ∈ tables_1, d.before a0 Z = true) (ws : List Jvm.Cond) (a : Addr) (va : Addr) (h0 : Heap) (n0 : Nat) (O0 : Old Z n0 h0) (hp0 : Fld Z h0 a "com/example/levy/levy/api/ApiError" "type" "Lcom/example/levy/levy/api/ErrorType;" (.ref va)) :
    MetFree l mN21 (head1 (Jvm.Cond.code mN21 prog_1_method_2_code 1 (some (.object "com/example/levy/levy/api/ErrorType")) :: ws) ({ frames := 0, cells := 0, slots := 0, locals := 0 } : Room)) (fun as_ U => as_ = #[(.ref a)] ∧ Z.Warmed39 U.vm ∧ U.heap = h0) (fun _ _ _ _ _ => True) (fun _ U o U' => ∃ v L, o = .returned v ∧ Qatype Z a va h0 n0 v U'.heap L ∧ FrameEnd U o U' L ({ frames := 0, cells := 0, slots := 0, locals := 0 } : Room).cells ({ frames := 0, cells := 0, slots := 0, locals := 0 } : Room).slots) := by
  refine MetFree.of_bodySF (plainFor_of_name pn_com_example_levy_levy_api_ApiError) hisR ?_
  intro p e s m args below meth c s₁ Bd hml0 hP hK
  obtain ⟨rfl, hZ, hh⟩ := hP
  have hx := Bd.exec
  have hby := Bd.bytes
  have hml : c.maxLocals = 1 := hml0
  have hown : s.vm.findClass "com/example/levy/levy/api/ApiError" = some m.cls := findClass_of_methodNamed Bd.named
  have hnm := (name_of_methodNamed Bd.named Bd.method).1
  have X0 : Stand p l e ({ frames := 0, cells := 0, slots := 0, locals := 0 } : Room) s m #[(.ref a)] below meth c s₁ [] 0 0 := Stand.of_body Bd
  have e0 : s₁.heap = h0 := by rw [← hh, Bd.state]; rfl
  have N0 := Fr.nil n0
  have Z0 := own_z0 O0
  have pre0 : ∀ tg_, Steps p.tables e below (s₁.setTop (mkF m 0 #[.val (.ref a)] [])) tg_ → Steps p.tables e below (s₁.setTop (entryFrame m #[(.ref a)] 1)) tg_ := fun tg_ kt_ => castTop (ef_atype m a) kt_
  obtain ⟨T1, X1, e1, st1⟩ := getF X0 hx hZ hown (host := "") (Or.inl (hw _ w_44)) Via.refl e0 hp0 (g := (mkF m 1 #[.val (.ref a)] [(.ref a)])) rfl rfl (hb hby d42_1)
  obtain ⟨fs, hr, hrun, hended, hW, hsame⟩ := X1.leave (v := some (.ref va)) (fun h => by rw [Bd.returns] at h; cases h)
  refine ⟨_, _, pre0 _ ?_, hrun, hended, _, _, rfl, ?_, ⟨_, rfl⟩, hW, hsame.mono (by decide) (by decide)⟩
  · refine XS.aloadN X0.here hx rfl (hb hby d42_0) rfl rfl ?_
    show Steps p.tables e below (s₁.setTop (mkF m 1 #[.val (.ref a)] [(.ref a)])) _
    refine st1 _ ?_
    show Steps p.tables e below (T1.setTop (mkF m 4 #[.val (.ref a)] [(.ref va)])) _
    jvm_step X1.here [X1.here.top, hx, (hb hby d42_4), X1.method', Bd.returns, Value.isRef, FieldType.isReference]
    first | (intro acts; rw [hr _ acts rfl rfl rfl]) | rw [hr _ _ rfl rfl rfl]
    exact Steps.refl _
  · show Qatype Z a va h0 n0 _ T1.heap _
    rw [e1]
    exact ⟨rfl, N0, rfl⟩
theorem d43_0 : decode prog_7_method_5_code 0 = .ok (.aload_n 0, 1) := by decide +kernel
theorem w_304 : (Jvm.Cond.fieldLink "com/example/levy/levy/api/ErrorType" (72 : Nat) "com/example/levy/levy/api/ErrorType" "status" "I") ∈ tables_1 := List.mem_of_getElem? (i := 304) (by decide +kernel)
theorem d43_1 : decode prog_7_method_5_code 1 = .ok (.getfield 72, 3) := by decide +kernel
theorem d43_4 : decode prog_7_method_5_code 4 = .ok (.ireturn, 1) := by decide +kernel
abbrev mN22 : MethodName := ⟨"com/example/levy/levy/api/ErrorType", "status", "()I"⟩
theorem ef_estatus (m : MethodId) (x0 : Addr) : entryFrame m #[(.ref x0)] 1 = mkF m 0 #[.val (.ref x0)] [] := by first | (simp [entryFrame, mkF, argsToLocals, Value.category]; done) | rfl
def Qestatus (Z : State) (a : Addr) (vi : Int32) (h0 : Heap) (n0 : Nat) (v : Option Value) (h : Heap) (L : List Loc) : Prop := v = some (.int vi) ∧ Fr n0 L ∧ h = h0
theorem pn_com_example_levy_levy_api_ErrorType : plainName "com/example/levy/levy/api/ErrorType" = true := by first | (simp [plainName, overriddenIn]; done) | decide +kernel
set_option maxRecDepth 65536 in
set_option maxHeartbeats 40000000 in
theorem rmestatus (l : Launch) (Z : State) (a0 : Array Value) (hw : ∀ d ∈ tables_1, d.before a0 Z = true) (ws : List Jvm.Cond) (a : Addr) (vi : Int32) (h0 : Heap) (n0 : Nat) (O0 : Old Z n0 h0) (hp0 : Fld Z h0 a "com/example/levy/levy/api/ErrorType" "status" "I" (.int vi)) :
    MetFree l mN22 (head1 (Jvm.Cond.code mN22 prog_7_method_5_code 1 (some .int) :: ws) ({ frames := 0, cells := 0, slots := 0, locals := 0 } : Room)) (fun as_ U => as_ = #[(.ref a)] ∧ Z.Warmed39 U.vm ∧ U.heap = h0) (fun _ _ _ _ _ => True) (fun _ U o U' => ∃ v L, o = .returned v ∧ Qestatus Z a vi h0 n0 v U'.heap L ∧ FrameEnd U o U' L ({ frames := 0, cells := 0, slots := 0, locals := 0 } : Room).cells ({ frames := 0, cells := 0, slots := 0, locals := 0 } : Room).slots) := by
  refine MetFree.of_bodySF (plainFor_of_name pn_com_example_levy_levy_api_ErrorType) hisR ?_
  intro p e s m args below meth c s₁ Bd hml0 hP hK
  obtain ⟨rfl, hZ, hh⟩ := hP
  have hx := Bd.exec
  have hby := Bd.bytes
  have hml : c.maxLocals = 1 := hml0
  have hown : s.vm.findClass "com/example/levy/levy/api/ErrorType" = some m.cls := findClass_of_methodNamed Bd.named
  have hnm := (name_of_methodNamed Bd.named Bd.method).1
  have X0 : Stand p l e ({ frames := 0, cells := 0, slots := 0, locals := 0 } : Room) s m #[(.ref a)] below meth c s₁ [] 0 0 := Stand.of_body Bd
  have e0 : s₁.heap = h0 := by rw [← hh, Bd.state]; rfl
  have N0 := Fr.nil n0
  have Z0 := own_z0 O0
  have pre0 : ∀ tg_, Steps p.tables e below (s₁.setTop (mkF m 0 #[.val (.ref a)] [])) tg_ → Steps p.tables e below (s₁.setTop (entryFrame m #[(.ref a)] 1)) tg_ := fun tg_ kt_ => castTop (ef_estatus m a) kt_
  obtain ⟨T1, X1, e1, st1⟩ := getF X0 hx hZ hown (host := "") (Or.inl (hw _ w_304)) Via.refl e0 hp0 (g := (mkF m 1 #[.val (.ref a)] [(.ref a)])) rfl rfl (hb hby d43_1)
  obtain ⟨fs, hr, hrun, hended, hW, hsame⟩ := X1.leave (v := some (.int vi)) (fun h => by rw [Bd.returns] at h; cases h)
  refine ⟨_, _, pre0 _ ?_, hrun, hended, _, _, rfl, ?_, ⟨_, rfl⟩, hW, hsame.mono (by decide) (by decide)⟩
  · refine XS.aloadN X0.here hx rfl (hb hby d43_0) rfl rfl ?_
    show Steps p.tables e below (s₁.setTop (mkF m 1 #[.val (.ref a)] [(.ref a)])) _
    refine st1 _ ?_
    show Steps p.tables e below (T1.setTop (mkF m 4 #[.val (.ref a)] [(.int vi)])) _
    exact retI X1 hx Bd.returns (hb hby d43_4) hr
  · show Qestatus Z a vi h0 n0 _ T1.heap _
    rw [e1]
    exact ⟨rfl, N0, rfl⟩
theorem d34_0 : decode jdk_29_method_69_code 0 = .ok (.iload_n 0, 1) := by decide +kernel
theorem d34_1 : decode jdk_29_method_69_code 1 = .ok (.iload_n 1, 1) := by decide +kernel
theorem d34_2 : decode jdk_29_method_69_code 2 = .ok (.if_icmp .gt 7, 3) := by decide +kernel
theorem d34_9 : decode jdk_29_method_69_code 9 = .ok (.iload_n 1, 1) := by decide +kernel
theorem d34_10 : decode jdk_29_method_69_code 10 = .ok (.ireturn, 1) := by decide +kernel
abbrev mN23 : MethodName := ⟨"java/lang/Math", "min", "(II)I"⟩
theorem ef_minG (m : MethodId) (x0 : Int32) (x1 : Int32) : entryFrame m #[(.int x0), (.int x1)] 2 = mkF m 0 #[.val (.int x0), .val (.int x1)] [] := by first | (simp [entryFrame, mkF, argsToLocals, Value.category]; done) | rfl
def QminG (Z : State) (xx : Int32) (yy : Int32) (h0 : Heap) (n0 : Nat) (v : Option Value) (h : Heap) (L : List Loc) : Prop := v = some (.int yy) ∧ Fr n0 L ∧ h = h0
theorem pn_b34 : plainFor (⟨"java/lang/Math", "min", "(II)I"⟩ : MethodName) = true := by decide +kernel
set_option maxRecDepth 65536 in
set_option maxHeartbeats 40000000 in
theorem rmminG (l : Launch) (Z : State) (a0 : Array Value) (hw : ∀ d ∈ tables_1, d.before a0 Z = true) (ws : List Jvm.Cond) (xx : Int32) (yy : Int32) (h0 : Heap) (n0 : Nat) (O0 : Old Z n0 h0) (h : (yy < xx)) :
    MetFree l mN23 (head1 (Jvm.Cond.code mN23 jdk_29_method_69_code 2 (some .int) :: ws) ({ frames := 0, cells := 0, slots := 0, locals := 0 } : Room)) (fun as_ U => as_ = #[(.int xx), (.int yy)] ∧ Z.Warmed39 U.vm ∧ U.heap = h0) (fun _ _ _ _ _ => True) (fun _ U o U' => ∃ v L, o = .returned v ∧ QminG Z xx yy h0 n0 v U'.heap L ∧ FrameEnd U o U' L ({ frames := 0, cells := 0, slots := 0, locals := 0 } : Room).cells ({ frames := 0, cells := 0, slots := 0, locals := 0 } : Room).slots) := by
  refine MetFree.of_bodySF pn_b34 hisR ?_
  intro p e s m args below meth c s₁ Bd hml0 hP hK
  obtain ⟨rfl, hZ, hh⟩ := hP
  have hx := Bd.exec
  have hby := Bd.bytes
  have hml : c.maxLocals = 2 := hml0
  have hown : s.vm.findClass "java/lang/Math" = some m.cls := findClass_of_methodNamed Bd.named
  have hnm := (name_of_methodNamed Bd.named Bd.method).1
  have X0 : Stand p l e ({ frames := 0, cells := 0, slots := 0, locals := 0 } : Room) s m #[(.int xx), (.int yy)] below meth c s₁ [] 0 0 := Stand.of_body Bd
  have e0 : s₁.heap = h0 := by rw [← hh, Bd.state]; rfl
  have N0 := Fr.nil n0
  have Z0 := own_z0 O0
  have pre0 : ∀ tg_, Steps p.tables e below (s₁.setTop (mkF m 0 #[.val (.int xx), .val (.int yy)] [])) tg_ → Steps p.tables e below (s₁.setTop (entryFrame m #[(.int xx), (.int yy)] 2)) tg_ := fun tg_ kt_ => castTop (ef_minG m xx yy) kt_
  obtain ⟨fs, hr, hrun, hended, hW, hsame⟩ := X0.leave (v := some (.int yy)) (fun h => by rw [Bd.returns] at h; cases h)
  refine ⟨_, _, pre0 _ ?_, hrun, hended, _, _, rfl, ?_, ⟨_, rfl⟩, hW, hsame.mono (by decide) (by decide)⟩
  · refine XS.iloadN X0.here hx rfl (hb hby d34_0) rfl ?_
    refine XS.iloadN X0.here hx rfl (hb hby d34_1) rfl ?_
    refine XS.icmpYes X0.here hx rfl (pc0 := 2) (pc' := 9) rfl (hb hby d34_2) rfl (tlt h).2.2.1 (by decide) (by decide) ?_
    show Steps p.tables e below (s₁.setTop (mkF m 9 #[.val (.int xx), .val (.int yy)] [])) _
    refine XS.iloadN X0.here hx rfl (hb hby d34_9) rfl ?_
    show Steps p.tables e below (s₁.setTop (mkF m 10 #[.val (.int xx), .val (.int yy)] [(.int yy)])) _
    exact retI X0 hx Bd.returns (hb hby d34_10) hr
  · show QminG Z xx yy h0 n0 _ s₁.heap _
    rw [e0]
    exact ⟨rfl, N0, rfl⟩
theorem d34_5 : decode jdk_29_method_69_code 5 = .ok (.iload_n 0, 1) := by decide +kernel
theorem d34_6 : decode jdk_29_method_69_code 6 = .ok (.goto 4, 3) := by decide +kernel
theorem ef_minL (m : MethodId) (x0 : Int32) (x1 : Int32) : entryFrame m #[(.int x0), (.int x1)] 2 = mkF m 0 #[.val (.int x0), .val (.int x1)] [] := by first | (simp [entryFrame, mkF, argsToLocals, Value.category]; done) | rfl
def QminL (Z : State) (xx : Int32) (yy : Int32) (h0 : Heap) (n0 : Nat) (v : Option Value) (h : Heap) (L : List Loc) : Prop := v = some (.int xx) ∧ Fr n0 L ∧ h = h0
set_option maxRecDepth 65536 in
set_option maxHeartbeats 40000000 in
theorem rmminL (l : Launch) (Z : State) (a0 : Array Value) (hw : ∀ d ∈ tables_1, d.before a0 Z = true) (ws : List Jvm.Cond) (xx : Int32) (yy : Int32) (h0 : Heap) (n0 : Nat) (O0 : Old Z n0 h0) (h : (¬ (yy < xx))) :
    MetFree l mN23 (head1 (Jvm.Cond.code mN23 jdk_29_method_69_code 2 (some .int) :: ws) ({ frames := 0, cells := 0, slots := 0, locals := 0 } : Room)) (fun as_ U => as_ = #[(.int xx), (.int yy)] ∧ Z.Warmed39 U.vm ∧ U.heap = h0) (fun _ _ _ _ _ => True) (fun _ U o U' => ∃ v L, o = .returned v ∧ QminL Z xx yy h0 n0 v U'.heap L ∧ FrameEnd U o U' L ({ frames := 0, cells := 0, slots := 0, locals := 0 } : Room).cells ({ frames := 0, cells := 0, slots := 0, locals := 0 } : Room).slots) := by
  refine MetFree.of_bodySF pn_b34 hisR ?_
  intro p e s m args below meth c s₁ Bd hml0 hP hK
  obtain ⟨rfl, hZ, hh⟩ := hP
  have hx := Bd.exec
  have hby := Bd.bytes
  have hml : c.maxLocals = 2 := hml0
  have hown : s.vm.findClass "java/lang/Math" = some m.cls := findClass_of_methodNamed Bd.named
  have hnm := (name_of_methodNamed Bd.named Bd.method).1
  have X0 : Stand p l e ({ frames := 0, cells := 0, slots := 0, locals := 0 } : Room) s m #[(.int xx), (.int yy)] below meth c s₁ [] 0 0 := Stand.of_body Bd
  have e0 : s₁.heap = h0 := by rw [← hh, Bd.state]; rfl
  have N0 := Fr.nil n0
  have Z0 := own_z0 O0
  have pre0 : ∀ tg_, Steps p.tables e below (s₁.setTop (mkF m 0 #[.val (.int xx), .val (.int yy)] [])) tg_ → Steps p.tables e below (s₁.setTop (entryFrame m #[(.int xx), (.int yy)] 2)) tg_ := fun tg_ kt_ => castTop (ef_minL m xx yy) kt_
  obtain ⟨fs, hr, hrun, hended, hW, hsame⟩ := X0.leave (v := some (.int xx)) (fun h => by rw [Bd.returns] at h; cases h)
  refine ⟨_, _, pre0 _ ?_, hrun, hended, _, _, rfl, ?_, ⟨_, rfl⟩, hW, hsame.mono (by decide) (by decide)⟩
  · refine XS.iloadN X0.here hx rfl (hb hby d34_0) rfl ?_
    refine XS.iloadN X0.here hx rfl (hb hby d34_1) rfl ?_
    refine XS.icmpNo X0.here hx rfl (hb hby d34_2) rfl (flt h).2.2.1 ?_
    show Steps p.tables e below (s₁.setTop (mkF m 5 #[.val (.int xx), .val (.int yy)] [])) _
    refine XS.iloadN X0.here hx rfl (hb hby d34_5) rfl ?_
    refine XS.goto X0.here hx rfl (pc0 := 6) (pc' := 10) rfl (hb hby d34_6) (by decide) (by decide) ?_
    show Steps p.tables e below (s₁.setTop (mkF m 10 #[.val (.int xx), .val (.int yy)] [(.int xx)])) _
    exact retI X0 hx Bd.returns (hb hby d34_10) hr
  · show QminL Z xx yy h0 n0 _ s₁.heap _
    rw [e0]
    exact ⟨rfl, N0, rfl⟩
theorem d39_0 : decode jdk_31_method_10_code 0 = .ok (.aload_n 0, 1) := by decide +kernel
theorem d39_1 : decode jdk_31_method_10_code 1 = .ok (.ifnonnull 11, 3) := by decide +kernel
theorem d39_12 : decode jdk_31_method_10_code 12 = .ok (.aload_n 0, 1) := by decide +kernel
theorem d39_13 : decode jdk_31_method_10_code 13 = .ok (.areturn, 1) := by decide +kernel
abbrev mN24 : MethodName := ⟨"java/util/Objects", "requireNonNull", "(Ljava/lang/Object;)Ljava/lang/Object;"⟩
theorem ef_rnn (m : MethodId) (x0 : Addr) : entryFrame m #[(.ref x0)] 1 = mkF m 0 #[.val (.ref x0)] [] := by first | (simp [entryFrame, mkF, argsToLocals, Value.category]; done) | rfl
def Qrnn (Z : State) (xo : Addr) (h0 : Heap) (n0 : Nat) (v : Option Value) (h : Heap) (L : List Loc) : Prop := v = some (.ref xo) ∧ Fr n0 L ∧ h = h0
set_option maxRecDepth 65536 in
set_option maxHeartbeats 40000000 in
theorem rmrnn (l : Launch) (Z : State) (a0 : Array Value) (hw : ∀ d ∈ tables_1, d.before a0 Z = true) (ws : List Jvm.Cond) (xo : Addr) (h0 : Heap) (n0 : Nat) (O0 : Old Z n0 h0)  :
    MetFree l mN24 (head1 (Jvm.Cond.code mN24 jdk_31_method_10_code 1 (some (.object "java/lang/Object")) :: ws) ({ frames := 0, cells := 0, slots := 0, locals := 0 } : Room)) (fun as_ U => as_ = #[(.ref xo)] ∧ Z.Warmed39 U.vm ∧ U.heap = h0) (fun _ _ _ _ _ => True) (fun _ U o U' => ∃ v L, o = .returned v ∧ Qrnn Z xo h0 n0 v U'.heap L ∧ FrameEnd U o U' L ({ frames := 0, cells := 0, slots := 0, locals := 0 } : Room).cells ({ frames := 0, cells := 0, slots := 0, locals := 0 } : Room).slots) := by
  refine MetFree.of_bodySF (plainFor_of_name pn_java_util_Objects) hisR ?_
  intro p e s m args below meth c s₁ Bd hml0 hP hK
  obtain ⟨rfl, hZ, hh⟩ := hP
  have hx := Bd.exec
  have hby := Bd.bytes
  have hml : c.maxLocals = 1 := hml0
  have hown : s.vm.findClass "java/util/Objects" = some m.cls := findClass_of_methodNamed Bd.named
  have hnm := (name_of_methodNamed Bd.named Bd.method).1
  have X0 : Stand p l e ({ frames := 0, cells := 0, slots := 0, locals := 0 } : Room) s m #[(.ref xo)] below meth c s₁ [] 0 0 := Stand.of_body Bd
  have e0 : s₁.heap = h0 := by rw [← hh, Bd.state]; rfl
  have N0 := Fr.nil n0
  have Z0 := own_z0 O0
  have pre0 : ∀ tg_, Steps p.tables e below (s₁.setTop (mkF m 0 #[.val (.ref xo)] [])) tg_ → Steps p.tables e below (s₁.setTop (entryFrame m #[(.ref xo)] 1)) tg_ := fun tg_ kt_ => castTop (ef_rnn m xo) kt_
  obtain ⟨fs, hr, hrun, hended, hW, hsame⟩ := X0.leave (v := some (.ref xo)) (fun h => by rw [Bd.returns] at h; cases h)
  refine ⟨_, _, pre0 _ ?_, hrun, hended, _, _, rfl, ?_, ⟨_, rfl⟩, hW, hsame.mono (by decide) (by decide)⟩
  · refine XS.aloadN X0.here hx rfl (hb hby d39_0) rfl rfl ?_
    refine XS.ifnonnullYes X0.here hx rfl (pc0 := 1) (pc' := 12) rfl (hb hby d39_1) rfl (by decide) (by decide) ?_
    refine XS.aloadN X0.here hx rfl (hb hby d39_12) rfl rfl ?_
    show Steps p.tables e below (s₁.setTop (mkF m 13 #[.val (.ref xo)] [(.ref xo)])) _
    jvm_step X0.here [X0.here.top, hx, (hb hby d39_13), X0.method', Bd.returns, Value.isRef, FieldType.isReference]
    first | (intro acts; rw [hr _ acts rfl rfl rfl]) | rw [hr _ _ rfl rfl rfl]
    exact Steps.refl _
  · show Qrnn Z xo h0 n0 _ s₁.heap _
    rw [e0]
    exact ⟨rfl, N0, rfl⟩
theorem d30_0 : decode jdk_38_method_9_code 0 = .ok (.aload_n 0, 1) := by decide +kernel
theorem d30_1 : decode jdk_38_method_9_code 1 = .ok (.getfield 48, 3) := by decide +kernel
theorem d30_4 : decode jdk_38_method_9_code 4 = .ok (.ifCond .ne 7, 3) := by decide +kernel
theorem d30_11 : decode jdk_38_method_9_code 11 = .ok (.iconst 0, 1) := by decide +kernel
theorem d30_12 : decode jdk_38_method_9_code 12 = .ok (.ireturn, 1) := by decide +kernel
abbrev mN25 : MethodName := ⟨"java/util/ArrayList", "isEmpty", "()Z"⟩
theorem ef_alEmpty (m : MethodId) (x0 : Addr) : entryFrame m #[(.ref x0)] 1 = mkF m 0 #[.val (.ref x0)] [] := by first | (simp [entryFrame, mkF, argsToLocals, Value.category]; done) | rfl
def QalEmpty (Z : State) (a : Addr) (n : Int32) (h0 : Heap) (n0 : Nat) (v : Option Value) (h : Heap) (L : List Loc) : Prop := v = some (.int (0 : Int32)) ∧ Fr n0 L ∧ h = h0
set_option maxRecDepth 65536 in
set_option maxHeartbeats 40000000 in
theorem rmalEmpty (l : Launch) (Z : State) (a0 : Array Value) (hw : ∀ d ∈ tables_1, d.before a0 Z = true) (ws : List Jvm.Cond) (a : Addr) (n : Int32) (h0 : Heap) (n0 : Nat) (O0 : Old Z n0 h0) (hp0 : Fld Z h0 a "java/util/ArrayList" "size" "I" (.int n)) (hn : (¬ (n = (0 : Int32)))) :
    MetFree l mN25 (head1 (Jvm.Cond.code mN25 jdk_38_method_9_code 1 (some .boolean) :: ws) ({ frames := 0, cells := 0, slots := 0, locals := 0 } : Room)) (fun as_ U => as_ = #[(.ref a)] ∧ Z.Warmed39 U.vm ∧ U.heap = h0) (fun _ _ _ _ _ => True) (fun _ U o U' => ∃ v L, o = .returned v ∧ QalEmpty Z a n h0 n0 v U'.heap L ∧ FrameEnd U o U' L ({ frames := 0, cells := 0, slots := 0, locals := 0 } : Room).cells ({ frames := 0, cells := 0, slots := 0, locals := 0 } : Room).slots) := by
  refine MetFree.of_bodySF (plainFor_of_name pn_java_util_ArrayList) hisR ?_
  intro p e s m args below meth c s₁ Bd hml0 hP hK
  obtain ⟨rfl, hZ, hh⟩ := hP
  have hx := Bd.exec
  have hby := Bd.bytes
  have hml : c.maxLocals = 1 := hml0
  have hown : s.vm.findClass "java/util/ArrayList" = some m.cls := findClass_of_methodNamed Bd.named
  have hnm := (name_of_methodNamed Bd.named Bd.method).1
  have X0 : Stand p l e ({ frames := 0, cells := 0, slots := 0, locals := 0 } : Room) s m #[(.ref a)] below meth c s₁ [] 0 0 := Stand.of_body Bd
  have e0 : s₁.heap = h0 := by rw [← hh, Bd.state]; rfl
  have N0 := Fr.nil n0
  have Z0 := own_z0 O0
  have pre0 : ∀ tg_, Steps p.tables e below (s₁.setTop (mkF m 0 #[.val (.ref a)] [])) tg_ → Steps p.tables e below (s₁.setTop (entryFrame m #[(.ref a)] 1)) tg_ := fun tg_ kt_ => castTop (ef_alEmpty m a) kt_
  obtain ⟨T1, X1, e1, st1⟩ := getF X0 hx hZ hown (host := "") (Or.inl (hw _ w_85)) Via.refl e0 hp0 (g := (mkF m 1 #[.val (.ref a)] [(.ref a)])) rfl rfl (hb hby d30_1)
  obtain ⟨fs, hr, hrun, hended, hW, hsame⟩ := X1.leave (v := some (.int (0 : Int32))) (fun h => by rw [Bd.returns] at h; cases h)
  refine ⟨_, _, pre0 _ ?_, hrun, hended, _, _, rfl, ?_, ⟨_, rfl⟩, hW, hsame.mono (by decide) (by decide)⟩
  · refine XS.aloadN X0.here hx rfl (hb hby d30_0) rfl rfl ?_
    show Steps p.tables e below (s₁.setTop (mkF m 1 #[.val (.ref a)] [(.ref a)])) _
    refine st1 _ ?_
    refine XS.ifYes X1.here hx rfl (pc0 := 4) (pc' := 11) rfl (hb hby d30_4) rfl ((if0 _ _).trans (feq hn).2) (by decide) (by decide) ?_
    refine XS.iconst X1.here hx rfl (hb hby d30_11) ?_
    show Steps p.tables e below (T1.setTop (mkF m 12 #[.val (.ref a)] [(.int (0 : Int32))])) _
    exact retN X1 hx (t := .boolean) Bd.returns (by simp) (hb hby d30_12) hr
  · show QalEmpty Z a n h0 n0 _ T1.heap _
    rw [e1]
    exact ⟨rfl, N0, rfl⟩
theorem d38_0 : decode jdk_47_method_1_code 0 = .ok (.aload_n 0, 1) := by decide +kernel
theorem w_272 : (Jvm.Cond.methodLink "java/util/ImmutableCollections$AbstractImmutableCollection" (1 : Nat) ({ cls := "java/util/AbstractCollection", name := "<init>", desc := "()V" } : Jvm.MethodName)) ∈ tables_1 := List.mem_of_getElem? (i := 272) (by decide +kernel)
theorem d38_1 : decode jdk_47_method_1_code 1 = .ok (.invokespecial 1, 3) := by decide +kernel
theorem d38_4 : decode jdk_47_method_1_code 4 = .ok (.return_, 1) := by decide +kernel
abbrev mN26 : MethodName := ⟨"java/util/ImmutableCollections$AbstractImmutableCollection", "<init>", "()V"⟩
theorem ef_aicInit (m : MethodId) (x0 : Addr) : entryFrame m #[(.ref x0)] 1 = mkF m 0 #[.val (.ref x0)] [] := by first | (simp [entryFrame, mkF, argsToLocals, Value.category]; done) | rfl
def QaicInit (Z : State) (a : Addr) (h0 : Heap) (n0 : Nat) (v : Option Value) (h : Heap) (L : List Loc) : Prop := v = none ∧ Fr n0 L ∧ h = h0
theorem pn_java_util_ImmutableCollections_AbstractImmutableCollection : plainName "java/util/ImmutableCollections$AbstractImmutableCollection" = true := by first | (simp [plainName, overriddenIn]; done) | decide +kernel
set_option maxRecDepth 65536 in
set_option maxHeartbeats 40000000 in
theorem rmaicInit (l : Launch) (Z : State) (a0 : Array Value) (hw : ∀ d ∈ tables_1, d.before a0 Z = true) (ws : List Jvm.Cond) (a : Addr) (h0 : Heap) (n0 : Nat) (O0 : Old Z n0 h0)  :
    MetFree l mN26 (head1 (Jvm.Cond.code mN26 jdk_47_method_1_code 1 none :: ws) ({ frames := 2, cells := 0, slots := 0, locals := 24 } : Room)) (fun as_ U => as_ = #[(.ref a)] ∧ Z.Warmed39 U.vm ∧ U.heap = h0) (fun _ _ _ _ _ => True) (fun _ U o U' => ∃ v L, o = .returned v ∧ QaicInit Z a h0 n0 v U'.heap L ∧ FrameEnd U o U' L ({ frames := 2, cells := 0, slots := 0, locals := 24 } : Room).cells ({ frames := 2, cells := 0, slots := 0, locals := 24 } : Room).slots) := by
  refine MetFree.of_bodySF (plainFor_of_name pn_java_util_ImmutableCollections_AbstractImmutableCollection) hisR ?_
  intro p e s m args below meth c s₁ Bd hml0 hP hK
  obtain ⟨rfl, hZ, hh⟩ := hP
  have hx := Bd.exec
  have hby := Bd.bytes
  have hml : c.maxLocals = 1 := hml0
  have hown : s.vm.findClass "java/util/ImmutableCollections$AbstractImmutableCollection" = some m.cls := findClass_of_methodNamed Bd.named
  have hnm := (name_of_methodNamed Bd.named Bd.method).1
  have X0 : Stand p l e ({ frames := 2, cells := 0, slots := 0, locals := 24 } : Room) s m #[(.ref a)] below meth c s₁ [] 0 0 := Stand.of_body Bd
  have e0 : s₁.heap = h0 := by rw [← hh, Bd.state]; rfl
  have N0 := Fr.nil n0
  have Z0 := own_z0 O0
  have pre0 : ∀ tg_, Steps p.tables e below (s₁.setTop (mkF m 0 #[.val (.ref a)] [])) tg_ → Steps p.tables e below (s₁.setTop (entryFrame m #[(.ref a)] 1)) tg_ := fun tg_ kt_ => castTop (ef_aicInit m a) kt_
  obtain ⟨_, _, ⟨T1, L1, k1, n1⟩, -, X1, ⟨Lc1, hQ1, l1, y1, z1⟩, st1⟩ := X0.specialBack hx (y := mN8) rfl hown (mvT hZ (hw _ w_272)) (mvT hZ (hw _ w_67)) (mvT hZ (hw _ w_71)) (by decide) (backOf (W := 0) (rmabcInit l Z a0 hw [] a h0 n0 O0 ) hZ (hw _ w_71) (hw _ w_70) (by decide) (by decide)) (g := (mkF m 1 #[.val (.ref a)] [(.ref a)])) rfl (by rw [hml]; rfl) (Steps.refl _) (a := a) (argsL := []) (rest := []) (lenOf pd___V rfl) rfl (by show 2 * 0 + _ ≤ _; exact Nat.le_of_eq rfl) (hb hby d38_1) (fun _ _ => ⟨rfl, e0, (by decide : 0 + 0 ≤ _), (by decide : 0 + 0 ≤ _)⟩)
  dsimp only [Pt.U, Pt.locs, Pt.cells, Pt.slots] at X1 l1 y1 z1 st1 hQ1
  subst l1 y1 z1
  obtain ⟨rfl, N1q, eh1⟩ := hQ1
  have N1 := Fr.app N0 N1q
  obtain ⟨fs, hr, hrun, hended, hW, hsame⟩ := X1.leave (v := none) (fun _ => rfl)
  refine ⟨_, _, pre0 _ ?_, hrun, hended, _, _, rfl, ?_, ⟨_, rfl⟩, hW, hsame.mono (by decide) (by decide)⟩
  · refine XS.aloadN X0.here hx rfl (hb hby d38_0) rfl rfl ?_
    show Steps p.tables e below (s₁.setTop (mkF m 1 #[.val (.ref a)] [(.ref a)])) _
    refine st1.trans ?_
    show Steps p.tables e below (T1.setTop (mkF m 4 #[.val (.ref a)] [])) _
    exact X1.returnOut hx Bd.returns (hb hby d38_4) hr
  · show QaicInit Z a h0 n0 _ T1.heap _
    rw [eh1]
    exact ⟨rfl, N1, rfl⟩
theorem d37_0 : decode jdk_46_method_1_code 0 = .ok (.aload_n 0, 1) := by decide +kernel
theorem w_266 : (Jvm.Cond.methodLink "java/util/ImmutableCollections$AbstractImmutableList" (1 : Nat) ({ cls := "java/util/ImmutableCollections$AbstractImmutableCollection", name := "<init>", desc := "()V" } : Jvm.MethodName)) ∈ tables_1 := List.mem_of_getElem? (i := 266) (by decide +kernel)
theorem w_271 : (Jvm.Cond.code ({ cls := "java/util/ImmutableCollections$AbstractImmutableCollection", name := "<init>", desc := "()V" } : Jvm.MethodName) jdk_47_method_1_code (1 : Nat) (Option.none : Option Jvm.ClassFile.FieldType)) ∈ tables_1 := List.mem_of_getElem? (i := 271) (by decide +kernel)
theorem w_270 : (Jvm.Cond.initialized "java/util/ImmutableCollections$AbstractImmutableCollection") ∈ tables_1 := List.mem_of_getElem? (i := 270) (by decide +kernel)
theorem d37_1 : decode jdk_46_method_1_code 1 = .ok (.invokespecial 1, 3) := by decide +kernel
theorem w_267 : (Jvm.Cond.instanceMethod ({ cls := "java/util/ImmutableCollections$AbstractImmutableCollection", name := "<init>", desc := "()V" } : Jvm.MethodName)) ∈ tables_1 := List.mem_of_getElem? (i := 267) (by decide +kernel)
theorem d37_4 : decode jdk_46_method_1_code 4 = .ok (.return_, 1) := by decide +kernel
abbrev mN27 : MethodName := ⟨"java/util/ImmutableCollections$AbstractImmutableList", "<init>", "()V"⟩
theorem ef_ailInit (m : MethodId) (x0 : Addr) : entryFrame m #[(.ref x0)] 1 = mkF m 0 #[.val (.ref x0)] [] := by first | (simp [entryFrame, mkF, argsToLocals, Value.category]; done) | rfl
def QailInit (Z : State) (a : Addr) (h0 : Heap) (n0 : Nat) (v : Option Value) (h : Heap) (L : List Loc) : Prop := v = none ∧ Fr n0 L ∧ h = h0
theorem pn_java_util_ImmutableCollections_AbstractImmutableList : plainName "java/util/ImmutableCollections$AbstractImmutableList" = true := by first | (simp [plainName, overriddenIn]; done) | decide +kernel
set_option maxRecDepth 65536 in
set_option maxHeartbeats 40000000 in
theorem rmailInit (l : Launch) (Z : State) (a0 : Array Value) (hw : ∀ d ∈ tables_1, d.before a0 Z = true) (ws : List Jvm.Cond) (a : Addr) (h0 : Heap) (n0 : Nat) (O0 : Old Z n0 h0)  :
    MetFree l mN27 (head1 (Jvm.Cond.code mN27 jdk_46_method_1_code 1 none :: ws) ({ frames := 3, cells := 0, slots := 0, locals := 36 } : Room)) (fun as_ U => as_ = #[(.ref a)] ∧ Z.Warmed39 U.vm ∧ U.heap = h0) (fun _ _ _ _ _ => True) (fun _ U o U' => ∃ v L, o = .returned v ∧ QailInit Z a h0 n0 v U'.heap L ∧ FrameEnd U o U' L ({ frames := 3, cells := 0, slots := 0, locals := 36 } : Room).cells ({ frames := 3, cells := 0, slots := 0, locals := 36 } : Room).slots) := by
  refine MetFree.of_bodySF (plainFor_of_name pn_java_util_ImmutableCollections_AbstractImmutableList) hisR ?_
  intro p e s m args below meth c s₁ Bd hml0 hP hK
  obtain ⟨rfl, hZ, hh⟩ := hP
  have hx := Bd.exec
  have hby := Bd.bytes
  have hml : c.maxLocals = 1 := hml0
  have hown : s.vm.findClass "java/util/ImmutableCollections$AbstractImmutableList" = some m.cls := findClass_of_methodNamed Bd.named
  have hnm := (name_of_methodNamed Bd.named Bd.method).1
  have X0 : Stand p l e ({ frames := 3, cells := 0, slots := 0, locals := 36 } : Room) s m #[(.ref a)] below meth c s₁ [] 0 0 := Stand.of_body Bd
  have e0 : s₁.heap = h0 := by rw [← hh, Bd.state]; rfl
  have N0 := Fr.nil n0
  have Z0 := own_z0 O0
  have pre0 : ∀ tg_, Steps p.tables e below (s₁.setTop (mkF m 0 #[.val (.ref a)] [])) tg_ → Steps p.tables e below (s₁.setTop (entryFrame m #[(.ref a)] 1)) tg_ := fun tg_ kt_ => castTop (ef_ailInit m a) kt_
  obtain ⟨_, _, ⟨T1, L1, k1, n1⟩, -, X1, ⟨Lc1, hQ1, l1, y1, z1⟩, st1⟩ := X0.specialBack hx (y := mN26) rfl hown (mvT hZ (hw _ w_266)) (mvT hZ (hw _ w_267)) (mvT hZ (hw _ w_271)) (by decide) (backOf (W := 0) (rmaicInit l Z a0 hw [] a h0 n0 O0 ) hZ (hw _ w_271) (hw _ w_270) (by decide) (by decide)) (g := (mkF m 1 #[.val (.ref a)] [(.ref a)])) rfl (by rw [hml]; rfl) (Steps.refl _) (a := a) (argsL := []) (rest := []) (lenOf pd___V rfl) rfl (by show 2 * 0 + _ ≤ _; exact Nat.le_of_eq rfl) (hb hby d37_1) (fun _ _ => ⟨rfl, e0, (by decide : 0 + 0 ≤ _), (by decide : 0 + 0 ≤ _)⟩)
  dsimp only [Pt.U, Pt.locs, Pt.cells, Pt.slots] at X1 l1 y1 z1 st1 hQ1
  subst l1 y1 z1
  obtain ⟨rfl, N1q, eh1⟩ := hQ1
  have N1 := Fr.app N0 N1q
  obtain ⟨fs, hr, hrun, hended, hW, hsame⟩ := X1.leave (v := none) (fun _ => rfl)
  refine ⟨_, _, pre0 _ ?_, hrun, hended, _, _, rfl, ?_, ⟨_, rfl⟩, hW, hsame.mono (by decide) (by decide)⟩
  · refine XS.aloadN X0.here hx rfl (hb hby d37_0) rfl rfl ?_
    show Steps p.tables e below (s₁.setTop (mkF m 1 #[.val (.ref a)] [(.ref a)])) _
    refine st1.trans ?_
    show Steps p.tables e below (T1.setTop (mkF m 4 #[.val (.ref a)] [])) _
    exact X1.returnOut hx Bd.returns (hb hby d37_4) hr
  · show QailInit Z a h0 n0 _ T1.heap _
    rw [eh1]
    exact ⟨rfl, N1, rfl⟩
theorem d45_0 : decode jdk_44_method_1_code 0 = .ok (.aload_n 0, 1) := by decide +kernel
theorem w_260 : (Jvm.Cond.methodLink "java/util/ImmutableCollections$List12" (1 : Nat) ({ cls := "java/util/ImmutableCollections$AbstractImmutableList", name := "<init>", desc := "()V" } : Jvm.MethodName)) ∈ tables_1 := List.mem_of_getElem? (i := 260) (by decide +kernel)
theorem w_265 : (Jvm.Cond.code ({ cls := "java/util/ImmutableCollections$AbstractImmutableList", name := "<init>", desc := "()V" } : Jvm.MethodName) jdk_46_method_1_code (1 : Nat) (Option.none : Option Jvm.ClassFile.FieldType)) ∈ tables_1 := List.mem_of_getElem? (i := 265) (by decide +kernel)
theorem w_264 : (Jvm.Cond.initialized "java/util/ImmutableCollections$AbstractImmutableList") ∈ tables_1 := List.mem_of_getElem? (i := 264) (by decide +kernel)
theorem d45_1 : decode jdk_44_method_1_code 1 = .ok (.invokespecial 1, 3) := by decide +kernel
theorem w_261 : (Jvm.Cond.instanceMethod ({ cls := "java/util/ImmutableCollections$AbstractImmutableList", name := "<init>", desc := "()V" } : Jvm.MethodName)) ∈ tables_1 := List.mem_of_getElem? (i := 261) (by decide +kernel)
theorem d45_4 : decode jdk_44_method_1_code 4 = .ok (.aload_n 0, 1) := by decide +kernel
theorem d45_5 : decode jdk_44_method_1_code 5 = .ok (.aload_n 1, 1) := by decide +kernel
theorem w_274 : (Jvm.Cond.methodLink "java/util/ImmutableCollections$List12" (7 : Nat) ({ cls := "java/util/Objects", name := "requireNonNull", desc := "(Ljava/lang/Object;)Ljava/lang/Object;" } : Jvm.MethodName)) ∈ tables_1 := List.mem_of_getElem? (i := 274) (by decide +kernel)
theorem w_276 : (Jvm.Cond.code ({ cls := "java/util/Objects", name := "requireNonNull", desc := "(Ljava/lang/Object;)Ljava/lang/Object;" } : Jvm.MethodName) jdk_31_method_10_code (1 : Nat) (Option.some (Jvm.ClassFile.FieldType.object "java/lang/Object"))) ∈ tables_1 := List.mem_of_getElem? (i := 276) (by decide +kernel)
theorem pd__Ljava_lang_Object__Ljava_lang_Object_ : parseMethodDescriptor "(Ljava/lang/Object;)Ljava/lang/Object;" = some ⟨[(.object "java/lang/Object")], some (.object "java/lang/Object")⟩ := by decide +kernel
theorem d45_6 : decode jdk_44_method_1_code 6 = .ok (.invokestatic 7, 3) := by decide +kernel
theorem w_275 : (Jvm.Cond.static ({ cls := "java/util/Objects", name := "requireNonNull", desc := "(Ljava/lang/Object;)Ljava/lang/Object;" } : Jvm.MethodName)) ∈ tables_1 := List.mem_of_getElem? (i := 275) (by decide +kernel)
theorem w_277 : (Jvm.Cond.fieldLink "java/util/ImmutableCollections$List12" (13 : Nat) "java/util/ImmutableCollections$List12" "e0" "Ljava/lang/Object;") ∈ tables_1 := List.mem_of_getElem? (i := 277) (by decide +kernel)
theorem w_278 : (Jvm.Cond.laysFinal "java/util/ImmutableCollections$List12" "java/util/ImmutableCollections$List12" "e0" "Ljava/lang/Object;") ∈ tables_1 := List.mem_of_getElem? (i := 278) (by decide +kernel)
theorem w_254 : (Jvm.Cond.instantiable "java/util/ImmutableCollections$List12" (2 : Nat)) ∈ tables_1 := List.mem_of_getElem? (i := 254) (by decide +kernel)
theorem d45_9 : decode jdk_44_method_1_code 9 = .ok (.putfield 13, 3) := by decide +kernel
theorem d45_12 : decode jdk_44_method_1_code 12 = .ok (.aload_n 0, 1) := by decide +kernel
theorem w_316 : (Jvm.Cond.fieldLinkNest "java/util/ImmutableCollections$List12" (19 : Nat) "java/util/ImmutableCollections" "EMPTY" "Ljava/lang/Object;" "java/util/ImmutableCollections") ∈ tables_1 := List.mem_of_getElem? (i := 316) (by decide +kernel)
theorem d45_13 : decode jdk_44_method_1_code 13 = .ok (.getstatic 19, 3) := by decide +kernel
theorem w_279 : (Jvm.Cond.fieldLink "java/util/ImmutableCollections$List12" (24 : Nat) "java/util/ImmutableCollections$List12" "e1" "Ljava/lang/Object;") ∈ tables_1 := List.mem_of_getElem? (i := 279) (by decide +kernel)
theorem w_280 : (Jvm.Cond.laysFinal "java/util/ImmutableCollections$List12" "java/util/ImmutableCollections$List12" "e1" "Ljava/lang/Object;") ∈ tables_1 := List.mem_of_getElem? (i := 280) (by decide +kernel)
theorem d45_16 : decode jdk_44_method_1_code 16 = .ok (.putfield 24, 3) := by decide +kernel
theorem d45_19 : decode jdk_44_method_1_code 19 = .ok (.return_, 1) := by decide +kernel
abbrev mN28 : MethodName := ⟨"java/util/ImmutableCollections$List12", "<init>", "(Ljava/lang/Object;)V"⟩
theorem ef_l12a (m : MethodId) (x0 : Addr) (x1 : Addr) : entryFrame m #[(.ref x0), (.ref x1)] 2 = mkF m 0 #[.val (.ref x0), .val (.ref x1)] [] := by first | (simp [entryFrame, mkF, argsToLocals, Value.category]; done) | rfl
def Ql12a (Z : State) (a : Addr) (xo : Addr) (em : Addr) (u0 : Value) (u1 : Value) (h0 : Heap) (n0 : Nat) (v : Option Value) (h : Heap) (L : List Loc) : Prop := v = none ∧ Fr n0 L ∧ Keep h0 h [a] ∧ Exa Z h a "java/util/ImmutableCollections$List12" ∧ Fld Z h a "java/util/ImmutableCollections$List12" "e0" "Ljava/lang/Object;" (.ref xo)
theorem pn_java_util_ImmutableCollections_List12 : plainName "java/util/ImmutableCollections$List12" = true := by first | (simp [plainName, overriddenIn]; done) | decide +kernel
set_option maxRecDepth 65536 in
set_option maxHeartbeats 40000000 in
theorem rml12a (l : Launch) (Z : State) (a0 : Array Value) (hw : ∀ d ∈ tables_1, d.before a0 Z = true) (ws : List Jvm.Cond) (a : Addr) (xo : Addr) (em : Addr) (u0 : Value) (u1 : Value) (h0 : Heap) (n0 : Nat) (O0 : Old Z n0 h0) (hp0 : Exa Z h0 a "java/util/ImmutableCollections$List12") (hp1 : n0 ≤ a) (hp2 : Fld Z h0 a "java/util/ImmutableCollections$List12" "e0" "Ljava/lang/Object;" u0) (hp3 : Fld Z h0 a "java/util/ImmutableCollections$List12" "e1" "Ljava/lang/Object;" u1) (hp4 : Sta Z Z.heap "java/util/ImmutableCollections" "EMPTY" "Ljava/lang/Object;" (.ref em)) :
    MetFree l mN28 (head1 (Jvm.Cond.code mN28 jdk_44_method_1_code 2 none :: ws) ({ frames := 4, cells := 0, slots := 0, locals := 48 } : Room)) (fun as_ U => as_ = #[(.ref a), (.ref xo)] ∧ Z.Warmed39 U.vm ∧ U.heap = h0) (fun _ _ _ _ _ => True) (fun _ U o U' => ∃ v L, o = .returned v ∧ Ql12a Z a xo em u0 u1 h0 n0 v U'.heap L ∧ FrameEnd U o U' L ({ frames := 4, cells := 0, slots := 0, locals := 48 } : Room).cells ({ frames := 4, cells := 0, slots := 0, locals := 48 } : Room).slots) := by
  refine MetFree.of_bodySF (plainFor_of_name pn_java_util_ImmutableCollections_List12) hisR ?_
  intro p e s m args below meth c s₁ Bd hml0 hP hK
  obtain ⟨rfl, hZ, hh⟩ := hP
  have hx := Bd.exec
  have hby := Bd.bytes
  have hml : c.maxLocals = 2 := hml0
  have hown : s.vm.findClass "java/util/ImmutableCollections$List12" = some m.cls := findClass_of_methodNamed Bd.named
  have hnm := (name_of_methodNamed Bd.named Bd.method).1
  have X0 : Stand p l e ({ frames := 4, cells := 0, slots := 0, locals := 48 } : Room) s m #[(.ref a), (.ref xo)] below meth c s₁ [] 0 0 := Stand.of_body Bd
  have e0 : s₁.heap = h0 := by rw [← hh, Bd.state]; rfl
  have N0 := Fr.nil n0
  have Z0 := own_z0 O0
  have pre0 : ∀ tg_, Steps p.tables e below (s₁.setTop (mkF m 0 #[.val (.ref a), .val (.ref xo)] [])) tg_ → Steps p.tables e below (s₁.setTop (entryFrame m #[(.ref a), (.ref xo)] 2)) tg_ := fun tg_ kt_ => castTop (ef_l12a m a xo) kt_
  obtain ⟨_, _, ⟨T1, L1, k1, n1⟩, -, X1, ⟨Lc1, hQ1, l1, y1, z1⟩, st1⟩ := X0.specialBack hx (y := mN27) rfl hown (mvT hZ (hw _ w_260)) (mvT hZ (hw _ w_261)) (mvT hZ (hw _ w_265)) (by decide) (backOf (W := 0) (rmailInit l Z a0 hw [] a h0 n0 O0 ) hZ (hw _ w_265) (hw _ w_264) (by decide) (by decide)) (g := (mkF m 1 #[.val (.ref a), .val (.ref xo)] [(.ref a)])) rfl (by rw [hml]; rfl) (Steps.refl _) (a := a) (argsL := []) (rest := []) (lenOf pd___V rfl) rfl (by show 2 * 0 + _ ≤ _; exact Nat.le_of_eq rfl) (hb hby d45_1) (fun _ _ => ⟨rfl, e0, (by decide : 0 + 0 ≤ _), (by decide : 0 + 0 ≤ _)⟩)
  dsimp only [Pt.U, Pt.locs, Pt.cells, Pt.slots] at X1 l1 y1 z1 st1 hQ1
  subst l1 y1 z1
  obtain ⟨rfl, N1q, eh1⟩ := hQ1
  have N1 := Fr.app N0 N1q
  obtain ⟨_, _, ⟨T2, L2, k2, n2⟩, -, X2, ⟨Lc2, hQ2, l2, y2, z2⟩, st2⟩ := Jvm.LawKit.callS X1 hx (y := mN24) hown (mvT hZ (hw _ w_274)) (mvT hZ (hw _ w_275)) (mvT hZ (hw _ w_126)) (mvT hZ (hw _ w_276)) (by decide) (backOf (W := 1) (rmrnn l Z a0 hw [] xo h0 n0 O0 ) hZ (hw _ w_276) (hw _ w_126) (by decide) (by decide)) (g := (mkF m 6 #[.val (.ref a), .val (.ref xo)] [(.ref xo), (.ref a)])) rfl (by rw [hml]; rfl) (argsL := [(.ref xo)]) (rest := [(.ref a)]) (lenOf pd__Ljava_lang_Object__Ljava_lang_Object_ rfl) rfl (by show 2 * 0 + _ ≤ _; exact Nat.le_of_eq rfl) (hb hby d45_6) (fun _ _ => ⟨rfl, eh1, (by decide : 0 + 0 ≤ _), (by decide : 0 + 0 ≤ _)⟩)
  dsimp only [Pt.U, Pt.locs, Pt.cells, Pt.slots] at X2 l2 y2 z2 st2 hQ2
  subst l2 y2 z2
  obtain ⟨rfl, N2q, eh2⟩ := hQ2
  have N2 := Fr.app N1 N2q
  obtain ⟨T3, h3, X3, e3, W3, st3⟩ := putF X2 hx hZ hown (host := "") (Or.inl (hw _ w_277)) Via.refl eh2 hp2 hp0 (Or.inr ⟨(hw _ w_278), rfl, hnm⟩) (hw _ w_254) (ty := (.object "java/lang/Object")) (by decide) rfl rfl (g := (mkF m 9 #[.val (.ref a), .val (.ref xo)] [(.ref xo), (.ref a)])) rfl rfl (hb hby d45_9)
  have Fw3 := hp2.same W3
  have N3 := Fr.snoc X3 N2 hp1
  have O3 : Old Z n0 h3 := O0.wr W3 hp1
  have K3 : Keep h0 h3 [a] := (Keep.refl h0 [a]).wr W3 (Or.inl (List.mem_of_getElem? (i := 0) rfl))
  obtain ⟨T4, X4, e4, st4⟩ := getS2 X3 hx hZ hown (Or.inr (hw _ w_316)) Via.refl e3 (hp4.ext O3.2) (g := (mkF m 13 #[.val (.ref a), .val (.ref xo)] [(.ref a)])) rfl (hb hby d45_13)
  obtain ⟨T5, h5, X5, e5, W5, st5⟩ := putF X4 hx hZ hown (host := "") (Or.inl (hw _ w_279)) Via.refl e4 (hp3.other W3 (Or.inr (slot_ne (Or.inr (hw _ w_280)) (Or.inr (hw _ w_278)) (by decide) (t := (.object "java/lang/Object")) (t' := (.object "java/lang/Object")) (by decide) (by decide)))) (hp0.wr W3) (Or.inr ⟨(hw _ w_280), rfl, hnm⟩) (hw _ w_254) (ty := (.object "java/lang/Object")) (by decide) rfl rfl (g := (mkF m 16 #[.val (.ref a), .val (.ref xo)] [(.ref em), (.ref a)])) rfl rfl (hb hby d45_16)
  have Fw5 := (hp3.other W3 (Or.inr (slot_ne (Or.inr (hw _ w_280)) (Or.inr (hw _ w_278)) (by decide) (t := (.object "java/lang/Object")) (t' := (.object "java/lang/Object")) (by decide) (by decide)))).same W5
  have N5 := Fr.snoc X5 N3 hp1
  have O5 : Old Z n0 h5 := O3.wr W5 hp1
  have K5 : Keep h0 h5 [a] := K3.wr W5 (Or.inl (List.mem_of_getElem? (i := 0) rfl))
  obtain ⟨fs, hr, hrun, hended, hW, hsame⟩ := X5.leave (v := none) (fun _ => rfl)
  refine ⟨_, _, pre0 _ ?_, hrun, hended, _, _, rfl, ?_, ⟨_, rfl⟩, hW, hsame.mono (by decide) (by decide)⟩
  · refine XS.aloadN X0.here hx rfl (hb hby d45_0) rfl rfl ?_
    show Steps p.tables e below (s₁.setTop (mkF m 1 #[.val (.ref a), .val (.ref xo)] [(.ref a)])) _
    refine st1.trans ?_
    refine XS.aloadN X1.here hx rfl (hb hby d45_4) rfl rfl ?_
    refine XS.aloadN X1.here hx rfl (hb hby d45_5) rfl rfl ?_
    show Steps p.tables e below (T1.setTop (mkF m 6 #[.val (.ref a), .val (.ref xo)] [(.ref xo), (.ref a)])) _
    refine st2 _ ?_
    show Steps p.tables e below (T2.setTop (mkF m 9 #[.val (.ref a), .val (.ref xo)] [(.ref xo), (.ref a)])) _
    refine st3 _ ?_
    refine XS.aloadN X3.here hx rfl (hb hby d45_12) rfl rfl ?_
    show Steps p.tables e below (T3.setTop (mkF m 13 #[.val (.ref a), .val (.ref xo)] [(.ref a)])) _
    refine st4 _ ?_
    show Steps p.tables e below (T4.setTop (mkF m 16 #[.val (.ref a), .val (.ref xo)] [(.ref em), (.ref a)])) _
    refine st5 _ ?_
    show Steps p.tables e below (T5.setTop (mkF m 19 #[.val (.ref a), .val (.ref xo)] [])) _
    exact X5.returnOut hx Bd.returns (hb hby d45_19) hr
  · show Ql12a Z a xo em u0 u1 h0 n0 _ T5.heap _
    rw [e5]
    exact ⟨rfl, N5, K5, ((hp0.wr W3).wr W5), (Fw3.other W5 (Or.inr (slot_ne (Or.inr (hw _ w_278)) (Or.inr (hw _ w_280)) (by decide) (t := (.object "java/lang/Object")) (t' := (.object "java/lang/Object")) (by decide) (by decide))))⟩
theorem d36_0 : decode jdk_44_method_2_code 0 = .ok (.aload_n 0, 1) := by decide +kernel
theorem d36_1 : decode jdk_44_method_2_code 1 = .ok (.invokespecial 1, 3) := by decide +kernel
theorem d36_4 : decode jdk_44_method_2_code 4 = .ok (.aload_n 0, 1) := by decide +kernel
theorem d36_5 : decode jdk_44_method_2_code 5 = .ok (.aload_n 1, 1) := by decide +kernel
theorem d36_6 : decode jdk_44_method_2_code 6 = .ok (.invokestatic 7, 3) := by decide +kernel
theorem d36_9 : decode jdk_44_method_2_code 9 = .ok (.putfield 13, 3) := by decide +kernel
theorem d36_12 : decode jdk_44_method_2_code 12 = .ok (.aload_n 0, 1) := by decide +kernel
theorem d36_13 : decode jdk_44_method_2_code 13 = .ok (.aload_n 2, 1) := by decide +kernel
theorem d36_14 : decode jdk_44_method_2_code 14 = .ok (.invokestatic 7, 3) := by decide +kernel
theorem d36_17 : decode jdk_44_method_2_code 17 = .ok (.putfield 24, 3) := by decide +kernel
theorem d36_20 : decode jdk_44_method_2_code 20 = .ok (.return_, 1) := by decide +kernel
abbrev mN29 : MethodName := ⟨"java/util/ImmutableCollections$List12", "<init>", "(Ljava/lang/Object;Ljava/lang/Object;)V"⟩
theorem ef_l12b (m : MethodId) (x0 : Addr) (x1 : Addr) (x2 : Addr) : entryFrame m #[(.ref x0), (.ref x1), (.ref x2)] 3 = mkF m 0 #[.val (.ref x0), .val (.ref x1), .val (.ref x2)] [] := by first | (simp [entryFrame, mkF, argsToLocals, Value.category]; done) | rfl
def Ql12b (Z : State) (a : Addr) (xo : Addr) (y : Addr) (u0 : Value) (u1 : Value) (h0 : Heap) (n0 : Nat) (v : Option Value) (h : Heap) (L : List Loc) : Prop := v = none ∧ Fr n0 L ∧ Keep h0 h [a] ∧ Exa Z h a "java/util/ImmutableCollections$List12" ∧ Fld Z h a "java/util/ImmutableCollections$List12" "e0" "Ljava/lang/Object;" (.ref xo)
set_option maxRecDepth 65536 in
set_option maxHeartbeats 40000000 in
theorem rml12b (l : Launch) (Z : State) (a0 : Array Value) (hw : ∀ d ∈ tables_1, d.before a0 Z = true) (ws : List Jvm.Cond) (a : Addr) (xo : Addr) (y : Addr) (u0 : Value) (u1 : Value) (h0 : Heap) (n0 : Nat) (O0 : Old Z n0 h0) (hp0 : Exa Z h0 a "java/util/ImmutableCollections$List12") (hp1 : n0 ≤ a) (hp2 : Fld Z h0 a "java/util/ImmutableCollections$List12" "e0" "Ljava/lang/Object;" u0) (hp3 : Fld Z h0 a "java/util/ImmutableCollections$List12" "e1" "Ljava/lang/Object;" u1) :
    MetFree l mN29 (head1 (Jvm.Cond.code mN29 jdk_44_method_2_code 3 none :: ws) ({ frames := 4, cells := 0, slots := 0, locals := 48 } : Room)) (fun as_ U => as_ = #[(.ref a), (.ref xo), (.ref y)] ∧ Z.Warmed39 U.vm ∧ U.heap = h0) (fun _ _ _ _ _ => True) (fun _ U o U' => ∃ v L, o = .returned v ∧ Ql12b Z a xo y u0 u1 h0 n0 v U'.heap L ∧ FrameEnd U o U' L ({ frames := 4, cells := 0, slots := 0, locals := 48 } : Room).cells ({ frames := 4, cells := 0, slots := 0, locals := 48 } : Room).slots) := by
  refine MetFree.of_bodySF (plainFor_of_name pn_java_util_ImmutableCollections_List12) hisR ?_
  intro p e s m args below meth c s₁ Bd hml0 hP hK
  obtain ⟨rfl, hZ, hh⟩ := hP
  have hx := Bd.exec
  have hby := Bd.bytes
  have hml : c.maxLocals = 3 := hml0
  have hown : s.vm.findClass "java/util/ImmutableCollections$List12" = some m.cls := findClass_of_methodNamed Bd.named
  have hnm := (name_of_methodNamed Bd.named Bd.method).1
  have X0 : Stand p l e ({ frames := 4, cells := 0, slots := 0, locals := 48 } : Room) s m #[(.ref a), (.ref xo), (.ref y)] below meth c s₁ [] 0 0 := Stand.of_body Bd
  have e0 : s₁.heap = h0 := by rw [← hh, Bd.state]; rfl
  have N0 := Fr.nil n0
  have Z0 := own_z0 O0
  have pre0 : ∀ tg_, Steps p.tables e below (s₁.setTop (mkF m 0 #[.val (.ref a), .val (.ref xo), .val (.ref y)] [])) tg_ → Steps p.tables e below (s₁.setTop (entryFrame m #[(.ref a), (.ref xo), (.ref y)] 3)) tg_ := fun tg_ kt_ => castTop (ef_l12b m a xo y) kt_
  obtain ⟨_, _, ⟨T1, L1, k1, n1⟩, -, X1, ⟨Lc1, hQ1, l1, y1, z1⟩, st1⟩ := X0.specialBack hx (y := mN27) rfl hown (mvT hZ (hw _ w_260)) (mvT hZ (hw _ w_261)) (mvT hZ (hw _ w_265)) (by decide) (backOf (W := 0) (rmailInit l Z a0 hw [] a h0 n0 O0 ) hZ (hw _ w_265) (hw _ w_264) (by decide) (by decide)) (g := (mkF m 1 #[.val (.ref a), .val (.ref xo), .val (.ref y)] [(.ref a)])) rfl (by rw [hml]; rfl) (Steps.refl _) (a := a) (argsL := []) (rest := []) (lenOf pd___V rfl) rfl (by show 2 * 0 + _ ≤ _; exact Nat.le_of_eq rfl) (hb hby d36_1) (fun _ _ => ⟨rfl, e0, (by decide : 0 + 0 ≤ _), (by decide : 0 + 0 ≤ _)⟩)
  dsimp only [Pt.U, Pt.locs, Pt.cells, Pt.slots] at X1 l1 y1 z1 st1 hQ1
  subst l1 y1 z1
  obtain ⟨rfl, N1q, eh1⟩ := hQ1
  have N1 := Fr.app N0 N1q
  obtain ⟨_, _, ⟨T2, L2, k2, n2⟩, -, X2, ⟨Lc2, hQ2, l2, y2, z2⟩, st2⟩ := Jvm.LawKit.callS X1 hx (y := mN24) hown (mvT hZ (hw _ w_274)) (mvT hZ (hw _ w_275)) (mvT hZ (hw _ w_126)) (mvT hZ (hw _ w_276)) (by decide) (backOf (W := 1) (rmrnn l Z a0 hw [] xo h0 n0 O0 ) hZ (hw _ w_276) (hw _ w_126) (by decide) (by decide)) (g := (mkF m 6 #[.val (.ref a), .val (.ref xo), .val (.ref y)] [(.ref xo), (.ref a)])) rfl (by rw [hml]; rfl) (argsL := [(.ref xo)]) (rest := [(.ref a)]) (lenOf pd__Ljava_lang_Object__Ljava_lang_Object_ rfl) rfl (by show 2 * 0 + _ ≤ _; exact Nat.le_of_eq rfl) (hb hby d36_6) (fun _ _ => ⟨rfl, eh1, (by decide : 0 + 0 ≤ _), (by decide : 0 + 0 ≤ _)⟩)
  dsimp only [Pt.U, Pt.locs, Pt.cells, Pt.slots] at X2 l2 y2 z2 st2 hQ2
  subst l2 y2 z2
  obtain ⟨rfl, N2q, eh2⟩ := hQ2
  have N2 := Fr.app N1 N2q
  obtain ⟨T3, h3, X3, e3, W3, st3⟩ := putF X2 hx hZ hown (host := "") (Or.inl (hw _ w_277)) Via.refl eh2 hp2 hp0 (Or.inr ⟨(hw _ w_278), rfl, hnm⟩) (hw _ w_254) (ty := (.object "java/lang/Object")) (by decide) rfl rfl (g := (mkF m 9 #[.val (.ref a), .val (.ref xo), .val (.ref y)] [(.ref xo), (.ref a)])) rfl rfl (hb hby d36_9)
  have Fw3 := hp2.same W3
  have N3 := Fr.snoc X3 N2 hp1
  have O3 : Old Z n0 h3 := O0.wr W3 hp1
  have K3 : Keep h0 h3 [a] := (Keep.refl h0 [a]).wr W3 (Or.inl (List.mem_of_getElem? (i := 0) rfl))
  obtain ⟨_, _, ⟨T4, L4, k4, n4⟩, -, X4, ⟨Lc4, hQ4, l4, y4, z4⟩, st4⟩ := Jvm.LawKit.callS X3 hx (y := mN24) hown (mvT hZ (hw _ w_274)) (mvT hZ (hw _ w_275)) (mvT hZ (hw _ w_126)) (mvT hZ (hw _ w_276)) (by decide) (backOf (W := 1) (rmrnn l Z a0 hw [] y h3 n0 O3 ) hZ (hw _ w_276) (hw _ w_126) (by decide) (by decide)) (g := (mkF m 14 #[.val (.ref a), .val (.ref xo), .val (.ref y)] [(.ref y), (.ref a)])) rfl (by rw [hml]; rfl) (argsL := [(.ref y)]) (rest := [(.ref a)]) (lenOf pd__Ljava_lang_Object__Ljava_lang_Object_ rfl) rfl (by show 2 * 0 + _ ≤ _; exact Nat.le_of_eq rfl) (hb hby d36_14) (fun _ _ => ⟨rfl, e3, (by decide : 0 + 0 ≤ _), (by decide : 0 + 0 ≤ _)⟩)
  dsimp only [Pt.U, Pt.locs, Pt.cells, Pt.slots] at X4 l4 y4 z4 st4 hQ4
  subst l4 y4 z4
  obtain ⟨rfl, N4q, eh4⟩ := hQ4
  have N4 := Fr.app N3 N4q
  obtain ⟨T5, h5, X5, e5, W5, st5⟩ := putF X4 hx hZ hown (host := "") (Or.inl (hw _ w_279)) Via.refl eh4 (hp3.other W3 (Or.inr (slot_ne (Or.inr (hw _ w_280)) (Or.inr (hw _ w_278)) (by decide) (t := (.object "java/lang/Object")) (t' := (.object "java/lang/Object")) (by decide) (by decide)))) (hp0.wr W3) (Or.inr ⟨(hw _ w_280), rfl, hnm⟩) (hw _ w_254) (ty := (.object "java/lang/Object")) (by decide) rfl rfl (g := (mkF m 17 #[.val (.ref a), .val (.ref xo), .val (.ref y)] [(.ref y), (.ref a)])) rfl rfl (hb hby d36_17)
  have Fw5 := (hp3.other W3 (Or.inr (slot_ne (Or.inr (hw _ w_280)) (Or.inr (hw _ w_278)) (by decide) (t := (.object "java/lang/Object")) (t' := (.object "java/lang/Object")) (by decide) (by decide)))).same W5
  have N5 := Fr.snoc X5 N4 hp1
  have O5 : Old Z n0 h5 := O3.wr W5 hp1
  have K5 : Keep h0 h5 [a] := K3.wr W5 (Or.inl (List.mem_of_getElem? (i := 0) rfl))
  obtain ⟨fs, hr, hrun, hended, hW, hsame⟩ := X5.leave (v := none) (fun _ => rfl)
  refine ⟨_, _, pre0 _ ?_, hrun, hended, _, _, rfl, ?_, ⟨_, rfl⟩, hW, hsame.mono (by decide) (by decide)⟩
  · refine XS.aloadN X0.here hx rfl (hb hby d36_0) rfl rfl ?_
    show Steps p.tables e below (s₁.setTop (mkF m 1 #[.val (.ref a), .val (.ref xo), .val (.ref y)] [(.ref a)])) _
    refine st1.trans ?_
    refine XS.aloadN X1.here hx rfl (hb hby d36_4) rfl rfl ?_
    refine XS.aloadN X1.here hx rfl (hb hby d36_5) rfl rfl ?_
    show Steps p.tables e below (T1.setTop (mkF m 6 #[.val (.ref a), .val (.ref xo), .val (.ref y)] [(.ref xo), (.ref a)])) _
    refine st2 _ ?_
    show Steps p.tables e below (T2.setTop (mkF m 9 #[.val (.ref a), .val (.ref xo), .val (.ref y)] [(.ref xo), (.ref a)])) _
    refine st3 _ ?_
    refine XS.aloadN X3.here hx rfl (hb hby d36_12) rfl rfl ?_
    refine XS.aloadN X3.here hx rfl (hb hby d36_13) rfl rfl ?_
    show Steps p.tables e below (T3.setTop (mkF m 14 #[.val (.ref a), .val (.ref xo), .val (.ref y)] [(.ref y), (.ref a)])) _
    refine st4 _ ?_
    show Steps p.tables e below (T4.setTop (mkF m 17 #[.val (.ref a), .val (.ref xo), .val (.ref y)] [(.ref y), (.ref a)])) _
    refine st5 _ ?_
    show Steps p.tables e below (T5.setTop (mkF m 20 #[.val (.ref a), .val (.ref xo), .val (.ref y)] [])) _
    exact X5.returnOut hx Bd.returns (hb hby d36_20) hr
  · show Ql12b Z a xo y u0 u1 h0 n0 _ T5.heap _
    rw [e5]
    exact ⟨rfl, N5, K5, ((hp0.wr W3).wr W5), (Fw3.other W5 (Or.inr (slot_ne (Or.inr (hw _ w_278)) (Or.inr (hw _ w_280)) (by decide) (t := (.object "java/lang/Object")) (t' := (.object "java/lang/Object")) (by decide) (by decide))))⟩
theorem d47_0 : decode jdk_45_method_1_code 0 = .ok (.aload_n 0, 1) := by decide +kernel
theorem w_330 : (Jvm.Cond.methodLink "java/util/ImmutableCollections$ListN" (1 : Nat) ({ cls := "java/util/ImmutableCollections$AbstractImmutableList", name := "<init>", desc := "()V" } : Jvm.MethodName)) ∈ tables_1 := List.mem_of_getElem? (i := 330) (by decide +kernel)
theorem d47_1 : decode jdk_45_method_1_code 1 = .ok (.invokespecial 1, 3) := by decide +kernel
theorem d47_4 : decode jdk_45_method_1_code 4 = .ok (.aload_n 0, 1) := by decide +kernel
theorem d47_5 : decode jdk_45_method_1_code 5 = .ok (.aload_n 1, 1) := by decide +kernel
theorem w_334 : (Jvm.Cond.fieldLink "java/util/ImmutableCollections$ListN" (7 : Nat) "java/util/ImmutableCollections$ListN" "elements" "[Ljava/lang/Object;") ∈ tables_1 := List.mem_of_getElem? (i := 334) (by decide +kernel)
theorem w_335 : (Jvm.Cond.laysFinal "java/util/ImmutableCollections$ListN" "java/util/ImmutableCollections$ListN" "elements" "[Ljava/lang/Object;") ∈ tables_1 := List.mem_of_getElem? (i := 335) (by decide +kernel)
theorem w_324 : (Jvm.Cond.instantiable "java/util/ImmutableCollections$ListN" (2 : Nat)) ∈ tables_1 := List.mem_of_getElem? (i := 324) (by decide +kernel)
theorem d47_6 : decode jdk_45_method_1_code 6 = .ok (.putfield 7, 3) := by decide +kernel
theorem d47_9 : decode jdk_45_method_1_code 9 = .ok (.aload_n 0, 1) := by decide +kernel
theorem d47_10 : decode jdk_45_method_1_code 10 = .ok (.iload_n 2, 1) := by decide +kernel
theorem w_336 : (Jvm.Cond.fieldLink "java/util/ImmutableCollections$ListN" (13 : Nat) "java/util/ImmutableCollections$ListN" "allowNulls" "Z") ∈ tables_1 := List.mem_of_getElem? (i := 336) (by decide +kernel)
theorem w_337 : (Jvm.Cond.laysFinal "java/util/ImmutableCollections$ListN" "java/util/ImmutableCollections$ListN" "allowNulls" "Z") ∈ tables_1 := List.mem_of_getElem? (i := 337) (by decide +kernel)
theorem d47_11 : decode jdk_45_method_1_code 11 = .ok (.putfield 13, 3) := by decide +kernel
theorem d47_14 : decode jdk_45_method_1_code 14 = .ok (.return_, 1) := by decide +kernel
abbrev mN30 : MethodName := ⟨"java/util/ImmutableCollections$ListN", "<init>", "([Ljava/lang/Object;Z)V"⟩
theorem ef_lnInit (m : MethodId) (x0 : Addr) (x1 : Addr) (x2 : Int32) : entryFrame m #[(.ref x0), (.ref x1), (.int x2)] 3 = mkF m 0 #[.val (.ref x0), .val (.ref x1), .val (.int x2)] [] := by first | (simp [entryFrame, mkF, argsToLocals, Value.category]; done) | rfl
def QlnInit (Z : State) (a : Addr) (xo : Addr) (u0 : Value) (u1 : Value) (h0 : Heap) (n0 : Nat) (v : Option Value) (h : Heap) (L : List Loc) : Prop := v = none ∧ Fr n0 L ∧ Keep h0 h [a] ∧ Exa Z h a "java/util/ImmutableCollections$ListN" ∧ Fld Z h a "java/util/ImmutableCollections$ListN" "elements" "[Ljava/lang/Object;" (.ref xo)
theorem pn_java_util_ImmutableCollections_ListN : plainName "java/util/ImmutableCollections$ListN" = true := by first | (simp [plainName, overriddenIn]; done) | decide +kernel
set_option maxRecDepth 65536 in
set_option maxHeartbeats 40000000 in
theorem rmlnInit (l : Launch) (Z : State) (a0 : Array Value) (hw : ∀ d ∈ tables_1, d.before a0 Z = true) (ws : List Jvm.Cond) (a : Addr) (xo : Addr) (u0 : Value) (u1 : Value) (h0 : Heap) (n0 : Nat) (O0 : Old Z n0 h0) (hp0 : Exa Z h0 a "java/util/ImmutableCollections$ListN") (hp1 : n0 ≤ a) (hp2 : Fld Z h0 a "java/util/ImmutableCollections$ListN" "elements" "[Ljava/lang/Object;" u0) (hp3 : Fld Z h0 a "java/util/ImmutableCollections$ListN" "allowNulls" "Z" u1) :
    MetFree l mN30 (head1 (Jvm.Cond.code mN30 jdk_45_method_1_code 3 none :: ws) ({ frames := 4, cells := 0, slots := 0, locals := 48 } : Room)) (fun as_ U => as_ = #[(.ref a), (.ref xo), (.int (0 : Int32))] ∧ Z.Warmed39 U.vm ∧ U.heap = h0) (fun _ _ _ _ _ => True) (fun _ U o U' => ∃ v L, o = .returned v ∧ QlnInit Z a xo u0 u1 h0 n0 v U'.heap L ∧ FrameEnd U o U' L ({ frames := 4, cells := 0, slots := 0, locals := 48 } : Room).cells ({ frames := 4, cells := 0, slots := 0, locals := 48 } : Room).slots) := by
  refine MetFree.of_bodySF (plainFor_of_name pn_java_util_ImmutableCollections_ListN) hisR ?_
  intro p e s m args below meth c s₁ Bd hml0 hP hK
  obtain ⟨rfl, hZ, hh⟩ := hP
  have hx := Bd.exec
  have hby := Bd.bytes
  have hml : c.maxLocals = 3 := hml0
  have hown : s.vm.findClass "java/util/ImmutableCollections$ListN" = some m.cls := findClass_of_methodNamed Bd.named
  have hnm := (name_of_methodNamed Bd.named Bd.method).1
  have X0 : Stand p l e ({ frames := 4, cells := 0, slots := 0, locals := 48 } : Room) s m #[(.ref a), (.ref xo), (.int (0 : Int32))] below meth c s₁ [] 0 0 := Stand.of_body Bd
  have e0 : s₁.heap = h0 := by rw [← hh, Bd.state]; rfl
  have N0 := Fr.nil n0
  have Z0 := own_z0 O0
  have pre0 : ∀ tg_, Steps p.tables e below (s₁.setTop (mkF m 0 #[.val (.ref a), .val (.ref xo), .val (.int (0 : Int32))] [])) tg_ → Steps p.tables e below (s₁.setTop (entryFrame m #[(.ref a), (.ref xo), (.int (0 : Int32))] 3)) tg_ := fun tg_ kt_ => castTop (ef_lnInit m a xo (0 : Int32)) kt_
  obtain ⟨_, _, ⟨T1, L1, k1, n1⟩, -, X1, ⟨Lc1, hQ1, l1, y1, z1⟩, st1⟩ := X0.specialBack hx (y := mN27) rfl hown (mvT hZ (hw _ w_330)) (mvT hZ (hw _ w_261)) (mvT hZ (hw _ w_265)) (by decide) (backOf (W := 0) (rmailInit l Z a0 hw [] a h0 n0 O0 ) hZ (hw _ w_265) (hw _ w_264) (by decide) (by decide)) (g := (mkF m 1 #[.val (.ref a), .val (.ref xo), .val (.int (0 : Int32))] [(.ref a)])) rfl (by rw [hml]; rfl) (Steps.refl _) (a := a) (argsL := []) (rest := []) (lenOf pd___V rfl) rfl (by show 2 * 0 + _ ≤ _; exact Nat.le_of_eq rfl) (hb hby d47_1) (fun _ _ => ⟨rfl, e0, (by decide : 0 + 0 ≤ _), (by decide : 0 + 0 ≤ _)⟩)
  dsimp only [Pt.U, Pt.locs, Pt.cells, Pt.slots] at X1 l1 y1 z1 st1 hQ1
  subst l1 y1 z1
  obtain ⟨rfl, N1q, eh1⟩ := hQ1
  have N1 := Fr.app N0 N1q
  obtain ⟨T2, h2, X2, e2, W2, st2⟩ := putF X1 hx hZ hown (host := "") (Or.inl (hw _ w_334)) Via.refl eh1 hp2 hp0 (Or.inr ⟨(hw _ w_335), rfl, hnm⟩) (hw _ w_324) (ty := (.array (.object "java/lang/Object"))) (by decide) rfl rfl (g := (mkF m 6 #[.val (.ref a), .val (.ref xo), .val (.int (0 : Int32))] [(.ref xo), (.ref a)])) rfl rfl (hb hby d47_6)
  have Fw2 := hp2.same W2
  have N2 := Fr.snoc X2 N1 hp1
  have O2 : Old Z n0 h2 := O0.wr W2 hp1
  have K2 : Keep h0 h2 [a] := (Keep.refl h0 [a]).wr W2 (Or.inl (List.mem_of_getElem? (i := 0) rfl))
  obtain ⟨T3, h3, X3, e3, W3, st3⟩ := putFN X2 hx hZ hown (hw _ w_336) Via.refl e2 (hp3.other W2 (Or.inr (slot_ne (Or.inr (hw _ w_337)) (Or.inr (hw _ w_335)) (by decide) (t := .boolean) (t' := (.array (.object "java/lang/Object"))) (by decide) (by decide)))) (hp0.wr W2) (Or.inr ⟨(hw _ w_337), rfl, hnm⟩) (hw _ w_324) (ty := .boolean) (v' := (.int (0 : Int32))) (by decide) rfl rfl (g := (mkF m 11 #[.val (.ref a), .val (.ref xo), .val (.int (0 : Int32))] [(.int (0 : Int32)), (.ref a)])) rfl rfl (hb hby d47_11)
  have Fw3 := (hp3.other W2 (Or.inr (slot_ne (Or.inr (hw _ w_337)) (Or.inr (hw _ w_335)) (by decide) (t := .boolean) (t' := (.array (.object "java/lang/Object"))) (by decide) (by decide)))).same W3
  have N3 := Fr.snoc X3 N2 hp1
  have O3 : Old Z n0 h3 := O2.wr W3 hp1
  have K3 : Keep h0 h3 [a] := K2.wr W3 (Or.inl (List.mem_of_getElem? (i := 0) rfl))
  obtain ⟨fs, hr, hrun, hended, hW, hsame⟩ := X3.leave (v := none) (fun _ => rfl)
  refine ⟨_, _, pre0 _ ?_, hrun, hended, _, _, rfl, ?_, ⟨_, rfl⟩, hW, hsame.mono (by decide) (by decide)⟩
  · refine XS.aloadN X0.here hx rfl (hb hby d47_0) rfl rfl ?_
    show Steps p.tables e below (s₁.setTop (mkF m 1 #[.val (.ref a), .val (.ref xo), .val (.int (0 : Int32))] [(.ref a)])) _
    refine st1.trans ?_
    refine XS.aloadN X1.here hx rfl (hb hby d47_4) rfl rfl ?_
    refine XS.aloadN X1.here hx rfl (hb hby d47_5) rfl rfl ?_
    show Steps p.tables e below (T1.setTop (mkF m 6 #[.val (.ref a), .val (.ref xo), .val (.int (0 : Int32))] [(.ref xo), (.ref a)])) _
    refine st2 _ ?_
    refine XS.aloadN X2.here hx rfl (hb hby d47_9) rfl rfl ?_
    refine XS.iloadN X2.here hx rfl (hb hby d47_10) rfl ?_
    show Steps p.tables e below (T2.setTop (mkF m 11 #[.val (.ref a), .val (.ref xo), .val (.int (0 : Int32))] [(.int (0 : Int32)), (.ref a)])) _
    refine st3 _ ?_
    show Steps p.tables e below (T3.setTop (mkF m 14 #[.val (.ref a), .val (.ref xo), .val (.int (0 : Int32))] [])) _
    exact X3.returnOut hx Bd.returns (hb hby d47_14) hr
  · show QlnInit Z a xo u0 u1 h0 n0 _ T3.heap _
    rw [e3]
    exact ⟨rfl, N3, K3, ((hp0.wr W2).wr W3), (Fw2.other W3 (Or.inr (slot_ne (Or.inr (hw _ w_335)) (Or.inr (hw _ w_337)) (by decide) (t := (.array (.object "java/lang/Object"))) (t' := .boolean) (by decide) (by decide))))⟩
theorem d33_0 : decode jdk_65_method_120_code 0 = .ok (.aload_n 2, 1) := by decide +kernel
theorem w_241 : (Jvm.Cond.classLink "java/util/Arrays" (110 : Nat) "[Ljava/lang/Object;") ∈ tables_1 := List.mem_of_getElem? (i := 241) (by decide +kernel)
theorem d33_1 : decode jdk_65_method_120_code 1 = .ok (.ldc 110, 2) := by decide +kernel
theorem d33_3 : decode jdk_65_method_120_code 3 = .ok (.if_acmp .ne 10, 3) := by decide +kernel
theorem d33_6 : decode jdk_65_method_120_code 6 = .ok (.iload_n 1, 1) := by decide +kernel
theorem w_242 : (Jvm.Cond.classLink "java/util/Arrays" (2 : Nat) "java/lang/Object") ∈ tables_1 := List.mem_of_getElem? (i := 242) (by decide +kernel)
theorem d33_7 : decode jdk_65_method_120_code 7 = .ok (.anewarray 2, 3) := by decide +kernel
theorem d33_10 : decode jdk_65_method_120_code 10 = .ok (.goto 14, 3) := by decide +kernel
theorem d33_24 : decode jdk_65_method_120_code 24 = .ok (.astore_n 3, 1) := by decide +kernel
theorem d33_25 : decode jdk_65_method_120_code 25 = .ok (.aload_n 0, 1) := by decide +kernel
theorem d33_26 : decode jdk_65_method_120_code 26 = .ok (.iconst 0, 1) := by decide +kernel
theorem d33_27 : decode jdk_65_method_120_code 27 = .ok (.aload_n 3, 1) := by decide +kernel
theorem d33_28 : decode jdk_65_method_120_code 28 = .ok (.iconst 0, 1) := by decide +kernel
theorem d33_29 : decode jdk_65_method_120_code 29 = .ok (.aload_n 0, 1) := by decide +kernel
theorem d33_30 : decode jdk_65_method_120_code 30 = .ok (.arraylength, 1) := by decide +kernel
theorem d33_31 : decode jdk_65_method_120_code 31 = .ok (.iload_n 1, 1) := by decide +kernel
theorem w_243 : (Jvm.Cond.methodLink "java/util/Arrays" (304 : Nat) ({ cls := "java/lang/Math", name := "min", desc := "(II)I" } : Jvm.MethodName)) ∈ tables_1 := List.mem_of_getElem? (i := 243) (by decide +kernel)
theorem w_245 : (Jvm.Cond.code ({ cls := "java/lang/Math", name := "min", desc := "(II)I" } : Jvm.MethodName) jdk_29_method_69_code (2 : Nat) (Option.some Jvm.ClassFile.FieldType.int)) ∈ tables_1 := List.mem_of_getElem? (i := 245) (by decide +kernel)
theorem d33_32 : decode jdk_65_method_120_code 32 = .ok (.invokestatic 304, 3) := by decide +kernel
theorem w_244 : (Jvm.Cond.static ({ cls := "java/lang/Math", name := "min", desc := "(II)I" } : Jvm.MethodName)) ∈ tables_1 := List.mem_of_getElem? (i := 244) (by decide +kernel)
theorem w_246 : (Jvm.Cond.methodLink "java/util/Arrays" (150 : Nat) ({ cls := "java/lang/System", name := "arraycopy", desc := "(Ljava/lang/Object;ILjava/lang/Object;II)V" } : Jvm.MethodName)) ∈ tables_1 := List.mem_of_getElem? (i := 246) (by decide +kernel)
theorem w_249 : (Jvm.Cond.native ({ cls := "java/lang/System", name := "arraycopy", desc := "(Ljava/lang/Object;ILjava/lang/Object;II)V" } : Jvm.MethodName)) ∈ tables_1 := List.mem_of_getElem? (i := 249) (by decide +kernel)
theorem w_247 : (Jvm.Cond.static ({ cls := "java/lang/System", name := "arraycopy", desc := "(Ljava/lang/Object;ILjava/lang/Object;II)V" } : Jvm.MethodName)) ∈ tables_1 := List.mem_of_getElem? (i := 247) (by decide +kernel)
theorem w_248 : (Jvm.Cond.initialized "java/lang/System") ∈ tables_1 := List.mem_of_getElem? (i := 248) (by decide +kernel)
theorem d33_35 : decode jdk_65_method_120_code 35 = .ok (.invokestatic 150, 3) := by decide +kernel
theorem d33_38 : decode jdk_65_method_120_code 38 = .ok (.aload_n 3, 1) := by decide +kernel
theorem d33_39 : decode jdk_65_method_120_code 39 = .ok (.areturn, 1) := by decide +kernel
abbrev mN31 : MethodName := ⟨"java/util/Arrays", "copyOf", "([Ljava/lang/Object;ILjava/lang/Class;)[Ljava/lang/Object;"⟩
theorem ef_copyC1 (m : MethodId) (x0 : Addr) (x1 : Int32) (x2 : Addr) : entryFrame m #[(.ref x0), (.int x1), (.ref x2)] 4 = mkF m 0 #[.val (.ref x0), .val (.int x1), .val (.ref x2), .unset] [] := by first | (simp [entryFrame, mkF, argsToLocals, Value.category]; done) | rfl
def QcopyC1 (Z : State) (b : Addr) (mr : Addr) (y0 : Addr) (kb : ClassId) (h0 : Heap) (n0 : Nat) (v : Option Value) (h : Heap) (L : List Loc) : Prop := ∃ (r : Addr), ∃ (kr : ClassId), v = some (.ref r) ∧ Fr n0 L ∧ Keep h0 h [] ∧ h0.size ≤ r ∧ Arv Z h r kr (.object "java/lang/Object") (1 : Int32) [(.ref y0)] .null ∧ (Ovr Z kr "java/lang/Object") ∧ Exa Z h r "[Ljava/lang/Object;"
theorem pn_java_util_Arrays : plainName "java/util/Arrays" = true := by first | (simp [plainName, overriddenIn]; done) | decide +kernel
set_option maxRecDepth 65536 in
set_option maxHeartbeats 40000000 in
theorem rmcopyC1 (l : Launch) (Z : State) (a0 : Array Value) (hw : ∀ d ∈ tables_1, d.before a0 Z = true) (ws : List Jvm.Cond) (b : Addr) (mr : Addr) (y0 : Addr) (kb : ClassId) (h0 : Heap) (n0 : Nat) (O0 : Old Z n0 h0) (hp0 : Arv Z h0 b kb (.object "java/lang/Object") (10 : Int32) [(.ref y0), .null, .null, .null, .null, .null, .null, .null, .null, .null] .null) (mro : (own_Mr Z "[Ljava/lang/Object;" mr)) (hp2 : Ins Z h0 y0 "java/lang/Object" true) :
    MetFree l mN31 (head1 (Jvm.Cond.code mN31 jdk_65_method_120_code 4 (some (.array (.object "java/lang/Object"))) :: ws) ({ frames := 1, cells := 1, slots := 1, locals := 51 } : Room)) (fun as_ U => as_ = #[(.ref b), (.int (1 : Int32)), (.ref mr)] ∧ Z.Warmed39 U.vm ∧ U.heap = h0) (fun _ _ _ _ _ => True) (fun _ U o U' => ∃ v L, o = .returned v ∧ QcopyC1 Z b mr y0 kb h0 n0 v U'.heap L ∧ FrameEnd U o U' L ({ frames := 1, cells := 1, slots := 1, locals := 51 } : Room).cells ({ frames := 1, cells := 1, slots := 1, locals := 51 } : Room).slots) := by
  refine MetFree.of_bodySF (plainFor_of_name pn_java_util_Arrays) hisR ?_
  intro p e s m args below meth c s₁ Bd hml0 hP hK
  obtain ⟨rfl, hZ, hh⟩ := hP
  have hx := Bd.exec
  have hby := Bd.bytes
  have hml : c.maxLocals = 4 := hml0
  have hown : s.vm.findClass "java/util/Arrays" = some m.cls := findClass_of_methodNamed Bd.named
  have hnm := (name_of_methodNamed Bd.named Bd.method).1
  have X0 : Stand p l e ({ frames := 1, cells := 1, slots := 1, locals := 51 } : Room) s m #[(.ref b), (.int (1 : Int32)), (.ref mr)] below meth c s₁ [] 0 0 := Stand.of_body Bd
  have e0 : s₁.heap = h0 := by rw [← hh, Bd.state]; rfl
  have N0 := Fr.nil n0
  have Z0 := own_z0 O0
  have pre0 : ∀ tg_, Steps p.tables e below (s₁.setTop (mkF m 0 #[.val (.ref b), .val (.int (1 : Int32)), .val (.ref mr), .unset] [])) tg_ → Steps p.tables e below (s₁.setTop (entryFrame m #[(.ref b), (.int (1 : Int32)), (.ref mr)] 4)) tg_ := fun tg_ kt_ => castTop (ef_copyC1 m b (1 : Int32) mr) kt_
  obtain ⟨T1, X1, e1, st1⟩ := own_ldcM X0 hx hZ hown (hw _ w_241) e0 mro (g := (mkF m 1 #[.val (.ref b), .val (.int (1 : Int32)), .val (.ref mr), .unset] [(.ref mr)])) rfl (hb hby d33_1)
  obtain ⟨T2, h2, k2, X2, e2, E2, A2, Ex2, Ov2, st2⟩ := newRE X1 hx hZ hown (hw _ w_242) (hw _ w_107) e1 (g := (mkF m 7 #[.val (.ref b), .val (.int (1 : Int32)), .val (.ref mr), .unset] [(.int (1 : Int32))])) rfl (hb hby d33_7) rfl (by decide) (cap := 1) (by decide) (by decide) (by decide) (by decide) (ad := "[Ljava/lang/Object;") (by decide)
  obtain ⟨b2, g2⟩ : ∃ z, z = h0.size := ⟨_, rfl⟩
  rw [← g2] at A2 Ex2 st2
  have sz2 : h0.size ≤ b2 := Nat.le_trans (Keep.refl h0 []).1 (Nat.le_of_eq g2.symm)
  have gn2 : n0 ≤ b2 := Nat.le_trans Z0 sz2
  have O2 : Old Z n0 h2 := O0.ext E2
  have K2 : Keep h0 h2 [] := (Keep.refl h0 []).ext E2
  have V2 : Arv Z h2 b2 k2 (.object "java/lang/Object") (1 : Int32) [.null] .null := (Arv.new A2 (by decide)).pad (pad_rep [] .null 1)
  obtain ⟨cl4, Ar4, -, S4, Ng4, -, -⟩ := id (hp0.ext E2)
  obtain ⟨_, _, ⟨T5, L5, k5, n5⟩, -, X5, ⟨Lc5, hQ5, l5, y5, z5⟩, st5⟩ := Jvm.LawKit.callS X2 hx (y := mN23) hown (mvT hZ (hw _ w_243)) (mvT hZ (hw _ w_244)) (mvT hZ (hw _ w_104)) (mvT hZ (hw _ w_245)) (by decide) (backOf (W := 4) (rmminG l Z a0 hw [] (10 : Int32) (1 : Int32) h2 n0 O2 (by decide)) hZ (hw _ w_245) (hw _ w_104) (by decide) (by decide)) (g := (mkF m 32 #[.val (.ref b), .val (.int (1 : Int32)), .val (.ref mr), .val (.ref b2)] [(.int (1 : Int32)), (.int (10 : Int32)), (.int (0 : Int32)), (.ref b2), (.int (0 : Int32)), (.ref b)])) rfl (by rw [hml]; rfl) (argsL := [(.int (10 : Int32)), (.int (1 : Int32))]) (rest := [(.int (0 : Int32)), (.ref b2), (.int (0 : Int32)), (.ref b)]) (lenOf pd__II_I rfl) rfl (by show 2 * 0 + _ ≤ _; exact Nat.le_of_eq rfl) (hb hby d33_32) (fun _ _ => ⟨rfl, e2, (by decide : 1 + 0 ≤ _), (by decide : 1 + 0 ≤ _)⟩)
  dsimp only [Pt.U, Pt.locs, Pt.cells, Pt.slots] at X5 l5 y5 z5 st5 hQ5
  subst l5 y5 z5
  obtain ⟨rfl, N5q, eh5⟩ := hQ5
  have N5 := Fr.app N0 N5q
  obtain ⟨cc6, Ac6, qc6, -⟩ := id V2
  obtain ⟨T6, h6, L6, X6, e6, N6, Kc6, V6, st6⟩ := cpA X5 hx hZ hown (hw _ w_246) (hw _ w_249) (hw _ w_247) (hw _ w_248) eh5 (hp0.ext E2) V2 (us := [(.ref y0)]) (Or.inr ⟨rfl, rfl, ⟨Sto.of Ac6 (by rw [qc6]; exact Ov2) (hp2.ext E2), trivial⟩⟩) (by decide) (by decide) (by decide) (by decide) (by decide) rfl (by decide) N5 gn2 (g := (mkF m 35 #[.val (.ref b), .val (.int (1 : Int32)), .val (.ref mr), .val (.ref b2)] [(.int (1 : Int32)), (.int (0 : Int32)), (.ref b2), (.int (0 : Int32)), (.ref b)])) rfl (by rw [hml]; rfl) rfl (hb hby d33_35) (by decide) (W := 0) (by show 2 * 0 + _ ≤ _; exact Nat.le_of_eq rfl) (by decide)
  have O6 : Old Z n0 h6 := O2.keep Kc6 (allS gn2 all0)
  have K6 : Keep h0 h6 [] := K2.trans Kc6 (allS (Or.inr sz2) all0)
  have Vc6 : Arv Z h6 b2 k2 (.object "java/lang/Object") (1 : Int32) [(.ref y0)] .null := V6
  obtain ⟨fs, hr, hrun, hended, hW, hsame⟩ := X6.leave (v := some (.ref b2)) (fun h => by rw [Bd.returns] at h; cases h)
  refine ⟨_, _, pre0 _ ?_, hrun, hended, _, _, rfl, ?_, ⟨_, rfl⟩, hW, hsame.mono (by decide) (by decide)⟩
  · refine XS.aloadN X0.here hx rfl (hb hby d33_0) rfl rfl ?_
    show Steps p.tables e below (s₁.setTop (mkF m 1 #[.val (.ref b), .val (.int (1 : Int32)), .val (.ref mr), .unset] [(.ref mr)])) _
    refine st1 _ ?_
    show Steps p.tables e below (T1.setTop (mkF m 3 #[.val (.ref b), .val (.int (1 : Int32)), .val (.ref mr), .unset] [(.ref mr), (.ref mr)])) _
    refine Jvm.RoadKit.acmp (g := (mkF m 3 #[.val (.ref b), .val (.int (1 : Int32)), .val (.ref mr), .unset] [(.ref mr), (.ref mr)])) X1 hx rfl rfl rfl (pc0 := 3) (pc' := 6) (same := true) rfl (hb hby d33_3) rfl (decide_eq_true rfl) (by decide) (by decide) ?_
    refine XS.iloadN X1.here hx rfl (hb hby d33_6) rfl ?_
    show Steps p.tables e below (T1.setTop (mkF m 7 #[.val (.ref b), .val (.int (1 : Int32)), .val (.ref mr), .unset] [(.int (1 : Int32))])) _
    refine st2 _ ?_
    refine XS.goto X2.here hx rfl (pc0 := 10) (pc' := 24) rfl (hb hby d33_10) (by decide) (by decide) ?_
    refine XS.astoreN X2.here hx rfl (hb hby d33_24) rfl rfl (l' := #[.val (.ref b), .val (.int (1 : Int32)), .val (.ref mr), .val (.ref b2)]) rfl ?_
    refine XS.aloadN X2.here hx rfl (hb hby d33_25) rfl rfl ?_
    show Steps p.tables e below (T2.setTop (mkF m 26 #[.val (.ref b), .val (.int (1 : Int32)), .val (.ref mr), .val (.ref b2)] [(.ref b)])) _
    refine XS.iconst X2.here hx rfl (hb hby d33_26) ?_
    refine XS.aloadN X2.here hx rfl (hb hby d33_27) rfl rfl ?_
    refine XS.iconst X2.here hx rfl (hb hby d33_28) ?_
    refine XS.aloadN X2.here hx rfl (hb hby d33_29) rfl rfl ?_
    show Steps p.tables e below (T2.setTop (mkF m 30 #[.val (.ref b), .val (.int (1 : Int32)), .val (.ref mr), .val (.ref b2)] [(.ref b), (.int (0 : Int32)), (.ref b2), (.int (0 : Int32)), (.ref b)])) _
    refine X2.arraylength hx (by rw [e2]; exact Ar4.1) (State.isArrayOf_alike hZ.alike Ar4.2.1) (g := (mkF m 30 #[.val (.ref b), .val (.int (1 : Int32)), .val (.ref mr), .val (.ref b2)] [(.ref b), (.int (0 : Int32)), (.ref b2), (.int (0 : Int32)), (.ref b)])) rfl rfl (hb hby d33_30) _ ?_
    rw [len_of S4 Ng4]
    refine XS.iloadN X2.here hx rfl (hb hby d33_31) rfl ?_
    show Steps p.tables e below (T2.setTop (mkF m 32 #[.val (.ref b), .val (.int (1 : Int32)), .val (.ref mr), .val (.ref b2)] [(.int (1 : Int32)), (.int (10 : Int32)), (.int (0 : Int32)), (.ref b2), (.int (0 : Int32)), (.ref b)])) _
    refine st5 _ ?_
    show Steps p.tables e below (T5.setTop (mkF m 35 #[.val (.ref b), .val (.int (1 : Int32)), .val (.ref mr), .val (.ref b2)] [(.int (1 : Int32)), (.int (0 : Int32)), (.ref b2), (.int (0 : Int32)), (.ref b)])) _
    refine st6 _ ?_
    refine XS.aloadN X6.here hx rfl (hb hby d33_38) rfl rfl ?_
    show Steps p.tables e below (T6.setTop (mkF m 39 #[.val (.ref b), .val (.int (1 : Int32)), .val (.ref mr), .val (.ref b2)] [(.ref b2)])) _
    jvm_step X6.here [X6.here.top, hx, (hb hby d33_39), X6.method', Bd.returns, Value.isRef, FieldType.isReference]
    first | (intro acts; rw [hr _ acts rfl rfl rfl]) | rw [hr _ _ rfl rfl rfl]
    exact Steps.refl _
  · show QcopyC1 Z b mr y0 kb h0 n0 _ T6.heap _
    rw [e6]
    exact ⟨b2, k2, rfl, N6, K6, sz2, Vc6, Ov2, (Ex2.keep Kc6)⟩
theorem d32_0 : decode jdk_65_method_119_code 0 = .ok (.aload_n 0, 1) := by decide +kernel
theorem d32_1 : decode jdk_65_method_119_code 1 = .ok (.iload_n 1, 1) := by decide +kernel
theorem d32_2 : decode jdk_65_method_119_code 2 = .ok (.aload_n 0, 1) := by decide +kernel
theorem w_232 : (Jvm.Cond.methodLink "java/util/Arrays" (86 : Nat) ({ cls := "java/lang/Object", name := "getClass", desc := "()Ljava/lang/Class;" } : Jvm.MethodName)) ∈ tables_1 := List.mem_of_getElem? (i := 232) (by decide +kernel)
theorem w_233 : (Jvm.Cond.declares ({ cls := "java/lang/Object", name := "getClass", desc := "()Ljava/lang/Class;" } : Jvm.MethodName)) ∈ tables_1 := List.mem_of_getElem? (i := 233) (by decide +kernel)
theorem w_209 : (Jvm.Cond.noSuperclass "java/lang/Object") ∈ tables_1 := List.mem_of_getElem? (i := 209) (by decide +kernel)
theorem w_235 : (Jvm.Cond.selects "[Ljava/lang/Object;" ({ cls := "java/lang/Object", name := "getClass", desc := "()Ljava/lang/Class;" } : Jvm.MethodName) ({ cls := "java/lang/Object", name := "getClass", desc := "()Ljava/lang/Class;" } : Jvm.MethodName)) ∈ tables_1 := List.mem_of_getElem? (i := 235) (by decide +kernel)
theorem w_234 : (Jvm.Cond.instanceMethod ({ cls := "java/lang/Object", name := "getClass", desc := "()Ljava/lang/Class;" } : Jvm.MethodName)) ∈ tables_1 := List.mem_of_getElem? (i := 234) (by decide +kernel)
theorem w_236 : (Jvm.Cond.native ({ cls := "java/lang/Object", name := "getClass", desc := "()Ljava/lang/Class;" } : Jvm.MethodName)) ∈ tables_1 := List.mem_of_getElem? (i := 236) (by decide +kernel)
theorem d32_3 : decode jdk_65_method_119_code 3 = .ok (.invokevirtual 86, 3) := by decide +kernel
theorem w_238 : (Jvm.Cond.methodLink "java/util/Arrays" (300 : Nat) ({ cls := "java/util/Arrays", name := "copyOf", desc := "([Ljava/lang/Object;ILjava/lang/Class;)[Ljava/lang/Object;" } : Jvm.MethodName)) ∈ tables_1 := List.mem_of_getElem? (i := 238) (by decide +kernel)
theorem w_240 : (Jvm.Cond.code ({ cls := "java/util/Arrays", name := "copyOf", desc := "([Ljava/lang/Object;ILjava/lang/Class;)[Ljava/lang/Object;" } : Jvm.MethodName) jdk_65_method_120_code (4 : Nat) (Option.some (Jvm.ClassFile.FieldType.array (Jvm.ClassFile.FieldType.object "java/lang/Object")))) ∈ tables_1 := List.mem_of_getElem? (i := 240) (by decide +kernel)
theorem w_230 : (Jvm.Cond.initialized "java/util/Arrays") ∈ tables_1 := List.mem_of_getElem? (i := 230) (by decide +kernel)
theorem pd__ALjava_lang_Object_ILjava_lang_Class__ALjava_lang_Object_ : parseMethodDescriptor "([Ljava/lang/Object;ILjava/lang/Class;)[Ljava/lang/Object;" = some ⟨[(.array (.object "java/lang/Object")), .int, (.object "java/lang/Class")], some (.array (.object "java/lang/Object"))⟩ := by decide +kernel
theorem d32_6 : decode jdk_65_method_119_code 6 = .ok (.invokestatic 300, 3) := by decide +kernel
theorem w_239 : (Jvm.Cond.static ({ cls := "java/util/Arrays", name := "copyOf", desc := "([Ljava/lang/Object;ILjava/lang/Class;)[Ljava/lang/Object;" } : Jvm.MethodName)) ∈ tables_1 := List.mem_of_getElem? (i := 239) (by decide +kernel)
theorem d32_9 : decode jdk_65_method_119_code 9 = .ok (.areturn, 1) := by decide +kernel
abbrev mN32 : MethodName := ⟨"java/util/Arrays", "copyOf", "([Ljava/lang/Object;I)[Ljava/lang/Object;"⟩
theorem ef_copy1 (m : MethodId) (x0 : Addr) (x1 : Int32) : entryFrame m #[(.ref x0), (.int x1)] 2 = mkF m 0 #[.val (.ref x0), .val (.int x1)] [] := by first | (simp [entryFrame, mkF, argsToLocals, Value.category]; done) | rfl
def Qcopy1 (Z : State) (b : Addr) (y0 : Addr) (kb : ClassId) (mr : Addr) (h0 : Heap) (n0 : Nat) (v : Option Value) (h : Heap) (L : List Loc) : Prop := ∃ (r : Addr), ∃ (kr : ClassId), v = some (.ref r) ∧ Fr n0 L ∧ Keep h0 h [] ∧ h0.size ≤ r ∧ Arv Z h r kr (.object "java/lang/Object") (1 : Int32) [(.ref y0)] .null ∧ (Ovr Z kr "java/lang/Object") ∧ Exa Z h r "[Ljava/lang/Object;"
set_option maxRecDepth 65536 in
set_option maxHeartbeats 40000000 in
theorem rmcopy1 (l : Launch) (Z : State) (a0 : Array Value) (hw : ∀ d ∈ tables_1, d.before a0 Z = true) (ws : List Jvm.Cond) (b : Addr) (y0 : Addr) (kb : ClassId) (mr : Addr) (h0 : Heap) (n0 : Nat) (O0 : Old Z n0 h0) (hp0 : Arv Z h0 b kb (.object "java/lang/Object") (10 : Int32) [(.ref y0), .null, .null, .null, .null, .null, .null, .null, .null, .null] .null) (mro : (own_Mr Z "[Ljava/lang/Object;" mr)) (hp2 : Exa Z h0 b "[Ljava/lang/Object;") (hp3 : Ins Z h0 y0 "java/lang/Object" true) :
    MetFree l mN32 (head1 (Jvm.Cond.code mN32 jdk_65_method_119_code 2 (some (.array (.object "java/lang/Object"))) :: ws) ({ frames := 2, cells := 1, slots := 1, locals := 66 } : Room)) (fun as_ U => as_ = #[(.ref b), (.int (1 : Int32))] ∧ Z.Warmed39 U.vm ∧ U.heap = h0) (fun _ _ _ _ _ => True) (fun _ U o U' => ∃ v L, o = .returned v ∧ Qcopy1 Z b y0 kb mr h0 n0 v U'.heap L ∧ FrameEnd U o U' L ({ frames := 2, cells := 1, slots := 1, locals := 66 } : Room).cells ({ frames := 2, cells := 1, slots := 1, locals := 66 } : Room).slots) := by
  refine MetFree.of_bodySF (plainFor_of_name pn_java_util_Arrays) hisR ?_
  intro p e s m args below meth c s₁ Bd hml0 hP hK
  obtain ⟨rfl, hZ, hh⟩ := hP
  have hx := Bd.exec
  have hby := Bd.bytes
  have hml : c.maxLocals = 2 := hml0
  have hown : s.vm.findClass "java/util/Arrays" = some m.cls := findClass_of_methodNamed Bd.named
  have hnm := (name_of_methodNamed Bd.named Bd.method).1
  have X0 : Stand p l e ({ frames := 2, cells := 1, slots := 1, locals := 66 } : Room) s m #[(.ref b), (.int (1 : Int32))] below meth c s₁ [] 0 0 := Stand.of_body Bd
  have e0 : s₁.heap = h0 := by rw [← hh, Bd.state]; rfl
  have N0 := Fr.nil n0
  have Z0 := own_z0 O0
  have pre0 : ∀ tg_, Steps p.tables e below (s₁.setTop (mkF m 0 #[.val (.ref b), .val (.int (1 : Int32))] [])) tg_ → Steps p.tables e below (s₁.setTop (entryFrame m #[(.ref b), (.int (1 : Int32))] 2)) tg_ := fun tg_ kt_ => castTop (ef_copy1 m b (1 : Int32)) kt_
  obtain ⟨T1, X1, e1, st1⟩ := own_gcls X0 hx hZ hown (hw _ w_232) (hw _ w_233) (hw _ w_209) (hw _ w_235) (hw _ w_234) (hw _ w_236) e0 hp2 mro (g := (mkF m 3 #[.val (.ref b), .val (.int (1 : Int32))] [(.ref b), (.int (1 : Int32)), (.ref b)])) rfl (by rw [hml]; rfl) rfl (hb hby d32_3) (by decide) (W := 2) (by show 2 * 0 + _ ≤ _; exact Nat.le_of_eq rfl) (by decide)
  obtain ⟨_, _, ⟨T2, L2, k2, n2⟩, -, X2, ⟨Lc2, hQ2, l2, y2, z2⟩, st2⟩ := Jvm.LawKit.callS X1 hx (y := mN31) hown (mvT hZ (hw _ w_238)) (mvT hZ (hw _ w_239)) (mvT hZ (hw _ w_230)) (mvT hZ (hw _ w_240)) (by decide) (backOf (W := 0) (rmcopyC1 l Z a0 hw [] b mr y0 kb h0 n0 O0 hp0 mro hp3) hZ (hw _ w_240) (hw _ w_230) (by decide) (by decide)) (g := (mkF m 6 #[.val (.ref b), .val (.int (1 : Int32))] [(.ref mr), (.int (1 : Int32)), (.ref b)])) rfl (by rw [hml]; rfl) (argsL := [(.ref b), (.int (1 : Int32)), (.ref mr)]) (rest := []) (lenOf pd__ALjava_lang_Object_ILjava_lang_Class__ALjava_lang_Object_ rfl) rfl (by show 2 * 0 + _ ≤ _; exact Nat.le_of_eq rfl) (hb hby d32_6) (fun _ _ => ⟨rfl, e1, (by decide : 0 + 1 ≤ _), (by decide : 0 + 1 ≤ _)⟩)
  dsimp only [Pt.U, Pt.locs, Pt.cells, Pt.slots] at X2 l2 y2 z2 st2 hQ2
  subst l2 y2 z2
  obtain ⟨r_2, kr_2, rfl, N2q, Kc2, r2_1, r2_2, r2_3, r2_4⟩ := hQ2
  have N2 := Fr.app N0 N2q
  have sz3 : h0.size ≤ r_2 := Nat.le_trans (Keep.refl h0 []).1 r2_1
  have gn3 : n0 ≤ r_2 := Nat.le_trans Z0 sz3
  have O2 : Old Z n0 T2.heap := O0.keep Kc2 all0
  have K2 : Keep h0 T2.heap [] := (Keep.refl h0 []).trans Kc2 all0
  obtain ⟨fs, hr, hrun, hended, hW, hsame⟩ := X2.leave (v := some (.ref r_2)) (fun h => by rw [Bd.returns] at h; cases h)
  refine ⟨_, _, pre0 _ ?_, hrun, hended, _, _, rfl, ?_, ⟨_, rfl⟩, hW, hsame.mono (by decide) (by decide)⟩
  · refine XS.aloadN X0.here hx rfl (hb hby d32_0) rfl rfl ?_
    refine XS.iloadN X0.here hx rfl (hb hby d32_1) rfl ?_
    refine XS.aloadN X0.here hx rfl (hb hby d32_2) rfl rfl ?_
    show Steps p.tables e below (s₁.setTop (mkF m 3 #[.val (.ref b), .val (.int (1 : Int32))] [(.ref b), (.int (1 : Int32)), (.ref b)])) _
    refine st1 _ ?_
    show Steps p.tables e below (T1.setTop (mkF m 6 #[.val (.ref b), .val (.int (1 : Int32))] [(.ref mr), (.int (1 : Int32)), (.ref b)])) _
    refine st2 _ ?_
    show Steps p.tables e below (T2.setTop (mkF m 9 #[.val (.ref b), .val (.int (1 : Int32))] [(.ref r_2)])) _
    jvm_step X2.here [X2.here.top, hx, (hb hby d32_9), X2.method', Bd.returns, Value.isRef, FieldType.isReference]
    first | (intro acts; rw [hr _ acts rfl rfl rfl]) | rw [hr _ _ rfl rfl rfl]
    exact Steps.refl _
  · show Qcopy1 Z b y0 kb mr h0 n0 _ T2.heap _
    exact ⟨r_2, kr_2, rfl, N2, K2, sz3, r2_2, r2_3, r2_4⟩
theorem d31_0 : decode jdk_38_method_16_code 0 = .ok (.aload_n 0, 1) := by decide +kernel
theorem d31_1 : decode jdk_38_method_16_code 1 = .ok (.getfield 9, 3) := by decide +kernel
theorem d31_4 : decode jdk_38_method_16_code 4 = .ok (.aload_n 0, 1) := by decide +kernel
theorem d31_5 : decode jdk_38_method_16_code 5 = .ok (.getfield 48, 3) := by decide +kernel
theorem w_228 : (Jvm.Cond.methodLink "java/util/ArrayList" (66 : Nat) ({ cls := "java/util/Arrays", name := "copyOf", desc := "([Ljava/lang/Object;I)[Ljava/lang/Object;" } : Jvm.MethodName)) ∈ tables_1 := List.mem_of_getElem? (i := 228) (by decide +kernel)
theorem w_231 : (Jvm.Cond.code ({ cls := "java/util/Arrays", name := "copyOf", desc := "([Ljava/lang/Object;I)[Ljava/lang/Object;" } : Jvm.MethodName) jdk_65_method_119_code (2 : Nat) (Option.some (Jvm.ClassFile.FieldType.array (Jvm.ClassFile.FieldType.object "java/lang/Object")))) ∈ tables_1 := List.mem_of_getElem? (i := 231) (by decide +kernel)
theorem pd__ALjava_lang_Object_I_ALjava_lang_Object_ : parseMethodDescriptor "([Ljava/lang/Object;I)[Ljava/lang/Object;" = some ⟨[(.array (.object "java/lang/Object")), .int], some (.array (.object "java/lang/Object"))⟩ := by decide +kernel
theorem d31_8 : decode jdk_38_method_16_code 8 = .ok (.invokestatic 66, 3) := by decide +kernel
theorem w_229 : (Jvm.Cond.static ({ cls := "java/util/Arrays", name := "copyOf", desc := "([Ljava/lang/Object;I)[Ljava/lang/Object;" } : Jvm.MethodName)) ∈ tables_1 := List.mem_of_getElem? (i := 229) (by decide +kernel)
theorem d31_11 : decode jdk_38_method_16_code 11 = .ok (.areturn, 1) := by decide +kernel
abbrev mN33 : MethodName := ⟨"java/util/ArrayList", "toArray", "()[Ljava/lang/Object;"⟩
theorem ef_toArr1 (m : MethodId) (x0 : Addr) : entryFrame m #[(.ref x0)] 1 = mkF m 0 #[.val (.ref x0)] [] := by first | (simp [entryFrame, mkF, argsToLocals, Value.category]; done) | rfl
def QtoArr1 (Z : State) (a : Addr) (y0 : Addr) (b : Addr) (kb : ClassId) (mr : Addr) (h0 : Heap) (n0 : Nat) (v : Option Value) (h : Heap) (L : List Loc) : Prop := ∃ (r : Addr), ∃ (kr : ClassId), v = some (.ref r) ∧ Fr n0 L ∧ Keep h0 h [] ∧ h0.size ≤ r ∧ Arv Z h r kr (.object "java/lang/Object") (1 : Int32) [(.ref y0)] .null ∧ (Ovr Z kr "java/lang/Object") ∧ Exa Z h r "[Ljava/lang/Object;"
set_option maxRecDepth 65536 in
set_option maxHeartbeats 40000000 in
theorem rmtoArr1 (l : Launch) (Z : State) (a0 : Array Value) (hw : ∀ d ∈ tables_1, d.before a0 Z = true) (ws : List Jvm.Cond) (a : Addr) (y0 : Addr) (b : Addr) (kb : ClassId) (mr : Addr) (h0 : Heap) (n0 : Nat) (O0 : Old Z n0 h0) (hp0 : Exa Z h0 a "java/util/ArrayList") (hp1 : Fld Z h0 a "java/util/ArrayList" "elementData" "[Ljava/lang/Object;" (.ref b)) (hp2 : Fld Z h0 a "java/util/ArrayList" "size" "I" (.int (1 : Int32))) (hp3 : Arv Z h0 b kb (.object "java/lang/Object") (10 : Int32) [(.ref y0), .null, .null, .null, .null, .null, .null, .null, .null, .null] .null) (mro : (own_Mr Z "[Ljava/lang/Object;" mr)) (hp5 : Exa Z h0 b "[Ljava/lang/Object;") (hp6 : Ins Z h0 y0 "java/lang/Object" true) :
    MetFree l mN33 (head1 (Jvm.Cond.code mN33 jdk_38_method_16_code 1 (some (.array (.object "java/lang/Object"))) :: ws) ({ frames := 3, cells := 1, slots := 1, locals := 79 } : Room)) (fun as_ U => as_ = #[(.ref a)] ∧ Z.Warmed39 U.vm ∧ U.heap = h0) (fun _ _ _ _ _ => True) (fun _ U o U' => ∃ v L, o = .returned v ∧ QtoArr1 Z a y0 b kb mr h0 n0 v U'.heap L ∧ FrameEnd U o U' L ({ frames := 3, cells := 1, slots := 1, locals := 79 } : Room).cells ({ frames := 3, cells := 1, slots := 1, locals := 79 } : Room).slots) := by
  refine MetFree.of_bodySF (plainFor_of_name pn_java_util_ArrayList) hisR ?_
  intro p e s m args below meth c s₁ Bd hml0 hP hK
  obtain ⟨rfl, hZ, hh⟩ := hP
  have hx := Bd.exec
  have hby := Bd.bytes
  have hml : c.maxLocals = 1 := hml0
  have hown : s.vm.findClass "java/util/ArrayList" = some m.cls := findClass_of_methodNamed Bd.named
  have hnm := (name_of_methodNamed Bd.named Bd.method).1
  have X0 : Stand p l e ({ frames := 3, cells := 1, slots := 1, locals := 79 } : Room) s m #[(.ref a)] below meth c s₁ [] 0 0 := Stand.of_body Bd
  have e0 : s₁.heap = h0 := by rw [← hh, Bd.state]; rfl
  have N0 := Fr.nil n0
  have Z0 := own_z0 O0
  have pre0 : ∀ tg_, Steps p.tables e below (s₁.setTop (mkF m 0 #[.val (.ref a)] [])) tg_ → Steps p.tables e below (s₁.setTop (entryFrame m #[(.ref a)] 1)) tg_ := fun tg_ kt_ => castTop (ef_toArr1 m a) kt_
  obtain ⟨T1, X1, e1, st1⟩ := getF X0 hx hZ hown (host := "") (Or.inl (hw _ w_76)) Via.refl e0 hp1 (g := (mkF m 1 #[.val (.ref a)] [(.ref a)])) rfl rfl (hb hby d31_1)
  obtain ⟨T2, X2, e2, st2⟩ := getF X1 hx hZ hown (host := "") (Or.inl (hw _ w_85)) Via.refl e1 hp2 (g := (mkF m 5 #[.val (.ref a)] [(.ref a), (.ref b)])) rfl rfl (hb hby d31_5)
  obtain ⟨_, _, ⟨T3, L3, k3, n3⟩, -, X3, ⟨Lc3, hQ3, l3, y3, z3⟩, st3⟩ := Jvm.LawKit.callS X2 hx (y := mN32) hown (mvT hZ (hw _ w_228)) (mvT hZ (hw _ w_229)) (mvT hZ (hw _ w_230)) (mvT hZ (hw _ w_231)) (by decide) (backOf (W := 0) (rmcopy1 l Z a0 hw [] b y0 kb mr h0 n0 O0 hp3 mro hp5 hp6) hZ (hw _ w_231) (hw _ w_230) (by decide) (by decide)) (g := (mkF m 8 #[.val (.ref a)] [(.int (1 : Int32)), (.ref b)])) rfl (by rw [hml]; rfl) (argsL := [(.ref b), (.int (1 : Int32))]) (rest := []) (lenOf pd__ALjava_lang_Object_I_ALjava_lang_Object_ rfl) rfl (by show 2 * 0 + _ ≤ _; exact Nat.le_of_eq rfl) (hb hby d31_8) (fun _ _ => ⟨rfl, e2, (by decide : 0 + 1 ≤ _), (by decide : 0 + 1 ≤ _)⟩)
  dsimp only [Pt.U, Pt.locs, Pt.cells, Pt.slots] at X3 l3 y3 z3 st3 hQ3
  subst l3 y3 z3
  obtain ⟨r_3, kr_3, rfl, N3q, Kc3, r3_1, r3_2, r3_3, r3_4⟩ := hQ3
  have N3 := Fr.app N0 N3q
  have sz4 : h0.size ≤ r_3 := Nat.le_trans (Keep.refl h0 []).1 r3_1
  have gn4 : n0 ≤ r_3 := Nat.le_trans Z0 sz4
  have O3 : Old Z n0 T3.heap := O0.keep Kc3 all0
  have K3 : Keep h0 T3.heap [] := (Keep.refl h0 []).trans Kc3 all0
  obtain ⟨fs, hr, hrun, hended, hW, hsame⟩ := X3.leave (v := some (.ref r_3)) (fun h => by rw [Bd.returns] at h; cases h)
  refine ⟨_, _, pre0 _ ?_, hrun, hended, _, _, rfl, ?_, ⟨_, rfl⟩, hW, hsame.mono (by decide) (by decide)⟩
  · refine XS.aloadN X0.here hx rfl (hb hby d31_0) rfl rfl ?_
    show Steps p.tables e below (s₁.setTop (mkF m 1 #[.val (.ref a)] [(.ref a)])) _
    refine st1 _ ?_
    refine XS.aloadN X1.here hx rfl (hb hby d31_4) rfl rfl ?_
    show Steps p.tables e below (T1.setTop (mkF m 5 #[.val (.ref a)] [(.ref a), (.ref b)])) _
    refine st2 _ ?_
    show Steps p.tables e below (T2.setTop (mkF m 8 #[.val (.ref a)] [(.int (1 : Int32)), (.ref b)])) _
    refine st3 _ ?_
    show Steps p.tables e below (T3.setTop (mkF m 11 #[.val (.ref a)] [(.ref r_3)])) _
    jvm_step X3.here [X3.here.top, hx, (hb hby d31_11), X3.method', Bd.returns, Value.isRef, FieldType.isReference]
    first | (intro acts; rw [hr _ acts rfl rfl rfl]) | rw [hr _ _ rfl rfl rfl]
    exact Steps.refl _
  · show QtoArr1 Z a y0 b kb mr h0 n0 _ T3.heap _
    exact ⟨r_3, kr_3, rfl, N3, K3, sz4, r3_2, r3_3, r3_4⟩
theorem d35_0 : decode jdk_40_method_47_code 0 = .ok (.aload_n 0, 1) := by decide +kernel
theorem d35_1 : decode jdk_40_method_47_code 1 = .ok (.arraylength, 1) := by decide +kernel
theorem d_listof_2 : decode jdk_40_method_47_code 2 = .ok (.tableswitch 57 0 2 #[26, 32, 43], 26) := by decide +kernel
theorem w_253 : (Jvm.Cond.classLink "java/util/List" (96 : Nat) "java/util/ImmutableCollections$List12") ∈ tables_1 := List.mem_of_getElem? (i := 253) (by decide +kernel)
theorem w_255 : (Jvm.Cond.initialized "java/util/ImmutableCollections$List12") ∈ tables_1 := List.mem_of_getElem? (i := 255) (by decide +kernel)
theorem d35_34 : decode jdk_40_method_47_code 34 = .ok (.new 96, 3) := by decide +kernel
theorem d35_37 : decode jdk_40_method_47_code 37 = .ok (.dup, 1) := by decide +kernel
theorem d35_38 : decode jdk_40_method_47_code 38 = .ok (.aload_n 0, 1) := by decide +kernel
theorem d35_39 : decode jdk_40_method_47_code 39 = .ok (.iconst 0, 1) := by decide +kernel
theorem d35_40 : decode jdk_40_method_47_code 40 = .ok (.aaload, 1) := by decide +kernel
theorem w_313 : (Jvm.Cond.methodLink "java/util/List" (98 : Nat) ({ cls := "java/util/ImmutableCollections$List12", name := "<init>", desc := "(Ljava/lang/Object;)V" } : Jvm.MethodName)) ∈ tables_1 := List.mem_of_getElem? (i := 313) (by decide +kernel)
theorem w_315 : (Jvm.Cond.code ({ cls := "java/util/ImmutableCollections$List12", name := "<init>", desc := "(Ljava/lang/Object;)V" } : Jvm.MethodName) jdk_44_method_1_code (2 : Nat) (Option.none : Option Jvm.ClassFile.FieldType)) ∈ tables_1 := List.mem_of_getElem? (i := 315) (by decide +kernel)
theorem pd__Ljava_lang_Object__V : parseMethodDescriptor "(Ljava/lang/Object;)V" = some ⟨[(.object "java/lang/Object")], none⟩ := by decide +kernel
theorem d35_41 : decode jdk_40_method_47_code 41 = .ok (.invokespecial 98, 3) := by decide +kernel
theorem w_314 : (Jvm.Cond.instanceMethod ({ cls := "java/util/ImmutableCollections$List12", name := "<init>", desc := "(Ljava/lang/Object;)V" } : Jvm.MethodName)) ∈ tables_1 := List.mem_of_getElem? (i := 314) (by decide +kernel)
theorem d35_44 : decode jdk_40_method_47_code 44 = .ok (.areturn, 1) := by decide +kernel
abbrev mN34 : MethodName := ⟨"java/util/List", "of", "([Ljava/lang/Object;)Ljava/util/List;"⟩
theorem ef_listOf1 (m : MethodId) (x0 : Addr) : entryFrame m #[(.ref x0)] 2 = mkF m 0 #[.val (.ref x0), .unset] [] := by first | (simp [entryFrame, mkF, argsToLocals, Value.category]; done) | rfl
def QlistOf1 (Z : State) (sa : Addr) (y0 : Addr) (ks : ClassId) (em : Addr) (h0 : Heap) (n0 : Nat) (v : Option Value) (h : Heap) (L : List Loc) : Prop := ∃ (r : Addr), v = some (.ref r) ∧ Fr n0 L ∧ Keep h0 h [] ∧ h0.size ≤ r ∧ Exa Z h r "java/util/ImmutableCollections$List12" ∧ Fld Z h r "java/util/ImmutableCollections$List12" "e0" "Ljava/lang/Object;" (.ref y0)
theorem pn_java_util_List : plainName "java/util/List" = true := by first | (simp [plainName, overriddenIn]; done) | decide +kernel
set_option maxRecDepth 65536 in
set_option maxHeartbeats 40000000 in
theorem rmlistOf1 (l : Launch) (Z : State) (a0 : Array Value) (hw : ∀ d ∈ tables_1, d.before a0 Z = true) (ws : List Jvm.Cond) (sa : Addr) (y0 : Addr) (ks : ClassId) (em : Addr) (h0 : Heap) (n0 : Nat) (O0 : Old Z n0 h0) (hp0 : Arv Z h0 sa ks (.object "java/lang/Object") (1 : Int32) [(.ref y0)] .null) (hp1 : Ins Z h0 y0 "java/lang/Object" true) (hp2 : Sta Z Z.heap "java/util/ImmutableCollections" "EMPTY" "Ljava/lang/Object;" (.ref em)) :
    MetFree l mN34 (head1 (Jvm.Cond.code mN34 jdk_40_method_47_code 2 (some (.object "java/util/List")) :: ws) ({ frames := 5, cells := 1, slots := 2, locals := 62 } : Room)) (fun as_ U => as_ = #[(.ref sa)] ∧ Z.Warmed39 U.vm ∧ U.heap = h0) (fun _ _ _ _ _ => True) (fun _ U o U' => ∃ v L, o = .returned v ∧ QlistOf1 Z sa y0 ks em h0 n0 v U'.heap L ∧ FrameEnd U o U' L ({ frames := 5, cells := 1, slots := 2, locals := 62 } : Room).cells ({ frames := 5, cells := 1, slots := 2, locals := 62 } : Room).slots) := by
  refine MetFree.of_bodySF (plainFor_of_name pn_java_util_List) hisR ?_
  intro p e s m args below meth c s₁ Bd hml0 hP hK
  obtain ⟨rfl, hZ, hh⟩ := hP
  have hx := Bd.exec
  have hby := Bd.bytes
  have hml : c.maxLocals = 2 := hml0
  have hown : s.vm.findClass "java/util/List" = some m.cls := findClass_of_methodNamed Bd.named
  have hnm := (name_of_methodNamed Bd.named Bd.method).1
  have X0 : Stand p l e ({ frames := 5, cells := 1, slots := 2, locals := 62 } : Room) s m #[(.ref sa)] below meth c s₁ [] 0 0 := Stand.of_body Bd
  have e0 : s₁.heap = h0 := by rw [← hh, Bd.state]; rfl
  have N0 := Fr.nil n0
  have Z0 := own_z0 O0
  have pre0 : ∀ tg_, Steps p.tables e below (s₁.setTop (mkF m 0 #[.val (.ref sa), .unset] [])) tg_ → Steps p.tables e below (s₁.setTop (entryFrame m #[(.ref sa)] 2)) tg_ := fun tg_ kt_ => castTop (ef_listOf1 m sa) kt_
  obtain ⟨cl1, Ar1, -, S1, Ng1, -, -⟩ := id hp0
  obtain ⟨T2, h2, X2, e2, E2, A2, D2, U2, st2⟩ := newO X0 hx hZ hown (hw _ w_253) (hw _ w_254) (hw _ w_255) e0 (g := (mkF m 34 #[.val (.ref sa), .unset] [])) rfl (hb hby d35_34) (by decide) (by decide)
  obtain ⟨b2, g2⟩ : ∃ z, z = h0.size := ⟨_, rfl⟩
  rw [← g2] at A2 D2 U2 st2
  have Un2 : Unt h2 b2 := U2
  have sz2 : h0.size ≤ b2 := Nat.le_trans (Keep.refl h0 []).1 (Nat.le_of_eq g2.symm)
  have gn2 : n0 ≤ b2 := Nat.le_trans Z0 sz2
  have O2 : Old Z n0 h2 := O0.ext E2
  have K2 : Keep h0 h2 [] := (Keep.refl h0 []).ext E2
  have F2_278 : Fld Z h2 b2 "java/util/ImmutableCollections$List12" "e0" "Ljava/lang/Object;" .null := D2 (Or.inr (hw _ w_278)) (ty := (.object "java/lang/Object")) (by decide)
  have F2_280 : Fld Z h2 b2 "java/util/ImmutableCollections$List12" "e1" "Ljava/lang/Object;" .null := D2 (Or.inr (hw _ w_280)) (ty := (.object "java/lang/Object")) (by decide)
  obtain ⟨cl4, Ar4, -, S4, Ng4, H4, G4⟩ := id (hp0.ext E2)
  have hin4 : ¬ ((0 : Int32) < 0 ∨ cl4.slots.size ≤ ((0 : Int32)).toNatClampNeg) := inb_of S4 ⟨by decide, by decide⟩
  have hat4 : cl4.slots[((0 : Int32)).toNatClampNeg]? = some (.ref y0) := H4.at hin4 rfl
  obtain ⟨_, _, ⟨T5, L5, k5, n5⟩, -, X5, ⟨Lc5, hQ5, l5, y5, z5⟩, st5⟩ := X2.specialBack hx (y := mN28) rfl hown (mvT hZ (hw _ w_313)) (mvT hZ (hw _ w_314)) (mvT hZ (hw _ w_315)) (by decide) (backOf (W := 1) (rml12a l Z a0 hw [] b2 y0 em .null .null h2 n0 O2 A2 gn2 F2_278 F2_280 hp2) hZ (hw _ w_315) (hw _ w_255) (by decide) (by decide)) (g := (mkF m 41 #[.val (.ref sa), .unset] [(.ref y0), (.ref b2), (.ref b2)])) rfl (by rw [hml]; rfl) (Steps.refl _) (a := b2) (argsL := [(.ref y0)]) (rest := [(.ref b2)]) (lenOf pd__Ljava_lang_Object__V rfl) rfl (by show 2 * 0 + _ ≤ _; exact Nat.le_of_eq rfl) (hb hby d35_41) (fun _ _ => ⟨rfl, e2, (by decide : 1 + 0 ≤ _), (by decide : 2 + 0 ≤ _)⟩)
  dsimp only [Pt.U, Pt.locs, Pt.cells, Pt.slots] at X5 l5 y5 z5 st5 hQ5
  subst l5 y5 z5
  obtain ⟨rfl, N5q, Kc5, r5_1, r5_2⟩ := hQ5
  have N5 := Fr.app N0 N5q
  have O5 : Old Z n0 T5.heap := O2.keep Kc5 (allS gn2 all0)
  have K5 : Keep h0 T5.heap [] := K2.trans Kc5 (allS (Or.inr sz2) all0)
  obtain ⟨fs, hr, hrun, hended, hW, hsame⟩ := X5.leave (v := some (.ref b2)) (fun h => by rw [Bd.returns] at h; cases h)
  refine ⟨_, _, pre0 _ ?_, hrun, hended, _, _, rfl, ?_, ⟨_, rfl⟩, hW, hsame.mono (by decide) (by decide)⟩
  · refine XS.aloadN X0.here hx rfl (hb hby d35_0) rfl rfl ?_
    show Steps p.tables e below (s₁.setTop (mkF m 1 #[.val (.ref sa), .unset] [(.ref sa)])) _
    refine X0.arraylength hx (by rw [e0]; exact Ar1.1) (State.isArrayOf_alike hZ.alike Ar1.2.1) (g := (mkF m 1 #[.val (.ref sa), .unset] [(.ref sa)])) rfl rfl (hb hby d35_1) _ ?_
    rw [len_of S1 Ng1]
    show Steps p.tables e below (s₁.setTop (mkF m 2 #[.val (.ref sa), .unset] [(.int (1 : Int32))])) _
    refine XS.tswIn X0.here hx rfl (pc0 := 2) (pc' := 34) rfl (hb hby d_listof_2) rfl (by decide) (o := 32) rfl (by decide) (by decide) ?_
    show Steps p.tables e below (s₁.setTop (mkF m 34 #[.val (.ref sa), .unset] [])) _
    refine st2 _ ?_
    refine XS.dup X2.here hx rfl (hb hby d35_37) rfl rfl ?_
    refine XS.aloadN X2.here hx rfl (hb hby d35_38) rfl rfl ?_
    refine XS.iconst X2.here hx rfl (hb hby d35_39) ?_
    show Steps p.tables e below (T2.setTop (mkF m 40 #[.val (.ref sa), .unset] [(.int (0 : Int32)), (.ref sa), (.ref b2), (.ref b2)])) _
    refine X2.aaload hx (j := (0 : Int32)) (v := (.ref y0)) (by rw [e2]; exact Ar4.1) (State.isArrayOf_alike hZ.alike Ar4.2.1) rfl Ar4.2.2 hin4 hat4 (g := (mkF m 40 #[.val (.ref sa), .unset] [(.int (0 : Int32)), (.ref sa), (.ref b2), (.ref b2)])) rfl rfl (hb hby d35_40) _ ?_
    show Steps p.tables e below (T2.setTop (mkF m 41 #[.val (.ref sa), .unset] [(.ref y0), (.ref b2), (.ref b2)])) _
    refine st5.trans ?_
    show Steps p.tables e below (T5.setTop (mkF m 44 #[.val (.ref sa), .unset] [(.ref b2)])) _
    jvm_step X5.here [X5.here.top, hx, (hb hby d35_44), X5.method', Bd.returns, Value.isRef, FieldType.isReference]
    first | (intro acts; rw [hr _ acts rfl rfl rfl]) | rw [hr _ _ rfl rfl rfl]
    exact Steps.refl _
  · show QlistOf1 Z sa y0 ks em h0 n0 _ T5.heap _
    exact ⟨b2, rfl, N5, K5, sz2, r5_1, r5_2⟩
theorem d29_0 : decode jdk_56_method_3_code 0 = .ok (.aload_n 0, 1) := by decide +kernel
theorem w_205 : (Jvm.Cond.classLink "java/util/ImmutableCollections" (10 : Nat) "java/util/ImmutableCollections$List12") ∈ tables_1 := List.mem_of_getElem? (i := 205) (by decide +kernel)
theorem w_206 : (Jvm.Cond.superclass "java/util/ArrayList" "java/util/AbstractList") ∈ tables_1 := List.mem_of_getElem? (i := 206) (by decide +kernel)
theorem w_207 : (Jvm.Cond.superclass "java/util/AbstractList" "java/util/AbstractCollection") ∈ tables_1 := List.mem_of_getElem? (i := 207) (by decide +kernel)
theorem w_208 : (Jvm.Cond.superclass "java/util/AbstractCollection" "java/lang/Object") ∈ tables_1 := List.mem_of_getElem? (i := 208) (by decide +kernel)
theorem d29_1 : decode jdk_56_method_3_code 1 = .ok (.instanceof 10, 3) := by decide +kernel
theorem d29_4 : decode jdk_56_method_3_code 4 = .ok (.ifCond .ne 22, 3) := by decide +kernel
theorem d29_7 : decode jdk_56_method_3_code 7 = .ok (.aload_n 0, 1) := by decide +kernel
theorem w_210 : (Jvm.Cond.classLink "java/util/ImmutableCollections" (12 : Nat) "java/util/ImmutableCollections$ListN") ∈ tables_1 := List.mem_of_getElem? (i := 210) (by decide +kernel)
theorem d29_8 : decode jdk_56_method_3_code 8 = .ok (.instanceof 12, 3) := by decide +kernel
theorem d29_11 : decode jdk_56_method_3_code 11 = .ok (.ifCond .eq 20, 3) := by decide +kernel
theorem d29_31 : decode jdk_56_method_3_code 31 = .ok (.aload_n 0, 1) := by decide +kernel
theorem w_211 : (Jvm.Cond.methodLink "java/util/ImmutableCollections" (20 : Nat) ({ cls := "java/util/Collection", name := "isEmpty", desc := "()Z" } : Jvm.MethodName)) ∈ tables_1 := List.mem_of_getElem? (i := 211) (by decide +kernel)
theorem w_219 : (Jvm.Cond.code ({ cls := "java/util/ArrayList", name := "isEmpty", desc := "()Z" } : Jvm.MethodName) jdk_38_method_9_code (1 : Nat) (Option.some Jvm.ClassFile.FieldType.boolean)) ∈ tables_1 := List.mem_of_getElem? (i := 219) (by decide +kernel)
theorem pd___Z : parseMethodDescriptor "()Z" = some ⟨[], some .boolean⟩ := by decide +kernel
theorem d29_32 : decode jdk_56_method_3_code 32 = .ok (.invokeinterface 20 1, 5) := by decide +kernel
theorem w_214 : (Jvm.Cond.selects "java/util/ArrayList" ({ cls := "java/util/Collection", name := "isEmpty", desc := "()Z" } : Jvm.MethodName) ({ cls := "java/util/ArrayList", name := "isEmpty", desc := "()Z" } : Jvm.MethodName)) ∈ tables_1 := List.mem_of_getElem? (i := 214) (by decide +kernel)
abbrev mN35 : MethodName := ⟨"java/util/Collection", "isEmpty", "()Z"⟩
theorem w_212 : (Jvm.Cond.declares ({ cls := "java/util/Collection", name := "isEmpty", desc := "()Z" } : Jvm.MethodName)) ∈ tables_1 := List.mem_of_getElem? (i := 212) (by decide +kernel)
theorem w_213 : (Jvm.Cond.interfaceMethod "java/util/Collection" "java/util/Collection" "isEmpty" "()Z") ∈ tables_1 := List.mem_of_getElem? (i := 213) (by decide +kernel)
theorem w_215 : (Jvm.Cond.instanceMethod ({ cls := "java/util/ArrayList", name := "isEmpty", desc := "()Z" } : Jvm.MethodName)) ∈ tables_1 := List.mem_of_getElem? (i := 215) (by decide +kernel)
theorem w_216 : (Jvm.Cond.publicMethod ({ cls := "java/util/ArrayList", name := "isEmpty", desc := "()Z" } : Jvm.MethodName)) ∈ tables_1 := List.mem_of_getElem? (i := 216) (by decide +kernel)
theorem w_217 : (Jvm.Cond.unhidden "java/util/ArrayList" "isEmpty" "()Z") ∈ tables_1 := List.mem_of_getElem? (i := 217) (by decide +kernel)
theorem w_218 : (Jvm.Cond.castable "java/util/ArrayList" "java/util/Collection") ∈ tables_1 := List.mem_of_getElem? (i := 218) (by decide +kernel)
theorem d29_37 : decode jdk_56_method_3_code 37 = .ok (.ifCond .eq 7, 3) := by decide +kernel
theorem d29_44 : decode jdk_56_method_3_code 44 = .ok (.aload_n 0, 1) := by decide +kernel
theorem w_220 : (Jvm.Cond.methodLink "java/util/ImmutableCollections" (30 : Nat) ({ cls := "java/util/Collection", name := "toArray", desc := "()[Ljava/lang/Object;" } : Jvm.MethodName)) ∈ tables_1 := List.mem_of_getElem? (i := 220) (by decide +kernel)
theorem w_227 : (Jvm.Cond.code ({ cls := "java/util/ArrayList", name := "toArray", desc := "()[Ljava/lang/Object;" } : Jvm.MethodName) jdk_38_method_16_code (1 : Nat) (Option.some (Jvm.ClassFile.FieldType.array (Jvm.ClassFile.FieldType.object "java/lang/Object")))) ∈ tables_1 := List.mem_of_getElem? (i := 227) (by decide +kernel)
theorem d29_45 : decode jdk_56_method_3_code 45 = .ok (.invokeinterface 30 1, 5) := by decide +kernel
theorem w_223 : (Jvm.Cond.selects "java/util/ArrayList" ({ cls := "java/util/Collection", name := "toArray", desc := "()[Ljava/lang/Object;" } : Jvm.MethodName) ({ cls := "java/util/ArrayList", name := "toArray", desc := "()[Ljava/lang/Object;" } : Jvm.MethodName)) ∈ tables_1 := List.mem_of_getElem? (i := 223) (by decide +kernel)
abbrev mN36 : MethodName := ⟨"java/util/Collection", "toArray", "()[Ljava/lang/Object;"⟩
theorem w_221 : (Jvm.Cond.declares ({ cls := "java/util/Collection", name := "toArray", desc := "()[Ljava/lang/Object;" } : Jvm.MethodName)) ∈ tables_1 := List.mem_of_getElem? (i := 221) (by decide +kernel)
theorem w_222 : (Jvm.Cond.interfaceMethod "java/util/Collection" "java/util/Collection" "toArray" "()[Ljava/lang/Object;") ∈ tables_1 := List.mem_of_getElem? (i := 222) (by decide +kernel)
theorem w_224 : (Jvm.Cond.instanceMethod ({ cls := "java/util/ArrayList", name := "toArray", desc := "()[Ljava/lang/Object;" } : Jvm.MethodName)) ∈ tables_1 := List.mem_of_getElem? (i := 224) (by decide +kernel)
theorem w_225 : (Jvm.Cond.publicMethod ({ cls := "java/util/ArrayList", name := "toArray", desc := "()[Ljava/lang/Object;" } : Jvm.MethodName)) ∈ tables_1 := List.mem_of_getElem? (i := 225) (by decide +kernel)
theorem w_226 : (Jvm.Cond.unhidden "java/util/ArrayList" "toArray" "()[Ljava/lang/Object;") ∈ tables_1 := List.mem_of_getElem? (i := 226) (by decide +kernel)
theorem w_250 : (Jvm.Cond.methodLink "java/util/ImmutableCollections" (34 : Nat) ({ cls := "java/util/List", name := "of", desc := "([Ljava/lang/Object;)Ljava/util/List;" } : Jvm.MethodName)) ∈ tables_1 := List.mem_of_getElem? (i := 250) (by decide +kernel)
theorem w_252 : (Jvm.Cond.code ({ cls := "java/util/List", name := "of", desc := "([Ljava/lang/Object;)Ljava/util/List;" } : Jvm.MethodName) jdk_40_method_47_code (2 : Nat) (Option.some (Jvm.ClassFile.FieldType.object "java/util/List"))) ∈ tables_1 := List.mem_of_getElem? (i := 252) (by decide +kernel)
theorem w_199 : (Jvm.Cond.initialized "java/util/List") ∈ tables_1 := List.mem_of_getElem? (i := 199) (by decide +kernel)
theorem pd__ALjava_lang_Object__Ljava_util_List_ : parseMethodDescriptor "([Ljava/lang/Object;)Ljava/util/List;" = some ⟨[(.array (.object "java/lang/Object"))], some (.object "java/util/List")⟩ := by decide +kernel
theorem d29_50 : decode jdk_56_method_3_code 50 = .ok (.invokestatic 34, 3) := by decide +kernel
theorem w_251 : (Jvm.Cond.static ({ cls := "java/util/List", name := "of", desc := "([Ljava/lang/Object;)Ljava/util/List;" } : Jvm.MethodName)) ∈ tables_1 := List.mem_of_getElem? (i := 251) (by decide +kernel)
theorem d29_53 : decode jdk_56_method_3_code 53 = .ok (.areturn, 1) := by decide +kernel
abbrev mN37 : MethodName := ⟨"java/util/ImmutableCollections", "listCopy", "(Ljava/util/Collection;)Ljava/util/List;"⟩
theorem ef_listCopy1 (m : MethodId) (x0 : Addr) : entryFrame m #[(.ref x0)] 2 = mkF m 0 #[.val (.ref x0), .unset] [] := by first | (simp [entryFrame, mkF, argsToLocals, Value.category]; done) | rfl
def QlistCopy1 (Z : State) (a : Addr) (y0 : Addr) (b : Addr) (kb : ClassId) (mr : Addr) (em : Addr) (h0 : Heap) (n0 : Nat) (v : Option Value) (h : Heap) (L : List Loc) : Prop := ∃ (r : Addr), v = some (.ref r) ∧ Fr n0 L ∧ Keep h0 h [] ∧ h0.size ≤ r ∧ Exa Z h r "java/util/ImmutableCollections$List12" ∧ Fld Z h r "java/util/ImmutableCollections$List12" "e0" "Ljava/lang/Object;" (.ref y0)
theorem pn_java_util_ImmutableCollections : plainName "java/util/ImmutableCollections" = true := by first | (simp [plainName, overriddenIn]; done) | decide +kernel
set_option maxRecDepth 65536 in
set_option maxHeartbeats 40000000 in
theorem rmlistCopy1 (l : Launch) (Z : State) (a0 : Array Value) (hw : ∀ d ∈ tables_1, d.before a0 Z = true) (ws : List Jvm.Cond) (a : Addr) (y0 : Addr) (b : Addr) (kb : ClassId) (mr : Addr) (em : Addr) (h0 : Heap) (n0 : Nat) (O0 : Old Z n0 h0) (hp0 : Exa Z h0 a "java/util/ArrayList") (hp1 : Fld Z h0 a "java/util/ArrayList" "elementData" "[Ljava/lang/Object;" (.ref b)) (hp2 : Fld Z h0 a "java/util/ArrayList" "size" "I" (.int (1 : Int32))) (hp3 : Arv Z h0 b kb (.object "java/lang/Object") (10 : Int32) [(.ref y0), .null, .null, .null, .null, .null, .null, .null, .null, .null] .null) (mro : (own_Mr Z "[Ljava/lang/Object;" mr)) (hp5 : Exa Z h0 b "[Ljava/lang/Object;") (hp6 : Ins Z h0 y0 "java/lang/Object" true) (hp7 : Sta Z Z.heap "java/util/ImmutableCollections" "EMPTY" "Ljava/lang/Object;" (.ref em)) :
    MetFree l mN37 (head1 (Jvm.Cond.code mN37 jdk_56_method_3_code 2 (some (.object "java/util/List")) :: ws) ({ frames := 6, cells := 2, slots := 3, locals := 91 } : Room)) (fun as_ U => as_ = #[(.ref a)] ∧ Z.Warmed39 U.vm ∧ U.heap = h0) (fun _ _ _ _ _ => True) (fun _ U o U' => ∃ v L, o = .returned v ∧ QlistCopy1 Z a y0 b kb mr em h0 n0 v U'.heap L ∧ FrameEnd U o U' L ({ frames := 6, cells := 2, slots := 3, locals := 91 } : Room).cells ({ frames := 6, cells := 2, slots := 3, locals := 91 } : Room).slots) := by
  refine MetFree.of_bodySF (plainFor_of_name pn_java_util_ImmutableCollections) hisR ?_
  intro p e s m args below meth c s₁ Bd hml0 hP hK
  obtain ⟨rfl, hZ, hh⟩ := hP
  have hx := Bd.exec
  have hby := Bd.bytes
  have hml : c.maxLocals = 2 := hml0
  have hown : s.vm.findClass "java/util/ImmutableCollections" = some m.cls := findClass_of_methodNamed Bd.named
  have hnm := (name_of_methodNamed Bd.named Bd.method).1
  have X0 : Stand p l e ({ frames := 6, cells := 2, slots := 3, locals := 91 } : Room) s m #[(.ref a)] below meth c s₁ [] 0 0 := Stand.of_body Bd
  have e0 : s₁.heap = h0 := by rw [← hh, Bd.state]; rfl
  have N0 := Fr.nil n0
  have Z0 := own_z0 O0
  have pre0 : ∀ tg_, Steps p.tables e below (s₁.setTop (mkF m 0 #[.val (.ref a), .unset] [])) tg_ → Steps p.tables e below (s₁.setTop (entryFrame m #[(.ref a)] 2)) tg_ := fun tg_ kt_ => castTop (ef_listCopy1 m a) kt_
  obtain ⟨T1, X1, e1, st1⟩ := instNo X0 hx hZ hown (hw _ w_205) e0 hp0 (own_nsNo (hw _ w_206) (hw _ w_254) (NS.step (hw _ w_206) (NS.step (hw _ w_207) (NS.step (hw _ w_208) (own_nsRoot (hw _ w_209) (hw _ w_254) (by decide)) (by decide)) (by decide)) (by decide)) (by decide)) (g := (mkF m 1 #[.val (.ref a), .unset] [(.ref a)])) rfl rfl (hb hby d29_1)
  obtain ⟨T2, X2, e2, st2⟩ := instNo X1 hx hZ hown (hw _ w_210) e1 hp0 (own_nsNo (hw _ w_206) (hw _ w_324) (NS.step (hw _ w_206) (NS.step (hw _ w_207) (NS.step (hw _ w_208) (own_nsRoot (hw _ w_209) (hw _ w_324) (by decide)) (by decide)) (by decide)) (by decide)) (by decide)) (g := (mkF m 8 #[.val (.ref a), .unset] [(.ref a)])) rfl rfl (hb hby d29_8)
  obtain ⟨cq3, kq3, q3a, q3b, q3c⟩ := isOf hZ e2 hp0
  obtain ⟨_, _, ⟨T3, L3, k3, n3⟩, -, X3, ⟨Lc3, hQ3, l3, y3, z3⟩, st3⟩ := X2.interfaceBack hx (xi := mN35) (y := mN25) hown (mvT hZ (hw _ w_211)) (mvT hZ (hw _ w_212)) (mvT hZ (hw _ w_213)) (mvT hZ (hw _ w_214)) (mvT hZ (hw _ w_215)) (mvT hZ (hw _ w_216)) (mvT hZ (hw _ w_217)) (mvT hZ (hw _ w_218)) (by decide) (backOf (W := 0) (rmalEmpty l Z a0 hw [] a (1 : Int32) h0 n0 O0 hp2 (by decide)) hZ (hw _ w_219) (hw _ w_56) (by decide) (by decide)) q3a q3b q3c (g := (mkF m 32 #[.val (.ref a), .unset] [(.ref a)])) rfl (by rw [hml]; rfl) (Steps.refl _) (argsL := []) (rest := []) (lenOf pd___Z rfl) rfl (by show 2 * 0 + _ ≤ _; exact Nat.le_of_eq rfl) (hb hby d29_32) (fun _ _ => ⟨rfl, e2, (by decide : 0 + 0 ≤ _), (by decide : 0 + 0 ≤ _)⟩)
  dsimp only [Pt.U, Pt.locs, Pt.cells, Pt.slots] at X3 l3 y3 z3 st3 hQ3
  subst l3 y3 z3
  obtain ⟨rfl, N3q, eh3⟩ := hQ3
  have N3 := Fr.app N0 N3q
  obtain ⟨cq4, kq4, q4a, q4b, q4c⟩ := isOf hZ eh3 hp0
  obtain ⟨_, _, ⟨T4, L4, k4, n4⟩, -, X4, ⟨Lc4, hQ4, l4, y4, z4⟩, st4⟩ := X3.interfaceBack hx (xi := mN36) (y := mN33) hown (mvT hZ (hw _ w_220)) (mvT hZ (hw _ w_221)) (mvT hZ (hw _ w_222)) (mvT hZ (hw _ w_223)) (mvT hZ (hw _ w_224)) (mvT hZ (hw _ w_225)) (mvT hZ (hw _ w_226)) (mvT hZ (hw _ w_218)) (by decide) (backOf (W := 0) (rmtoArr1 l Z a0 hw [] a y0 b kb mr h0 n0 O0 hp0 hp1 hp2 hp3 mro hp5 hp6) hZ (hw _ w_227) (hw _ w_56) (by decide) (by decide)) q4a q4b q4c (g := (mkF m 45 #[.val (.ref a), .unset] [(.ref a)])) rfl (by rw [hml]; rfl) (Steps.refl _) (argsL := []) (rest := []) (lenOf pd___ALjava_lang_Object_ rfl) rfl (by show 2 * 0 + _ ≤ _; exact Nat.le_of_eq rfl) (hb hby d29_45) (fun _ _ => ⟨rfl, eh3, (by decide : 0 + 1 ≤ _), (by decide : 0 + 1 ≤ _)⟩)
  dsimp only [Pt.U, Pt.locs, Pt.cells, Pt.slots] at X4 l4 y4 z4 st4 hQ4
  subst l4 y4 z4
  obtain ⟨r_4, kr_4, rfl, N4q, Kc4, r4_1, r4_2, r4_3, r4_4⟩ := hQ4
  have N4 := Fr.app N3 N4q
  have sz5 : h0.size ≤ r_4 := Nat.le_trans (Keep.refl h0 []).1 r4_1
  have gn5 : n0 ≤ r_4 := Nat.le_trans Z0 sz5
  have O4 : Old Z n0 T4.heap := O0.keep Kc4 all0
  have K4 : Keep h0 T4.heap [] := (Keep.refl h0 []).trans Kc4 all0
  obtain ⟨_, _, ⟨T7, L7, k7, n7⟩, -, X7, ⟨Lc7, hQ7, l7, y7, z7⟩, st7⟩ := Jvm.LawKit.callS X4 hx (y := mN34) hown (mvT hZ (hw _ w_250)) (mvT hZ (hw _ w_251)) (mvT hZ (hw _ w_199)) (mvT hZ (hw _ w_252)) (by decide) (backOf (W := 0) (rmlistOf1 l Z a0 hw [] r_4 y0 kr_4 em T4.heap n0 O4 r4_2 (own_insKeep hp6 Kc4) hp7) hZ (hw _ w_252) (hw _ w_199) (by decide) (by decide)) (g := (mkF m 50 #[.val (.ref a), .unset] [(.ref r_4)])) rfl (by rw [hml]; rfl) (argsL := [(.ref r_4)]) (rest := []) (lenOf pd__ALjava_lang_Object__Ljava_util_List_ rfl) rfl (by show 2 * 0 + _ ≤ _; exact Nat.le_of_eq rfl) (hb hby d29_50) (fun _ _ => ⟨rfl, rfl, (by decide : 1 + 1 ≤ _), (by decide : 1 + 2 ≤ _)⟩)
  dsimp only [Pt.U, Pt.locs, Pt.cells, Pt.slots] at X7 l7 y7 z7 st7 hQ7
  subst l7 y7 z7
  obtain ⟨r_7, rfl, N7q, Kc7, r7_1, r7_2, r7_3⟩ := hQ7
  have N7 := Fr.app N4 N7q
  have sz8 : h0.size ≤ r_7 := Nat.le_trans K4.1 r7_1
  have gn8 : n0 ≤ r_7 := Nat.le_trans Z0 sz8
  have O7 : Old Z n0 T7.heap := O4.keep Kc7 all0
  have K7 : Keep h0 T7.heap [] := K4.trans Kc7 all0
  obtain ⟨fs, hr, hrun, hended, hW, hsame⟩ := X7.leave (v := some (.ref r_7)) (fun h => by rw [Bd.returns] at h; cases h)
  refine ⟨_, _, pre0 _ ?_, hrun, hended, _, _, rfl, ?_, ⟨_, rfl⟩, hW, hsame.mono (by decide) (by decide)⟩
  · refine XS.aloadN X0.here hx rfl (hb hby d29_0) rfl rfl ?_
    show Steps p.tables e below (s₁.setTop (mkF m 1 #[.val (.ref a), .unset] [(.ref a)])) _
    refine st1 _ ?_
    refine XS.ifNo X1.here hx rfl (hb hby d29_4) rfl ((if0 _ _).trans (teq (by decide : (0 : Int32) = (0 : Int32))).2) ?_
    refine XS.aloadN X1.here hx rfl (hb hby d29_7) rfl rfl ?_
    show Steps p.tables e below (T1.setTop (mkF m 8 #[.val (.ref a), .unset] [(.ref a)])) _
    refine st2 _ ?_
    refine XS.ifYes X2.here hx rfl (pc0 := 11) (pc' := 31) rfl (hb hby d29_11) rfl ((if0 _ _).trans (teq (by decide : (0 : Int32) = (0 : Int32))).1) (by decide) (by decide) ?_
    refine XS.aloadN X2.here hx rfl (hb hby d29_31) rfl rfl ?_
    show Steps p.tables e below (T2.setTop (mkF m 32 #[.val (.ref a), .unset] [(.ref a)])) _
    refine st3.trans ?_
    refine XS.ifYes X3.here hx rfl (pc0 := 37) (pc' := 44) rfl (hb hby d29_37) rfl ((if0 _ _).trans (teq (by decide : (0 : Int32) = (0 : Int32))).1) (by decide) (by decide) ?_
    refine XS.aloadN X3.here hx rfl (hb hby d29_44) rfl rfl ?_
    show Steps p.tables e below (T3.setTop (mkF m 45 #[.val (.ref a), .unset] [(.ref a)])) _
    refine st4.trans ?_
    show Steps p.tables e below (T4.setTop (mkF m 50 #[.val (.ref a), .unset] [(.ref r_4)])) _
    refine st7 _ ?_
    show Steps p.tables e below (T7.setTop (mkF m 53 #[.val (.ref a), .unset] [(.ref r_7)])) _
    jvm_step X7.here [X7.here.top, hx, (hb hby d29_53), X7.method', Bd.returns, Value.isRef, FieldType.isReference]
    first | (intro acts; rw [hr _ acts rfl rfl rfl]) | rw [hr _ _ rfl rfl rfl]
    exact Steps.refl _
  · show QlistCopy1 Z a y0 b kb mr em h0 n0 _ T7.heap _
    exact ⟨r_7, rfl, N7, K7, sz8, r7_2, r7_3⟩
theorem d28_0 : decode jdk_40_method_48_code 0 = .ok (.aload_n 0, 1) := by decide +kernel
theorem w_201 : (Jvm.Cond.methodLink "java/util/List" (112 : Nat) ({ cls := "java/util/ImmutableCollections", name := "listCopy", desc := "(Ljava/util/Collection;)Ljava/util/List;" } : Jvm.MethodName)) ∈ tables_1 := List.mem_of_getElem? (i := 201) (by decide +kernel)
theorem w_204 : (Jvm.Cond.code ({ cls := "java/util/ImmutableCollections", name := "listCopy", desc := "(Ljava/util/Collection;)Ljava/util/List;" } : Jvm.MethodName) jdk_56_method_3_code (2 : Nat) (Option.some (Jvm.ClassFile.FieldType.object "java/util/List"))) ∈ tables_1 := List.mem_of_getElem? (i := 204) (by decide +kernel)
theorem w_203 : (Jvm.Cond.initialized "java/util/ImmutableCollections") ∈ tables_1 := List.mem_of_getElem? (i := 203) (by decide +kernel)
theorem pd__Ljava_util_Collection__Ljava_util_List_ : parseMethodDescriptor "(Ljava/util/Collection;)Ljava/util/List;" = some ⟨[(.object "java/util/Collection")], some (.object "java/util/List")⟩ := by decide +kernel
theorem d28_1 : decode jdk_40_method_48_code 1 = .ok (.invokestatic 112, 3) := by decide +kernel
theorem w_202 : (Jvm.Cond.static ({ cls := "java/util/ImmutableCollections", name := "listCopy", desc := "(Ljava/util/Collection;)Ljava/util/List;" } : Jvm.MethodName)) ∈ tables_1 := List.mem_of_getElem? (i := 202) (by decide +kernel)
theorem d28_4 : decode jdk_40_method_48_code 4 = .ok (.areturn, 1) := by decide +kernel
abbrev mN38 : MethodName := ⟨"java/util/List", "copyOf", "(Ljava/util/Collection;)Ljava/util/List;"⟩
theorem ef_copyOf1 (m : MethodId) (x0 : Addr) : entryFrame m #[(.ref x0)] 1 = mkF m 0 #[.val (.ref x0)] [] := by first | (simp [entryFrame, mkF, argsToLocals, Value.category]; done) | rfl
def QcopyOf1 (Z : State) (a : Addr) (y0 : Addr) (b : Addr) (kb : ClassId) (mr : Addr) (em : Addr) (h0 : Heap) (n0 : Nat) (v : Option Value) (h : Heap) (L : List Loc) : Prop := ∃ (r : Addr), v = some (.ref r) ∧ Fr n0 L ∧ Keep h0 h [] ∧ h0.size ≤ r ∧ Exa Z h r "java/util/ImmutableCollections$List12" ∧ Fld Z h r "java/util/ImmutableCollections$List12" "e0" "Ljava/lang/Object;" (.ref y0)
set_option maxRecDepth 65536 in
set_option maxHeartbeats 40000000 in
theorem rmcopyOf1 (l : Launch) (Z : State) (a0 : Array Value) (hw : ∀ d ∈ tables_1, d.before a0 Z = true) (ws : List Jvm.Cond) (a : Addr) (y0 : Addr) (b : Addr) (kb : ClassId) (mr : Addr) (em : Addr) (h0 : Heap) (n0 : Nat) (O0 : Old Z n0 h0) (hp0 : Exa Z h0 a "java/util/ArrayList") (hp1 : Fld Z h0 a "java/util/ArrayList" "elementData" "[Ljava/lang/Object;" (.ref b)) (hp2 : Fld Z h0 a "java/util/ArrayList" "size" "I" (.int (1 : Int32))) (hp3 : Arv Z h0 b kb (.object "java/lang/Object") (10 : Int32) [(.ref y0), .null, .null, .null, .null, .null, .null, .null, .null, .null] .null) (mro : (own_Mr Z "[Ljava/lang/Object;" mr)) (hp5 : Exa Z h0 b "[Ljava/lang/Object;") (hp6 : Ins Z h0 y0 "java/lang/Object" true) (hp7 : Sta Z Z.heap "java/util/ImmutableCollections" "EMPTY" "Ljava/lang/Object;" (.ref em)) :
    MetFree l mN38 (head1 (Jvm.Cond.code mN38 jdk_40_method_48_code 1 (some (.object "java/util/List")) :: ws) ({ frames := 7, cells := 2, slots := 3, locals := 104 } : Room)) (fun as_ U => as_ = #[(.ref a)] ∧ Z.Warmed39 U.vm ∧ U.heap = h0) (fun _ _ _ _ _ => True) (fun _ U o U' => ∃ v L, o = .returned v ∧ QcopyOf1 Z a y0 b kb mr em h0 n0 v U'.heap L ∧ FrameEnd U o U' L ({ frames := 7, cells := 2, slots := 3, locals := 104 } : Room).cells ({ frames := 7, cells := 2, slots := 3, locals := 104 } : Room).slots) := by
  refine MetFree.of_bodySF (plainFor_of_name pn_java_util_List) hisR ?_
  intro p e s m args below meth c s₁ Bd hml0 hP hK
  obtain ⟨rfl, hZ, hh⟩ := hP
  have hx := Bd.exec
  have hby := Bd.bytes
  have hml : c.maxLocals = 1 := hml0
  have hown : s.vm.findClass "java/util/List" = some m.cls := findClass_of_methodNamed Bd.named
  have hnm := (name_of_methodNamed Bd.named Bd.method).1
  have X0 : Stand p l e ({ frames := 7, cells := 2, slots := 3, locals := 104 } : Room) s m #[(.ref a)] below meth c s₁ [] 0 0 := Stand.of_body Bd
  have e0 : s₁.heap = h0 := by rw [← hh, Bd.state]; rfl
  have N0 := Fr.nil n0
  have Z0 := own_z0 O0
  have pre0 : ∀ tg_, Steps p.tables e below (s₁.setTop (mkF m 0 #[.val (.ref a)] [])) tg_ → Steps p.tables e below (s₁.setTop (entryFrame m #[(.ref a)] 1)) tg_ := fun tg_ kt_ => castTop (ef_copyOf1 m a) kt_
  obtain ⟨_, _, ⟨T1, L1, k1, n1⟩, -, X1, ⟨Lc1, hQ1, l1, y1, z1⟩, st1⟩ := Jvm.LawKit.callS X0 hx (y := mN37) hown (mvT hZ (hw _ w_201)) (mvT hZ (hw _ w_202)) (mvT hZ (hw _ w_203)) (mvT hZ (hw _ w_204)) (by decide) (backOf (W := 0) (rmlistCopy1 l Z a0 hw [] a y0 b kb mr em h0 n0 O0 hp0 hp1 hp2 hp3 mro hp5 hp6 hp7) hZ (hw _ w_204) (hw _ w_203) (by decide) (by decide)) (g := (mkF m 1 #[.val (.ref a)] [(.ref a)])) rfl (by rw [hml]; rfl) (argsL := [(.ref a)]) (rest := []) (lenOf pd__Ljava_util_Collection__Ljava_util_List_ rfl) rfl (by show 2 * 0 + _ ≤ _; exact Nat.le_of_eq rfl) (hb hby d28_1) (fun _ _ => ⟨rfl, e0, (by decide : 0 + 2 ≤ _), (by decide : 0 + 3 ≤ _)⟩)
  dsimp only [Pt.U, Pt.locs, Pt.cells, Pt.slots] at X1 l1 y1 z1 st1 hQ1
  subst l1 y1 z1
  obtain ⟨r_1, rfl, N1q, Kc1, r1_1, r1_2, r1_3⟩ := hQ1
  have N1 := Fr.app N0 N1q
  have sz2 : h0.size ≤ r_1 := Nat.le_trans (Keep.refl h0 []).1 r1_1
  have gn2 : n0 ≤ r_1 := Nat.le_trans Z0 sz2
  have O1 : Old Z n0 T1.heap := O0.keep Kc1 all0
  have K1 : Keep h0 T1.heap [] := (Keep.refl h0 []).trans Kc1 all0
  obtain ⟨fs, hr, hrun, hended, hW, hsame⟩ := X1.leave (v := some (.ref r_1)) (fun h => by rw [Bd.returns] at h; cases h)
  refine ⟨_, _, pre0 _ ?_, hrun, hended, _, _, rfl, ?_, ⟨_, rfl⟩, hW, hsame.mono (by decide) (by decide)⟩
  · refine XS.aloadN X0.here hx rfl (hb hby d28_0) rfl rfl ?_
    show Steps p.tables e below (s₁.setTop (mkF m 1 #[.val (.ref a)] [(.ref a)])) _
    refine st1 _ ?_
    show Steps p.tables e below (T1.setTop (mkF m 4 #[.val (.ref a)] [(.ref r_1)])) _
    jvm_step X1.here [X1.here.top, hx, (hb hby d28_4), X1.method', Bd.returns, Value.isRef, FieldType.isReference]
    first | (intro acts; rw [hr _ acts rfl rfl rfl]) | rw [hr _ _ rfl rfl rfl]
    exact Steps.refl _
  · show QcopyOf1 Z a y0 b kb mr em h0 n0 _ T1.heap _
    exact ⟨r_1, rfl, N1, K1, sz2, r1_2, r1_3⟩
theorem ef_copyC2 (m : MethodId) (x0 : Addr) (x1 : Int32) (x2 : Addr) : entryFrame m #[(.ref x0), (.int x1), (.ref x2)] 4 = mkF m 0 #[.val (.ref x0), .val (.int x1), .val (.ref x2), .unset] [] := by first | (simp [entryFrame, mkF, argsToLocals, Value.category]; done) | rfl
def QcopyC2 (Z : State) (b : Addr) (mr : Addr) (y0 : Addr) (y1 : Addr) (kb : ClassId) (h0 : Heap) (n0 : Nat) (v : Option Value) (h : Heap) (L : List Loc) : Prop := ∃ (r : Addr), ∃ (kr : ClassId), v = some (.ref r) ∧ Fr n0 L ∧ Keep h0 h [] ∧ h0.size ≤ r ∧ Arv Z h r kr (.object "java/lang/Object") (2 : Int32) [(.ref y0), (.ref y1)] .null ∧ (Ovr Z kr "java/lang/Object") ∧ Exa Z h r "[Ljava/lang/Object;"
set_option maxRecDepth 65536 in
set_option maxHeartbeats 40000000 in
theorem rmcopyC2 (l : Launch) (Z : State) (a0 : Array Value) (hw : ∀ d ∈ tables_1, d.before a0 Z = true) (ws : List Jvm.Cond) (b : Addr) (mr : Addr) (y0 : Addr) (y1 : Addr) (kb : ClassId) (h0 : Heap) (n0 : Nat) (O0 : Old Z n0 h0) (hp0 : Arv Z h0 b kb (.object "java/lang/Object") (10 : Int32) [(.ref y0), (.ref y1), .null, .null, .null, .null, .null, .null, .null, .null] .null) (mro : (own_Mr Z "[Ljava/lang/Object;" mr)) (hp2 : Ins Z h0 y0 "java/lang/Object" true) (hp3 : Ins Z h0 y1 "java/lang/Object" true) :
    MetFree l mN31 (head1 (Jvm.Cond.code mN31 jdk_65_method_120_code 4 (some (.array (.object "java/lang/Object"))) :: ws) ({ frames := 1, cells := 1, slots := 2, locals := 51 } : Room)) (fun as_ U => as_ = #[(.ref b), (.int (2 : Int32)), (.ref mr)] ∧ Z.Warmed39 U.vm ∧ U.heap = h0) (fun _ _ _ _ _ => True) (fun _ U o U' => ∃ v L, o = .returned v ∧ QcopyC2 Z b mr y0 y1 kb h0 n0 v U'.heap L ∧ FrameEnd U o U' L ({ frames := 1, cells := 1, slots := 2, locals := 51 } : Room).cells ({ frames := 1, cells := 1, slots := 2, locals := 51 } : Room).slots) := by
  refine MetFree.of_bodySF (plainFor_of_name pn_java_util_Arrays) hisR ?_
  intro p e s m args below meth c s₁ Bd hml0 hP hK
  obtain ⟨rfl, hZ, hh⟩ := hP
  have hx := Bd.exec
  have hby := Bd.bytes
  have hml : c.maxLocals = 4 := hml0
  have hown : s.vm.findClass "java/util/Arrays" = some m.cls := findClass_of_methodNamed Bd.named
  have hnm := (name_of_methodNamed Bd.named Bd.method).1
  have X0 : Stand p l e ({ frames := 1, cells := 1, slots := 2, locals := 51 } : Room) s m #[(.ref b), (.int (2 : Int32)), (.ref mr)] below meth c s₁ [] 0 0 := Stand.of_body Bd
  have e0 : s₁.heap = h0 := by rw [← hh, Bd.state]; rfl
  have N0 := Fr.nil n0
  have Z0 := own_z0 O0
  have pre0 : ∀ tg_, Steps p.tables e below (s₁.setTop (mkF m 0 #[.val (.ref b), .val (.int (2 : Int32)), .val (.ref mr), .unset] [])) tg_ → Steps p.tables e below (s₁.setTop (entryFrame m #[(.ref b), (.int (2 : Int32)), (.ref mr)] 4)) tg_ := fun tg_ kt_ => castTop (ef_copyC2 m b (2 : Int32) mr) kt_
  obtain ⟨T1, X1, e1, st1⟩ := own_ldcM X0 hx hZ hown (hw _ w_241) e0 mro (g := (mkF m 1 #[.val (.ref b), .val (.int (2 : Int32)), .val (.ref mr), .unset] [(.ref mr)])) rfl (hb hby d33_1)
  obtain ⟨T2, h2, k2, X2, e2, E2, A2, Ex2, Ov2, st2⟩ := newRE X1 hx hZ hown (hw _ w_242) (hw _ w_107) e1 (g := (mkF m 7 #[.val (.ref b), .val (.int (2 : Int32)), .val (.ref mr), .unset] [(.int (2 : Int32))])) rfl (hb hby d33_7) rfl (by decide) (cap := 2) (by decide) (by decide) (by decide) (by decide) (ad := "[Ljava/lang/Object;") (by decide)
  obtain ⟨b2, g2⟩ : ∃ z, z = h0.size := ⟨_, rfl⟩
  rw [← g2] at A2 Ex2 st2
  have sz2 : h0.size ≤ b2 := Nat.le_trans (Keep.refl h0 []).1 (Nat.le_of_eq g2.symm)
  have gn2 : n0 ≤ b2 := Nat.le_trans Z0 sz2
  have O2 : Old Z n0 h2 := O0.ext E2
  have K2 : Keep h0 h2 [] := (Keep.refl h0 []).ext E2
  have V2 : Arv Z h2 b2 k2 (.object "java/lang/Object") (2 : Int32) [.null, .null] .null := (Arv.new A2 (by decide)).pad (pad_rep [] .null 2)
  obtain ⟨cl4, Ar4, -, S4, Ng4, -, -⟩ := id (hp0.ext E2)
  obtain ⟨_, _, ⟨T5, L5, k5, n5⟩, -, X5, ⟨Lc5, hQ5, l5, y5, z5⟩, st5⟩ := Jvm.LawKit.callS X2 hx (y := mN23) hown (mvT hZ (hw _ w_243)) (mvT hZ (hw _ w_244)) (mvT hZ (hw _ w_104)) (mvT hZ (hw _ w_245)) (by decide) (backOf (W := 4) (rmminG l Z a0 hw [] (10 : Int32) (2 : Int32) h2 n0 O2 (by decide)) hZ (hw _ w_245) (hw _ w_104) (by decide) (by decide)) (g := (mkF m 32 #[.val (.ref b), .val (.int (2 : Int32)), .val (.ref mr), .val (.ref b2)] [(.int (2 : Int32)), (.int (10 : Int32)), (.int (0 : Int32)), (.ref b2), (.int (0 : Int32)), (.ref b)])) rfl (by rw [hml]; rfl) (argsL := [(.int (10 : Int32)), (.int (2 : Int32))]) (rest := [(.int (0 : Int32)), (.ref b2), (.int (0 : Int32)), (.ref b)]) (lenOf pd__II_I rfl) rfl (by show 2 * 0 + _ ≤ _; exact Nat.le_of_eq rfl) (hb hby d33_32) (fun _ _ => ⟨rfl, e2, (by decide : 1 + 0 ≤ _), (by decide : 2 + 0 ≤ _)⟩)
  dsimp only [Pt.U, Pt.locs, Pt.cells, Pt.slots] at X5 l5 y5 z5 st5 hQ5
  subst l5 y5 z5
  obtain ⟨rfl, N5q, eh5⟩ := hQ5
  have N5 := Fr.app N0 N5q
  obtain ⟨cc6, Ac6, qc6, -⟩ := id V2
  obtain ⟨T6, h6, L6, X6, e6, N6, Kc6, V6, st6⟩ := cpA X5 hx hZ hown (hw _ w_246) (hw _ w_249) (hw _ w_247) (hw _ w_248) eh5 (hp0.ext E2) V2 (us := [(.ref y0), (.ref y1)]) (Or.inr ⟨rfl, rfl, ⟨Sto.of Ac6 (by rw [qc6]; exact Ov2) (hp2.ext E2), ⟨Sto.of Ac6 (by rw [qc6]; exact Ov2) (hp3.ext E2), trivial⟩⟩⟩) (by decide) (by decide) (by decide) (by decide) (by decide) rfl (by decide) N5 gn2 (g := (mkF m 35 #[.val (.ref b), .val (.int (2 : Int32)), .val (.ref mr), .val (.ref b2)] [(.int (2 : Int32)), (.int (0 : Int32)), (.ref b2), (.int (0 : Int32)), (.ref b)])) rfl (by rw [hml]; rfl) rfl (hb hby d33_35) (by decide) (W := 0) (by show 2 * 0 + _ ≤ _; exact Nat.le_of_eq rfl) (by decide)
  have O6 : Old Z n0 h6 := O2.keep Kc6 (allS gn2 all0)
  have K6 : Keep h0 h6 [] := K2.trans Kc6 (allS (Or.inr sz2) all0)
  have Vc6 : Arv Z h6 b2 k2 (.object "java/lang/Object") (2 : Int32) [(.ref y0), (.ref y1)] .null := V6
  obtain ⟨fs, hr, hrun, hended, hW, hsame⟩ := X6.leave (v := some (.ref b2)) (fun h => by rw [Bd.returns] at h; cases h)
  refine ⟨_, _, pre0 _ ?_, hrun, hended, _, _, rfl, ?_, ⟨_, rfl⟩, hW, hsame.mono (by decide) (by decide)⟩
  · refine XS.aloadN X0.here hx rfl (hb hby d33_0) rfl rfl ?_
    show Steps p.tables e below (s₁.setTop (mkF m 1 #[.val (.ref b), .val (.int (2 : Int32)), .val (.ref mr), .unset] [(.ref mr)])) _
    refine st1 _ ?_
    show Steps p.tables e below (T1.setTop (mkF m 3 #[.val (.ref b), .val (.int (2 : Int32)), .val (.ref mr), .unset] [(.ref mr), (.ref mr)])) _
    refine Jvm.RoadKit.acmp (g := (mkF m 3 #[.val (.ref b), .val (.int (2 : Int32)), .val (.ref mr), .unset] [(.ref mr), (.ref mr)])) X1 hx rfl rfl rfl (pc0 := 3) (pc' := 6) (same := true) rfl (hb hby d33_3) rfl (decide_eq_true rfl) (by decide) (by decide) ?_
    refine XS.iloadN X1.here hx rfl (hb hby d33_6) rfl ?_
    show Steps p.tables e below (T1.setTop (mkF m 7 #[.val (.ref b), .val (.int (2 : Int32)), .val (.ref mr), .unset] [(.int (2 : Int32))])) _
    refine st2 _ ?_
    refine XS.goto X2.here hx rfl (pc0 := 10) (pc' := 24) rfl (hb hby d33_10) (by decide) (by decide) ?_
    refine XS.astoreN X2.here hx rfl (hb hby d33_24) rfl rfl (l' := #[.val (.ref b), .val (.int (2 : Int32)), .val (.ref mr), .val (.ref b2)]) rfl ?_
    refine XS.aloadN X2.here hx rfl (hb hby d33_25) rfl rfl ?_
    show Steps p.tables e below (T2.setTop (mkF m 26 #[.val (.ref b), .val (.int (2 : Int32)), .val (.ref mr), .val (.ref b2)] [(.ref b)])) _
    refine XS.iconst X2.here hx rfl (hb hby d33_26) ?_
    refine XS.aloadN X2.here hx rfl (hb hby d33_27) rfl rfl ?_
    refine XS.iconst X2.here hx rfl (hb hby d33_28) ?_
    refine XS.aloadN X2.here hx rfl (hb hby d33_29) rfl rfl ?_
    show Steps p.tables e below (T2.setTop (mkF m 30 #[.val (.ref b), .val (.int (2 : Int32)), .val (.ref mr), .val (.ref b2)] [(.ref b), (.int (0 : Int32)), (.ref b2), (.int (0 : Int32)), (.ref b)])) _
    refine X2.arraylength hx (by rw [e2]; exact Ar4.1) (State.isArrayOf_alike hZ.alike Ar4.2.1) (g := (mkF m 30 #[.val (.ref b), .val (.int (2 : Int32)), .val (.ref mr), .val (.ref b2)] [(.ref b), (.int (0 : Int32)), (.ref b2), (.int (0 : Int32)), (.ref b)])) rfl rfl (hb hby d33_30) _ ?_
    rw [len_of S4 Ng4]
    refine XS.iloadN X2.here hx rfl (hb hby d33_31) rfl ?_
    show Steps p.tables e below (T2.setTop (mkF m 32 #[.val (.ref b), .val (.int (2 : Int32)), .val (.ref mr), .val (.ref b2)] [(.int (2 : Int32)), (.int (10 : Int32)), (.int (0 : Int32)), (.ref b2), (.int (0 : Int32)), (.ref b)])) _
    refine st5 _ ?_
    show Steps p.tables e below (T5.setTop (mkF m 35 #[.val (.ref b), .val (.int (2 : Int32)), .val (.ref mr), .val (.ref b2)] [(.int (2 : Int32)), (.int (0 : Int32)), (.ref b2), (.int (0 : Int32)), (.ref b)])) _
    refine st6 _ ?_
    refine XS.aloadN X6.here hx rfl (hb hby d33_38) rfl rfl ?_
    show Steps p.tables e below (T6.setTop (mkF m 39 #[.val (.ref b), .val (.int (2 : Int32)), .val (.ref mr), .val (.ref b2)] [(.ref b2)])) _
    jvm_step X6.here [X6.here.top, hx, (hb hby d33_39), X6.method', Bd.returns, Value.isRef, FieldType.isReference]
    first | (intro acts; rw [hr _ acts rfl rfl rfl]) | rw [hr _ _ rfl rfl rfl]
    exact Steps.refl _
  · show QcopyC2 Z b mr y0 y1 kb h0 n0 _ T6.heap _
    rw [e6]
    exact ⟨b2, k2, rfl, N6, K6, sz2, Vc6, Ov2, (Ex2.keep Kc6)⟩
theorem ef_copy2 (m : MethodId) (x0 : Addr) (x1 : Int32) : entryFrame m #[(.ref x0), (.int x1)] 2 = mkF m 0 #[.val (.ref x0), .val (.int x1)] [] := by first | (simp [entryFrame, mkF, argsToLocals, Value.category]; done) | rfl
def Qcopy2 (Z : State) (b : Addr) (y0 : Addr) (y1 : Addr) (kb : ClassId) (mr : Addr) (h0 : Heap) (n0 : Nat) (v : Option Value) (h : Heap) (L : List Loc) : Prop := ∃ (r : Addr), ∃ (kr : ClassId), v = some (.ref r) ∧ Fr n0 L ∧ Keep h0 h [] ∧ h0.size ≤ r ∧ Arv Z h r kr (.object "java/lang/Object") (2 : Int32) [(.ref y0), (.ref y1)] .null ∧ (Ovr Z kr "java/lang/Object") ∧ Exa Z h r "[Ljava/lang/Object;"
set_option maxRecDepth 65536 in
set_option maxHeartbeats 40000000 in
theorem rmcopy2 (l : Launch) (Z : State) (a0 : Array Value) (hw : ∀ d ∈ tables_1, d.before a0 Z = true) (ws : List Jvm.Cond) (b : Addr) (y0 : Addr) (y1 : Addr) (kb : ClassId) (mr : Addr) (h0 : Heap) (n0 : Nat) (O0 : Old Z n0 h0) (hp0 : Arv Z h0 b kb (.object "java/lang/Object") (10 : Int32) [(.ref y0), (.ref y1), .null, .null, .null, .null, .null, .null, .null, .null] .null) (mro : (own_Mr Z "[Ljava/lang/Object;" mr)) (hp2 : Exa Z h0 b "[Ljava/lang/Object;") (hp3 : Ins Z h0 y0 "java/lang/Object" true) (hp4 : Ins Z h0 y1 "java/lang/Object" true) :
    MetFree l mN32 (head1 (Jvm.Cond.code mN32 jdk_65_method_119_code 2 (some (.array (.object "java/lang/Object"))) :: ws) ({ frames := 2, cells := 1, slots := 2, locals := 66 } : Room)) (fun as_ U => as_ = #[(.ref b), (.int (2 : Int32))] ∧ Z.Warmed39 U.vm ∧ U.heap = h0) (fun _ _ _ _ _ => True) (fun _ U o U' => ∃ v L, o = .returned v ∧ Qcopy2 Z b y0 y1 kb mr h0 n0 v U'.heap L ∧ FrameEnd U o U' L ({ frames := 2, cells := 1, slots := 2, locals := 66 } : Room).cells ({ frames := 2, cells := 1, slots := 2, locals := 66 } : Room).slots) := by
  refine MetFree.of_bodySF (plainFor_of_name pn_java_util_Arrays) hisR ?_
  intro p e s m args below meth c s₁ Bd hml0 hP hK
  obtain ⟨rfl, hZ, hh⟩ := hP
  have hx := Bd.exec
  have hby := Bd.bytes
  have hml : c.maxLocals = 2 := hml0
  have hown : s.vm.findClass "java/util/Arrays" = some m.cls := findClass_of_methodNamed Bd.named
  have hnm := (name_of_methodNamed Bd.named Bd.method).1
  have X0 : Stand p l e ({ frames := 2, cells := 1, slots := 2, locals := 66 } : Room) s m #[(.ref b), (.int (2 : Int32))] below meth c s₁ [] 0 0 := Stand.of_body Bd
  have e0 : s₁.heap = h0 := by rw [← hh, Bd.state]; rfl
  have N0 := Fr.nil n0
  have Z0 := own_z0 O0
  have pre0 : ∀ tg_, Steps p.tables e below (s₁.setTop (mkF m 0 #[.val (.ref b), .val (.int (2 : Int32))] [])) tg_ → Steps p.tables e below (s₁.setTop (entryFrame m #[(.ref b), (.int (2 : Int32))] 2)) tg_ := fun tg_ kt_ => castTop (ef_copy2 m b (2 : Int32)) kt_
  obtain ⟨T1, X1, e1, st1⟩ := own_gcls X0 hx hZ hown (hw _ w_232) (hw _ w_233) (hw _ w_209) (hw _ w_235) (hw _ w_234) (hw _ w_236) e0 hp2 mro (g := (mkF m 3 #[.val (.ref b), .val (.int (2 : Int32))] [(.ref b), (.int (2 : Int32)), (.ref b)])) rfl (by rw [hml]; rfl) rfl (hb hby d32_3) (by decide) (W := 2) (by show 2 * 0 + _ ≤ _; exact Nat.le_of_eq rfl) (by decide)
  obtain ⟨_, _, ⟨T2, L2, k2, n2⟩, -, X2, ⟨Lc2, hQ2, l2, y2, z2⟩, st2⟩ := Jvm.LawKit.callS X1 hx (y := mN31) hown (mvT hZ (hw _ w_238)) (mvT hZ (hw _ w_239)) (mvT hZ (hw _ w_230)) (mvT hZ (hw _ w_240)) (by decide) (backOf (W := 0) (rmcopyC2 l Z a0 hw [] b mr y0 y1 kb h0 n0 O0 hp0 mro hp3 hp4) hZ (hw _ w_240) (hw _ w_230) (by decide) (by decide)) (g := (mkF m 6 #[.val (.ref b), .val (.int (2 : Int32))] [(.ref mr), (.int (2 : Int32)), (.ref b)])) rfl (by rw [hml]; rfl) (argsL := [(.ref b), (.int (2 : Int32)), (.ref mr)]) (rest := []) (lenOf pd__ALjava_lang_Object_ILjava_lang_Class__ALjava_lang_Object_ rfl) rfl (by show 2 * 0 + _ ≤ _; exact Nat.le_of_eq rfl) (hb hby d32_6) (fun _ _ => ⟨rfl, e1, (by decide : 0 + 1 ≤ _), (by decide : 0 + 2 ≤ _)⟩)
  dsimp only [Pt.U, Pt.locs, Pt.cells, Pt.slots] at X2 l2 y2 z2 st2 hQ2
  subst l2 y2 z2
  obtain ⟨r_2, kr_2, rfl, N2q, Kc2, r2_1, r2_2, r2_3, r2_4⟩ := hQ2
  have N2 := Fr.app N0 N2q
  have sz3 : h0.size ≤ r_2 := Nat.le_trans (Keep.refl h0 []).1 r2_1
  have gn3 : n0 ≤ r_2 := Nat.le_trans Z0 sz3
  have O2 : Old Z n0 T2.heap := O0.keep Kc2 all0
  have K2 : Keep h0 T2.heap [] := (Keep.refl h0 []).trans Kc2 all0
  obtain ⟨fs, hr, hrun, hended, hW, hsame⟩ := X2.leave (v := some (.ref r_2)) (fun h => by rw [Bd.returns] at h; cases h)
  refine ⟨_, _, pre0 _ ?_, hrun, hended, _, _, rfl, ?_, ⟨_, rfl⟩, hW, hsame.mono (by decide) (by decide)⟩
  · refine XS.aloadN X0.here hx rfl (hb hby d32_0) rfl rfl ?_
    refine XS.iloadN X0.here hx rfl (hb hby d32_1) rfl ?_
    refine XS.aloadN X0.here hx rfl (hb hby d32_2) rfl rfl ?_
    show Steps p.tables e below (s₁.setTop (mkF m 3 #[.val (.ref b), .val (.int (2 : Int32))] [(.ref b), (.int (2 : Int32)), (.ref b)])) _
    refine st1 _ ?_
    show Steps p.tables e below (T1.setTop (mkF m 6 #[.val (.ref b), .val (.int (2 : Int32))] [(.ref mr), (.int (2 : Int32)), (.ref b)])) _
    refine st2 _ ?_
    show Steps p.tables e below (T2.setTop (mkF m 9 #[.val (.ref b), .val (.int (2 : Int32))] [(.ref r_2)])) _
    jvm_step X2.here [X2.here.top, hx, (hb hby d32_9), X2.method', Bd.returns, Value.isRef, FieldType.isReference]
    first | (intro acts; rw [hr _ acts rfl rfl rfl]) | rw [hr _ _ rfl rfl rfl]
    exact Steps.refl _
  · show Qcopy2 Z b y0 y1 kb mr h0 n0 _ T2.heap _
    exact ⟨r_2, kr_2, rfl, N2, K2, sz3, r2_2, r2_3, r2_4⟩
theorem ef_toArr2 (m : MethodId) (x0 : Addr) : entryFrame m #[(.ref x0)] 1 = mkF m 0 #[.val (.ref x0)] [] := by first | (simp [entryFrame, mkF, argsToLocals, Value.category]; done) | rfl
def QtoArr2 (Z : State) (a : Addr) (y0 : Addr) (y1 : Addr) (b : Addr) (kb : ClassId) (mr : Addr) (h0 : Heap) (n0 : Nat) (v : Option Value) (h : Heap) (L : List Loc) : Prop := ∃ (r : Addr), ∃ (kr : ClassId), v = some (.ref r) ∧ Fr n0 L ∧ Keep h0 h [] ∧ h0.size ≤ r ∧ Arv Z h r kr (.object "java/lang/Object") (2 : Int32) [(.ref y0), (.ref y1)] .null ∧ (Ovr Z kr "java/lang/Object") ∧ Exa Z h r "[Ljava/lang/Object;"
set_option maxRecDepth 65536 in
set_option maxHeartbeats 40000000 in
theorem rmtoArr2 (l : Launch) (Z : State) (a0 : Array Value) (hw : ∀ d ∈ tables_1, d.before a0 Z = true) (ws : List Jvm.Cond) (a : Addr) (y0 : Addr) (y1 : Addr) (b : Addr) (kb : ClassId) (mr : Addr) (h0 : Heap) (n0 : Nat) (O0 : Old Z n0 h0) (hp0 : Exa Z h0 a "java/util/ArrayList") (hp1 : Fld Z h0 a "java/util/ArrayList" "elementData" "[Ljava/lang/Object;" (.ref b)) (hp2 : Fld Z h0 a "java/util/ArrayList" "size" "I" (.int (2 : Int32))) (hp3 : Arv Z h0 b kb (.object "java/lang/Object") (10 : Int32) [(.ref y0), (.ref y1), .null, .null, .null, .null, .null, .null, .null, .null] .null) (mro : (own_Mr Z "[Ljava/lang/Object;" mr)) (hp5 : Exa Z h0 b "[Ljava/lang/Object;") (hp6 : Ins Z h0 y0 "java/lang/Object" true) (hp7 : Ins Z h0 y1 "java/lang/Object" true) :
    MetFree l mN33 (head1 (Jvm.Cond.code mN33 jdk_38_method_16_code 1 (some (.array (.object "java/lang/Object"))) :: ws) ({ frames := 3, cells := 1, slots := 2, locals := 79 } : Room)) (fun as_ U => as_ = #[(.ref a)] ∧ Z.Warmed39 U.vm ∧ U.heap = h0) (fun _ _ _ _ _ => True) (fun _ U o U' => ∃ v L, o = .returned v ∧ QtoArr2 Z a y0 y1 b kb mr h0 n0 v U'.heap L ∧ FrameEnd U o U' L ({ frames := 3, cells := 1, slots := 2, locals := 79 } : Room).cells ({ frames := 3, cells := 1, slots := 2, locals := 79 } : Room).slots) := by
  refine MetFree.of_bodySF (plainFor_of_name pn_java_util_ArrayList) hisR ?_
  intro p e s m args below meth c s₁ Bd hml0 hP hK
  obtain ⟨rfl, hZ, hh⟩ := hP
  have hx := Bd.exec
  have hby := Bd.bytes
  have hml : c.maxLocals = 1 := hml0
  have hown : s.vm.findClass "java/util/ArrayList" = some m.cls := findClass_of_methodNamed Bd.named
  have hnm := (name_of_methodNamed Bd.named Bd.method).1
  have X0 : Stand p l e ({ frames := 3, cells := 1, slots := 2, locals := 79 } : Room) s m #[(.ref a)] below meth c s₁ [] 0 0 := Stand.of_body Bd
  have e0 : s₁.heap = h0 := by rw [← hh, Bd.state]; rfl
  have N0 := Fr.nil n0
  have Z0 := own_z0 O0
  have pre0 : ∀ tg_, Steps p.tables e below (s₁.setTop (mkF m 0 #[.val (.ref a)] [])) tg_ → Steps p.tables e below (s₁.setTop (entryFrame m #[(.ref a)] 1)) tg_ := fun tg_ kt_ => castTop (ef_toArr2 m a) kt_
  obtain ⟨T1, X1, e1, st1⟩ := getF X0 hx hZ hown (host := "") (Or.inl (hw _ w_76)) Via.refl e0 hp1 (g := (mkF m 1 #[.val (.ref a)] [(.ref a)])) rfl rfl (hb hby d31_1)
  obtain ⟨T2, X2, e2, st2⟩ := getF X1 hx hZ hown (host := "") (Or.inl (hw _ w_85)) Via.refl e1 hp2 (g := (mkF m 5 #[.val (.ref a)] [(.ref a), (.ref b)])) rfl rfl (hb hby d31_5)
  obtain ⟨_, _, ⟨T3, L3, k3, n3⟩, -, X3, ⟨Lc3, hQ3, l3, y3, z3⟩, st3⟩ := Jvm.LawKit.callS X2 hx (y := mN32) hown (mvT hZ (hw _ w_228)) (mvT hZ (hw _ w_229)) (mvT hZ (hw _ w_230)) (mvT hZ (hw _ w_231)) (by decide) (backOf (W := 0) (rmcopy2 l Z a0 hw [] b y0 y1 kb mr h0 n0 O0 hp3 mro hp5 hp6 hp7) hZ (hw _ w_231) (hw _ w_230) (by decide) (by decide)) (g := (mkF m 8 #[.val (.ref a)] [(.int (2 : Int32)), (.ref b)])) rfl (by rw [hml]; rfl) (argsL := [(.ref b), (.int (2 : Int32))]) (rest := []) (lenOf pd__ALjava_lang_Object_I_ALjava_lang_Object_ rfl) rfl (by show 2 * 0 + _ ≤ _; exact Nat.le_of_eq rfl) (hb hby d31_8) (fun _ _ => ⟨rfl, e2, (by decide : 0 + 1 ≤ _), (by decide : 0 + 2 ≤ _)⟩)
  dsimp only [Pt.U, Pt.locs, Pt.cells, Pt.slots] at X3 l3 y3 z3 st3 hQ3
  subst l3 y3 z3
  obtain ⟨r_3, kr_3, rfl, N3q, Kc3, r3_1, r3_2, r3_3, r3_4⟩ := hQ3
  have N3 := Fr.app N0 N3q
  have sz4 : h0.size ≤ r_3 := Nat.le_trans (Keep.refl h0 []).1 r3_1
  have gn4 : n0 ≤ r_3 := Nat.le_trans Z0 sz4
  have O3 : Old Z n0 T3.heap := O0.keep Kc3 all0
  have K3 : Keep h0 T3.heap [] := (Keep.refl h0 []).trans Kc3 all0
  obtain ⟨fs, hr, hrun, hended, hW, hsame⟩ := X3.leave (v := some (.ref r_3)) (fun h => by rw [Bd.returns] at h; cases h)
  refine ⟨_, _, pre0 _ ?_, hrun, hended, _, _, rfl, ?_, ⟨_, rfl⟩, hW, hsame.mono (by decide) (by decide)⟩
  · refine XS.aloadN X0.here hx rfl (hb hby d31_0) rfl rfl ?_
    show Steps p.tables e below (s₁.setTop (mkF m 1 #[.val (.ref a)] [(.ref a)])) _
    refine st1 _ ?_
    refine XS.aloadN X1.here hx rfl (hb hby d31_4) rfl rfl ?_
    show Steps p.tables e below (T1.setTop (mkF m 5 #[.val (.ref a)] [(.ref a), (.ref b)])) _
    refine st2 _ ?_
    show Steps p.tables e below (T2.setTop (mkF m 8 #[.val (.ref a)] [(.int (2 : Int32)), (.ref b)])) _
    refine st3 _ ?_
    show Steps p.tables e below (T3.setTop (mkF m 11 #[.val (.ref a)] [(.ref r_3)])) _
    jvm_step X3.here [X3.here.top, hx, (hb hby d31_11), X3.method', Bd.returns, Value.isRef, FieldType.isReference]
    first | (intro acts; rw [hr _ acts rfl rfl rfl]) | rw [hr _ _ rfl rfl rfl]
    exact Steps.refl _
  · show QtoArr2 Z a y0 y1 b kb mr h0 n0 _ T3.heap _
    exact ⟨r_3, kr_3, rfl, N3, K3, sz4, r3_2, r3_3, r3_4⟩
theorem d35_45 : decode jdk_40_method_47_code 45 = .ok (.new 96, 3) := by decide +kernel
theorem d35_48 : decode jdk_40_method_47_code 48 = .ok (.dup, 1) := by decide +kernel
theorem d35_49 : decode jdk_40_method_47_code 49 = .ok (.aload_n 0, 1) := by decide +kernel
theorem d35_50 : decode jdk_40_method_47_code 50 = .ok (.iconst 0, 1) := by decide +kernel
theorem d35_51 : decode jdk_40_method_47_code 51 = .ok (.aaload, 1) := by decide +kernel
theorem d35_52 : decode jdk_40_method_47_code 52 = .ok (.aload_n 0, 1) := by decide +kernel
theorem d35_53 : decode jdk_40_method_47_code 53 = .ok (.iconst 1, 1) := by decide +kernel
theorem d35_54 : decode jdk_40_method_47_code 54 = .ok (.aaload, 1) := by decide +kernel
theorem w_256 : (Jvm.Cond.methodLink "java/util/List" (100 : Nat) ({ cls := "java/util/ImmutableCollections$List12", name := "<init>", desc := "(Ljava/lang/Object;Ljava/lang/Object;)V" } : Jvm.MethodName)) ∈ tables_1 := List.mem_of_getElem? (i := 256) (by decide +kernel)
theorem w_259 : (Jvm.Cond.code ({ cls := "java/util/ImmutableCollections$List12", name := "<init>", desc := "(Ljava/lang/Object;Ljava/lang/Object;)V" } : Jvm.MethodName) jdk_44_method_2_code (3 : Nat) (Option.none : Option Jvm.ClassFile.FieldType)) ∈ tables_1 := List.mem_of_getElem? (i := 259) (by decide +kernel)
theorem pd__Ljava_lang_Object_Ljava_lang_Object__V : parseMethodDescriptor "(Ljava/lang/Object;Ljava/lang/Object;)V" = some ⟨[(.object "java/lang/Object"), (.object "java/lang/Object")], none⟩ := by decide +kernel
theorem d35_55 : decode jdk_40_method_47_code 55 = .ok (.invokespecial 100, 3) := by decide +kernel
theorem w_257 : (Jvm.Cond.instanceMethod ({ cls := "java/util/ImmutableCollections$List12", name := "<init>", desc := "(Ljava/lang/Object;Ljava/lang/Object;)V" } : Jvm.MethodName)) ∈ tables_1 := List.mem_of_getElem? (i := 257) (by decide +kernel)
theorem d35_58 : decode jdk_40_method_47_code 58 = .ok (.areturn, 1) := by decide +kernel
theorem ef_listOf2 (m : MethodId) (x0 : Addr) : entryFrame m #[(.ref x0)] 2 = mkF m 0 #[.val (.ref x0), .unset] [] := by first | (simp [entryFrame, mkF, argsToLocals, Value.category]; done) | rfl
def QlistOf2 (Z : State) (sa : Addr) (y0 : Addr) (y1 : Addr) (ks : ClassId) (h0 : Heap) (n0 : Nat) (v : Option Value) (h : Heap) (L : List Loc) : Prop := ∃ (r : Addr), v = some (.ref r) ∧ Fr n0 L ∧ Keep h0 h [] ∧ h0.size ≤ r ∧ Exa Z h r "java/util/ImmutableCollections$List12" ∧ Fld Z h r "java/util/ImmutableCollections$List12" "e0" "Ljava/lang/Object;" (.ref y0)
set_option maxRecDepth 65536 in
set_option maxHeartbeats 40000000 in
theorem rmlistOf2 (l : Launch) (Z : State) (a0 : Array Value) (hw : ∀ d ∈ tables_1, d.before a0 Z = true) (ws : List Jvm.Cond) (sa : Addr) (y0 : Addr) (y1 : Addr) (ks : ClassId) (h0 : Heap) (n0 : Nat) (O0 : Old Z n0 h0) (hp0 : Arv Z h0 sa ks (.object "java/lang/Object") (2 : Int32) [(.ref y0), (.ref y1)] .null) (hp1 : Ins Z h0 y0 "java/lang/Object" true) (hp2 : Ins Z h0 y1 "java/lang/Object" true) :
    MetFree l mN34 (head1 (Jvm.Cond.code mN34 jdk_40_method_47_code 2 (some (.object "java/util/List")) :: ws) ({ frames := 5, cells := 1, slots := 2, locals := 63 } : Room)) (fun as_ U => as_ = #[(.ref sa)] ∧ Z.Warmed39 U.vm ∧ U.heap = h0) (fun _ _ _ _ _ => True) (fun _ U o U' => ∃ v L, o = .returned v ∧ QlistOf2 Z sa y0 y1 ks h0 n0 v U'.heap L ∧ FrameEnd U o U' L ({ frames := 5, cells := 1, slots := 2, locals := 63 } : Room).cells ({ frames := 5, cells := 1, slots := 2, locals := 63 } : Room).slots) := by
  refine MetFree.of_bodySF (plainFor_of_name pn_java_util_List) hisR ?_
  intro p e s m args below meth c s₁ Bd hml0 hP hK
  obtain ⟨rfl, hZ, hh⟩ := hP
  have hx := Bd.exec
  have hby := Bd.bytes
  have hml : c.maxLocals = 2 := hml0
  have hown : s.vm.findClass "java/util/List" = some m.cls := findClass_of_methodNamed Bd.named
  have hnm := (name_of_methodNamed Bd.named Bd.method).1
  have X0 : Stand p l e ({ frames := 5, cells := 1, slots := 2, locals := 63 } : Room) s m #[(.ref sa)] below meth c s₁ [] 0 0 := Stand.of_body Bd
  have e0 : s₁.heap = h0 := by rw [← hh, Bd.state]; rfl
  have N0 := Fr.nil n0
  have Z0 := own_z0 O0
  have pre0 : ∀ tg_, Steps p.tables e below (s₁.setTop (mkF m 0 #[.val (.ref sa), .unset] [])) tg_ → Steps p.tables e below (s₁.setTop (entryFrame m #[(.ref sa)] 2)) tg_ := fun tg_ kt_ => castTop (ef_listOf2 m sa) kt_
  obtain ⟨cl1, Ar1, -, S1, Ng1, -, -⟩ := id hp0
  obtain ⟨T2, h2, X2, e2, E2, A2, D2, U2, st2⟩ := newO X0 hx hZ hown (hw _ w_253) (hw _ w_254) (hw _ w_255) e0 (g := (mkF m 45 #[.val (.ref sa), .unset] [])) rfl (hb hby d35_45) (by decide) (by decide)
  obtain ⟨b2, g2⟩ : ∃ z, z = h0.size := ⟨_, rfl⟩
  rw [← g2] at A2 D2 U2 st2
  have Un2 : Unt h2 b2 := U2
  have sz2 : h0.size ≤ b2 := Nat.le_trans (Keep.refl h0 []).1 (Nat.le_of_eq g2.symm)
  have gn2 : n0 ≤ b2 := Nat.le_trans Z0 sz2
  have O2 : Old Z n0 h2 := O0.ext E2
  have K2 : Keep h0 h2 [] := (Keep.refl h0 []).ext E2
  have F2_278 : Fld Z h2 b2 "java/util/ImmutableCollections$List12" "e0" "Ljava/lang/Object;" .null := D2 (Or.inr (hw _ w_278)) (ty := (.object "java/lang/Object")) (by decide)
  have F2_280 : Fld Z h2 b2 "java/util/ImmutableCollections$List12" "e1" "Ljava/lang/Object;" .null := D2 (Or.inr (hw _ w_280)) (ty := (.object "java/lang/Object")) (by decide)
  obtain ⟨cl4, Ar4, -, S4, Ng4, H4, G4⟩ := id (hp0.ext E2)
  have hin4 : ¬ ((0 : Int32) < 0 ∨ cl4.slots.size ≤ ((0 : Int32)).toNatClampNeg) := inb_of S4 ⟨by decide, by decide⟩
  have hat4 : cl4.slots[((0 : Int32)).toNatClampNeg]? = some (.ref y0) := H4.at hin4 rfl
  obtain ⟨cl5, Ar5, -, S5, Ng5, H5, G5⟩ := id (hp0.ext E2)
  have hin5 : ¬ ((1 : Int32) < 0 ∨ cl5.slots.size ≤ ((1 : Int32)).toNatClampNeg) := inb_of S5 ⟨by decide, by decide⟩
  have hat5 : cl5.slots[((1 : Int32)).toNatClampNeg]? = some (.ref y1) := H5.at hin5 rfl
  obtain ⟨_, _, ⟨T6, L6, k6, n6⟩, -, X6, ⟨Lc6, hQ6, l6, y6, z6⟩, st6⟩ := X2.specialBack hx (y := mN29) rfl hown (mvT hZ (hw _ w_256)) (mvT hZ (hw _ w_257)) (mvT hZ (hw _ w_259)) (by decide) (backOf (W := 1) (rml12b l Z a0 hw [] b2 y0 y1 .null .null h2 n0 O2 A2 gn2 F2_278 F2_280) hZ (hw _ w_259) (hw _ w_255) (by decide) (by decide)) (g := (mkF m 55 #[.val (.ref sa), .unset] [(.ref y1), (.ref y0), (.ref b2), (.ref b2)])) rfl (by rw [hml]; rfl) (Steps.refl _) (a := b2) (argsL := [(.ref y0), (.ref y1)]) (rest := [(.ref b2)]) (lenOf pd__Ljava_lang_Object_Ljava_lang_Object__V rfl) rfl (by show 2 * 0 + _ ≤ _; exact Nat.le_of_eq rfl) (hb hby d35_55) (fun _ _ => ⟨rfl, e2, (by decide : 1 + 0 ≤ _), (by decide : 2 + 0 ≤ _)⟩)
  dsimp only [Pt.U, Pt.locs, Pt.cells, Pt.slots] at X6 l6 y6 z6 st6 hQ6
  subst l6 y6 z6
  obtain ⟨rfl, N6q, Kc6, r6_1, r6_2⟩ := hQ6
  have N6 := Fr.app N0 N6q
  have O6 : Old Z n0 T6.heap := O2.keep Kc6 (allS gn2 all0)
  have K6 : Keep h0 T6.heap [] := K2.trans Kc6 (allS (Or.inr sz2) all0)
  obtain ⟨fs, hr, hrun, hended, hW, hsame⟩ := X6.leave (v := some (.ref b2)) (fun h => by rw [Bd.returns] at h; cases h)
  refine ⟨_, _, pre0 _ ?_, hrun, hended, _, _, rfl, ?_, ⟨_, rfl⟩, hW, hsame.mono (by decide) (by decide)⟩
  · refine XS.aloadN X0.here hx rfl (hb hby d35_0) rfl rfl ?_
    show Steps p.tables e below (s₁.setTop (mkF m 1 #[.val (.ref sa), .unset] [(.ref sa)])) _
    refine X0.arraylength hx (by rw [e0]; exact Ar1.1) (State.isArrayOf_alike hZ.alike Ar1.2.1) (g := (mkF m 1 #[.val (.ref sa), .unset] [(.ref sa)])) rfl rfl (hb hby d35_1) _ ?_
    rw [len_of S1 Ng1]
    show Steps p.tables e below (s₁.setTop (mkF m 2 #[.val (.ref sa), .unset] [(.int (2 : Int32))])) _
    refine XS.tswIn X0.here hx rfl (pc0 := 2) (pc' := 45) rfl (hb hby d_listof_2) rfl (by decide) (o := 43) rfl (by decide) (by decide) ?_
    show Steps p.tables e below (s₁.setTop (mkF m 45 #[.val (.ref sa), .unset] [])) _
    refine st2 _ ?_
    refine XS.dup X2.here hx rfl (hb hby d35_48) rfl rfl ?_
    refine XS.aloadN X2.here hx rfl (hb hby d35_49) rfl rfl ?_
    refine XS.iconst X2.here hx rfl (hb hby d35_50) ?_
    show Steps p.tables e below (T2.setTop (mkF m 51 #[.val (.ref sa), .unset] [(.int (0 : Int32)), (.ref sa), (.ref b2), (.ref b2)])) _
    refine X2.aaload hx (j := (0 : Int32)) (v := (.ref y0)) (by rw [e2]; exact Ar4.1) (State.isArrayOf_alike hZ.alike Ar4.2.1) rfl Ar4.2.2 hin4 hat4 (g := (mkF m 51 #[.val (.ref sa), .unset] [(.int (0 : Int32)), (.ref sa), (.ref b2), (.ref b2)])) rfl rfl (hb hby d35_51) _ ?_
    refine XS.aloadN X2.here hx rfl (hb hby d35_52) rfl rfl ?_
    refine XS.iconst X2.here hx rfl (hb hby d35_53) ?_
    refine X2.aaload hx (j := (1 : Int32)) (v := (.ref y1)) (by rw [e2]; exact Ar5.1) (State.isArrayOf_alike hZ.alike Ar5.2.1) rfl Ar5.2.2 hin5 hat5 (g := (mkF m 54 #[.val (.ref sa), .unset] [(.int (1 : Int32)), (.ref sa), (.ref y0), (.ref b2), (.ref b2)])) rfl rfl (hb hby d35_54) _ ?_
    show Steps p.tables e below (T2.setTop (mkF m 55 #[.val (.ref sa), .unset] [(.ref y1), (.ref y0), (.ref b2), (.ref b2)])) _
    refine st6.trans ?_
    show Steps p.tables e below (T6.setTop (mkF m 58 #[.val (.ref sa), .unset] [(.ref b2)])) _
    jvm_step X6.here [X6.here.top, hx, (hb hby d35_58), X6.method', Bd.returns, Value.isRef, FieldType.isReference]
    first | (intro acts; rw [hr _ acts rfl rfl rfl]) | rw [hr _ _ rfl rfl rfl]
    exact Steps.refl _
  · show QlistOf2 Z sa y0 y1 ks h0 n0 _ T6.heap _
    exact ⟨b2, rfl, N6, K6, sz2, r6_1, r6_2⟩
theorem ef_listCopy2 (m : MethodId) (x0 : Addr) : entryFrame m #[(.ref x0)] 2 = mkF m 0 #[.val (.ref x0), .unset] [] := by first | (simp [entryFrame, mkF, argsToLocals, Value.category]; done) | rfl
def QlistCopy2 (Z : State) (a : Addr) (y0 : Addr) (y1 : Addr) (b : Addr) (kb : ClassId) (mr : Addr) (h0 : Heap) (n0 : Nat) (v : Option Value) (h : Heap) (L : List Loc) : Prop := ∃ (r : Addr), v = some (.ref r) ∧ Fr n0 L ∧ Keep h0 h [] ∧ h0.size ≤ r ∧ Exa Z h r "java/util/ImmutableCollections$List12" ∧ Fld Z h r "java/util/ImmutableCollections$List12" "e0" "Ljava/lang/Object;" (.ref y0)
set_option maxRecDepth 65536 in
set_option maxHeartbeats 40000000 in
theorem rmlistCopy2 (l : Launch) (Z : State) (a0 : Array Value) (hw : ∀ d ∈ tables_1, d.before a0 Z = true) (ws : List Jvm.Cond) (a : Addr) (y0 : Addr) (y1 : Addr) (b : Addr) (kb : ClassId) (mr : Addr) (h0 : Heap) (n0 : Nat) (O0 : Old Z n0 h0) (hp0 : Exa Z h0 a "java/util/ArrayList") (hp1 : Fld Z h0 a "java/util/ArrayList" "elementData" "[Ljava/lang/Object;" (.ref b)) (hp2 : Fld Z h0 a "java/util/ArrayList" "size" "I" (.int (2 : Int32))) (hp3 : Arv Z h0 b kb (.object "java/lang/Object") (10 : Int32) [(.ref y0), (.ref y1), .null, .null, .null, .null, .null, .null, .null, .null] .null) (mro : (own_Mr Z "[Ljava/lang/Object;" mr)) (hp5 : Exa Z h0 b "[Ljava/lang/Object;") (hp6 : Ins Z h0 y0 "java/lang/Object" true) (hp7 : Ins Z h0 y1 "java/lang/Object" true) :
    MetFree l mN37 (head1 (Jvm.Cond.code mN37 jdk_56_method_3_code 2 (some (.object "java/util/List")) :: ws) ({ frames := 6, cells := 2, slots := 4, locals := 91 } : Room)) (fun as_ U => as_ = #[(.ref a)] ∧ Z.Warmed39 U.vm ∧ U.heap = h0) (fun _ _ _ _ _ => True) (fun _ U o U' => ∃ v L, o = .returned v ∧ QlistCopy2 Z a y0 y1 b kb mr h0 n0 v U'.heap L ∧ FrameEnd U o U' L ({ frames := 6, cells := 2, slots := 4, locals := 91 } : Room).cells ({ frames := 6, cells := 2, slots := 4, locals := 91 } : Room).slots) := by
  refine MetFree.of_bodySF (plainFor_of_name pn_java_util_ImmutableCollections) hisR ?_
  intro p e s m args below meth c s₁ Bd hml0 hP hK
  obtain ⟨rfl, hZ, hh⟩ := hP
  have hx := Bd.exec
  have hby := Bd.bytes
  have hml : c.maxLocals = 2 := hml0
  have hown : s.vm.findClass "java/util/ImmutableCollections" = some m.cls := findClass_of_methodNamed Bd.named
  have hnm := (name_of_methodNamed Bd.named Bd.method).1
  have X0 : Stand p l e ({ frames := 6, cells := 2, slots := 4, locals := 91 } : Room) s m #[(.ref a)] below meth c s₁ [] 0 0 := Stand.of_body Bd
  have e0 : s₁.heap = h0 := by rw [← hh, Bd.state]; rfl
  have N0 := Fr.nil n0
  have Z0 := own_z0 O0
  have pre0 : ∀ tg_, Steps p.tables e below (s₁.setTop (mkF m 0 #[.val (.ref a), .unset] [])) tg_ → Steps p.tables e below (s₁.setTop (entryFrame m #[(.ref a)] 2)) tg_ := fun tg_ kt_ => castTop (ef_listCopy2 m a) kt_
  obtain ⟨T1, X1, e1, st1⟩ := instNo X0 hx hZ hown (hw _ w_205) e0 hp0 (own_nsNo (hw _ w_206) (hw _ w_254) (NS.step (hw _ w_206) (NS.step (hw _ w_207) (NS.step (hw _ w_208) (own_nsRoot (hw _ w_209) (hw _ w_254) (by decide)) (by decide)) (by decide)) (by decide)) (by decide)) (g := (mkF m 1 #[.val (.ref a), .unset] [(.ref a)])) rfl rfl (hb hby d29_1)
  obtain ⟨T2, X2, e2, st2⟩ := instNo X1 hx hZ hown (hw _ w_210) e1 hp0 (own_nsNo (hw _ w_206) (hw _ w_324) (NS.step (hw _ w_206) (NS.step (hw _ w_207) (NS.step (hw _ w_208) (own_nsRoot (hw _ w_209) (hw _ w_324) (by decide)) (by decide)) (by decide)) (by decide)) (by decide)) (g := (mkF m 8 #[.val (.ref a), .unset] [(.ref a)])) rfl rfl (hb hby d29_8)
  obtain ⟨cq3, kq3, q3a, q3b, q3c⟩ := isOf hZ e2 hp0
  obtain ⟨_, _, ⟨T3, L3, k3, n3⟩, -, X3, ⟨Lc3, hQ3, l3, y3, z3⟩, st3⟩ := X2.interfaceBack hx (xi := mN35) (y := mN25) hown (mvT hZ (hw _ w_211)) (mvT hZ (hw _ w_212)) (mvT hZ (hw _ w_213)) (mvT hZ (hw _ w_214)) (mvT hZ (hw _ w_215)) (mvT hZ (hw _ w_216)) (mvT hZ (hw _ w_217)) (mvT hZ (hw _ w_218)) (by decide) (backOf (W := 0) (rmalEmpty l Z a0 hw [] a (2 : Int32) h0 n0 O0 hp2 (by decide)) hZ (hw _ w_219) (hw _ w_56) (by decide) (by decide)) q3a q3b q3c (g := (mkF m 32 #[.val (.ref a), .unset] [(.ref a)])) rfl (by rw [hml]; rfl) (Steps.refl _) (argsL := []) (rest := []) (lenOf pd___Z rfl) rfl (by show 2 * 0 + _ ≤ _; exact Nat.le_of_eq rfl) (hb hby d29_32) (fun _ _ => ⟨rfl, e2, (by decide : 0 + 0 ≤ _), (by decide : 0 + 0 ≤ _)⟩)
  dsimp only [Pt.U, Pt.locs, Pt.cells, Pt.slots] at X3 l3 y3 z3 st3 hQ3
  subst l3 y3 z3
  obtain ⟨rfl, N3q, eh3⟩ := hQ3
  have N3 := Fr.app N0 N3q
  obtain ⟨cq4, kq4, q4a, q4b, q4c⟩ := isOf hZ eh3 hp0
  obtain ⟨_, _, ⟨T4, L4, k4, n4⟩, -, X4, ⟨Lc4, hQ4, l4, y4, z4⟩, st4⟩ := X3.interfaceBack hx (xi := mN36) (y := mN33) hown (mvT hZ (hw _ w_220)) (mvT hZ (hw _ w_221)) (mvT hZ (hw _ w_222)) (mvT hZ (hw _ w_223)) (mvT hZ (hw _ w_224)) (mvT hZ (hw _ w_225)) (mvT hZ (hw _ w_226)) (mvT hZ (hw _ w_218)) (by decide) (backOf (W := 0) (rmtoArr2 l Z a0 hw [] a y0 y1 b kb mr h0 n0 O0 hp0 hp1 hp2 hp3 mro hp5 hp6 hp7) hZ (hw _ w_227) (hw _ w_56) (by decide) (by decide)) q4a q4b q4c (g := (mkF m 45 #[.val (.ref a), .unset] [(.ref a)])) rfl (by rw [hml]; rfl) (Steps.refl _) (argsL := []) (rest := []) (lenOf pd___ALjava_lang_Object_ rfl) rfl (by show 2 * 0 + _ ≤ _; exact Nat.le_of_eq rfl) (hb hby d29_45) (fun _ _ => ⟨rfl, eh3, (by decide : 0 + 1 ≤ _), (by decide : 0 + 2 ≤ _)⟩)
  dsimp only [Pt.U, Pt.locs, Pt.cells, Pt.slots] at X4 l4 y4 z4 st4 hQ4
  subst l4 y4 z4
  obtain ⟨r_4, kr_4, rfl, N4q, Kc4, r4_1, r4_2, r4_3, r4_4⟩ := hQ4
  have N4 := Fr.app N3 N4q
  have sz5 : h0.size ≤ r_4 := Nat.le_trans (Keep.refl h0 []).1 r4_1
  have gn5 : n0 ≤ r_4 := Nat.le_trans Z0 sz5
  have O4 : Old Z n0 T4.heap := O0.keep Kc4 all0
  have K4 : Keep h0 T4.heap [] := (Keep.refl h0 []).trans Kc4 all0
  obtain ⟨_, _, ⟨T7, L7, k7, n7⟩, -, X7, ⟨Lc7, hQ7, l7, y7, z7⟩, st7⟩ := Jvm.LawKit.callS X4 hx (y := mN34) hown (mvT hZ (hw _ w_250)) (mvT hZ (hw _ w_251)) (mvT hZ (hw _ w_199)) (mvT hZ (hw _ w_252)) (by decide) (backOf (W := 0) (rmlistOf2 l Z a0 hw [] r_4 y0 y1 kr_4 T4.heap n0 O4 r4_2 (own_insKeep hp6 Kc4) (own_insKeep hp7 Kc4)) hZ (hw _ w_252) (hw _ w_199) (by decide) (by decide)) (g := (mkF m 50 #[.val (.ref a), .unset] [(.ref r_4)])) rfl (by rw [hml]; rfl) (argsL := [(.ref r_4)]) (rest := []) (lenOf pd__ALjava_lang_Object__Ljava_util_List_ rfl) rfl (by show 2 * 0 + _ ≤ _; exact Nat.le_of_eq rfl) (hb hby d29_50) (fun _ _ => ⟨rfl, rfl, (by decide : 1 + 1 ≤ _), (by decide : 2 + 2 ≤ _)⟩)
  dsimp only [Pt.U, Pt.locs, Pt.cells, Pt.slots] at X7 l7 y7 z7 st7 hQ7
  subst l7 y7 z7
  obtain ⟨r_7, rfl, N7q, Kc7, r7_1, r7_2, r7_3⟩ := hQ7
  have N7 := Fr.app N4 N7q
  have sz8 : h0.size ≤ r_7 := Nat.le_trans K4.1 r7_1
  have gn8 : n0 ≤ r_7 := Nat.le_trans Z0 sz8
  have O7 : Old Z n0 T7.heap := O4.keep Kc7 all0
  have K7 : Keep h0 T7.heap [] := K4.trans Kc7 all0
  obtain ⟨fs, hr, hrun, hended, hW, hsame⟩ := X7.leave (v := some (.ref r_7)) (fun h => by rw [Bd.returns] at h; cases h)
  refine ⟨_, _, pre0 _ ?_, hrun, hended, _, _, rfl, ?_, ⟨_, rfl⟩, hW, hsame.mono (by decide) (by decide)⟩
  · refine XS.aloadN X0.here hx rfl (hb hby d29_0) rfl rfl ?_
    show Steps p.tables e below (s₁.setTop (mkF m 1 #[.val (.ref a), .unset] [(.ref a)])) _
    refine st1 _ ?_
    refine XS.ifNo X1.here hx rfl (hb hby d29_4) rfl ((if0 _ _).trans (teq (by decide : (0 : Int32) = (0 : Int32))).2) ?_
    refine XS.aloadN X1.here hx rfl (hb hby d29_7) rfl rfl ?_
    show Steps p.tables e below (T1.setTop (mkF m 8 #[.val (.ref a), .unset] [(.ref a)])) _
    refine st2 _ ?_
    refine XS.ifYes X2.here hx rfl (pc0 := 11) (pc' := 31) rfl (hb hby d29_11) rfl ((if0 _ _).trans (teq (by decide : (0 : Int32) = (0 : Int32))).1) (by decide) (by decide) ?_
    refine XS.aloadN X2.here hx rfl (hb hby d29_31) rfl rfl ?_
    show Steps p.tables e below (T2.setTop (mkF m 32 #[.val (.ref a), .unset] [(.ref a)])) _
    refine st3.trans ?_
    refine XS.ifYes X3.here hx rfl (pc0 := 37) (pc' := 44) rfl (hb hby d29_37) rfl ((if0 _ _).trans (teq (by decide : (0 : Int32) = (0 : Int32))).1) (by decide) (by decide) ?_
    refine XS.aloadN X3.here hx rfl (hb hby d29_44) rfl rfl ?_
    show Steps p.tables e below (T3.setTop (mkF m 45 #[.val (.ref a), .unset] [(.ref a)])) _
    refine st4.trans ?_
    show Steps p.tables e below (T4.setTop (mkF m 50 #[.val (.ref a), .unset] [(.ref r_4)])) _
    refine st7 _ ?_
    show Steps p.tables e below (T7.setTop (mkF m 53 #[.val (.ref a), .unset] [(.ref r_7)])) _
    jvm_step X7.here [X7.here.top, hx, (hb hby d29_53), X7.method', Bd.returns, Value.isRef, FieldType.isReference]
    first | (intro acts; rw [hr _ acts rfl rfl rfl]) | rw [hr _ _ rfl rfl rfl]
    exact Steps.refl _
  · show QlistCopy2 Z a y0 y1 b kb mr h0 n0 _ T7.heap _
    exact ⟨r_7, rfl, N7, K7, sz8, r7_2, r7_3⟩
theorem ef_copyOf2 (m : MethodId) (x0 : Addr) : entryFrame m #[(.ref x0)] 1 = mkF m 0 #[.val (.ref x0)] [] := by first | (simp [entryFrame, mkF, argsToLocals, Value.category]; done) | rfl
def QcopyOf2 (Z : State) (a : Addr) (y0 : Addr) (y1 : Addr) (b : Addr) (kb : ClassId) (mr : Addr) (h0 : Heap) (n0 : Nat) (v : Option Value) (h : Heap) (L : List Loc) : Prop := ∃ (r : Addr), v = some (.ref r) ∧ Fr n0 L ∧ Keep h0 h [] ∧ h0.size ≤ r ∧ Exa Z h r "java/util/ImmutableCollections$List12" ∧ Fld Z h r "java/util/ImmutableCollections$List12" "e0" "Ljava/lang/Object;" (.ref y0)
set_option maxRecDepth 65536 in
set_option maxHeartbeats 40000000 in
theorem rmcopyOf2 (l : Launch) (Z : State) (a0 : Array Value) (hw : ∀ d ∈ tables_1, d.before a0 Z = true) (ws : List Jvm.Cond) (a : Addr) (y0 : Addr) (y1 : Addr) (b : Addr) (kb : ClassId) (mr : Addr) (h0 : Heap) (n0 : Nat) (O0 : Old Z n0 h0) (hp0 : Exa Z h0 a "java/util/ArrayList") (hp1 : Fld Z h0 a "java/util/ArrayList" "elementData" "[Ljava/lang/Object;" (.ref b)) (hp2 : Fld Z h0 a "java/util/ArrayList" "size" "I" (.int (2 : Int32))) (hp3 : Arv Z h0 b kb (.object "java/lang/Object") (10 : Int32) [(.ref y0), (.ref y1), .null, .null, .null, .null, .null, .null, .null, .null] .null) (mro : (own_Mr Z "[Ljava/lang/Object;" mr)) (hp5 : Exa Z h0 b "[Ljava/lang/Object;") (hp6 : Ins Z h0 y0 "java/lang/Object" true) (hp7 : Ins Z h0 y1 "java/lang/Object" true) :
    MetFree l mN38 (head1 (Jvm.Cond.code mN38 jdk_40_method_48_code 1 (some (.object "java/util/List")) :: ws) ({ frames := 7, cells := 2, slots := 4, locals := 104 } : Room)) (fun as_ U => as_ = #[(.ref a)] ∧ Z.Warmed39 U.vm ∧ U.heap = h0) (fun _ _ _ _ _ => True) (fun _ U o U' => ∃ v L, o = .returned v ∧ QcopyOf2 Z a y0 y1 b kb mr h0 n0 v U'.heap L ∧ FrameEnd U o U' L ({ frames := 7, cells := 2, slots := 4, locals := 104 } : Room).cells ({ frames := 7, cells := 2, slots := 4, locals := 104 } : Room).slots) := by
  refine MetFree.of_bodySF (plainFor_of_name pn_java_util_List) hisR ?_
  intro p e s m args below meth c s₁ Bd hml0 hP hK
  obtain ⟨rfl, hZ, hh⟩ := hP
  have hx := Bd.exec
  have hby := Bd.bytes
  have hml : c.maxLocals = 1 := hml0
  have hown : s.vm.findClass "java/util/List" = some m.cls := findClass_of_methodNamed Bd.named
  have hnm := (name_of_methodNamed Bd.named Bd.method).1
  have X0 : Stand p l e ({ frames := 7, cells := 2, slots := 4, locals := 104 } : Room) s m #[(.ref a)] below meth c s₁ [] 0 0 := Stand.of_body Bd
  have e0 : s₁.heap = h0 := by rw [← hh, Bd.state]; rfl
  have N0 := Fr.nil n0
  have Z0 := own_z0 O0
  have pre0 : ∀ tg_, Steps p.tables e below (s₁.setTop (mkF m 0 #[.val (.ref a)] [])) tg_ → Steps p.tables e below (s₁.setTop (entryFrame m #[(.ref a)] 1)) tg_ := fun tg_ kt_ => castTop (ef_copyOf2 m a) kt_
  obtain ⟨_, _, ⟨T1, L1, k1, n1⟩, -, X1, ⟨Lc1, hQ1, l1, y1, z1⟩, st1⟩ := Jvm.LawKit.callS X0 hx (y := mN37) hown (mvT hZ (hw _ w_201)) (mvT hZ (hw _ w_202)) (mvT hZ (hw _ w_203)) (mvT hZ (hw _ w_204)) (by decide) (backOf (W := 0) (rmlistCopy2 l Z a0 hw [] a y0 y1 b kb mr h0 n0 O0 hp0 hp1 hp2 hp3 mro hp5 hp6 hp7) hZ (hw _ w_204) (hw _ w_203) (by decide) (by decide)) (g := (mkF m 1 #[.val (.ref a)] [(.ref a)])) rfl (by rw [hml]; rfl) (argsL := [(.ref a)]) (rest := []) (lenOf pd__Ljava_util_Collection__Ljava_util_List_ rfl) rfl (by show 2 * 0 + _ ≤ _; exact Nat.le_of_eq rfl) (hb hby d28_1) (fun _ _ => ⟨rfl, e0, (by decide : 0 + 2 ≤ _), (by decide : 0 + 4 ≤ _)⟩)
  dsimp only [Pt.U, Pt.locs, Pt.cells, Pt.slots] at X1 l1 y1 z1 st1 hQ1
  subst l1 y1 z1
  obtain ⟨r_1, rfl, N1q, Kc1, r1_1, r1_2, r1_3⟩ := hQ1
  have N1 := Fr.app N0 N1q
  have sz2 : h0.size ≤ r_1 := Nat.le_trans (Keep.refl h0 []).1 r1_1
  have gn2 : n0 ≤ r_1 := Nat.le_trans Z0 sz2
  have O1 : Old Z n0 T1.heap := O0.keep Kc1 all0
  have K1 : Keep h0 T1.heap [] := (Keep.refl h0 []).trans Kc1 all0
  obtain ⟨fs, hr, hrun, hended, hW, hsame⟩ := X1.leave (v := some (.ref r_1)) (fun h => by rw [Bd.returns] at h; cases h)
  refine ⟨_, _, pre0 _ ?_, hrun, hended, _, _, rfl, ?_, ⟨_, rfl⟩, hW, hsame.mono (by decide) (by decide)⟩
  · refine XS.aloadN X0.here hx rfl (hb hby d28_0) rfl rfl ?_
    show Steps p.tables e below (s₁.setTop (mkF m 1 #[.val (.ref a)] [(.ref a)])) _
    refine st1 _ ?_
    show Steps p.tables e below (T1.setTop (mkF m 4 #[.val (.ref a)] [(.ref r_1)])) _
    jvm_step X1.here [X1.here.top, hx, (hb hby d28_4), X1.method', Bd.returns, Value.isRef, FieldType.isReference]
    first | (intro acts; rw [hr _ acts rfl rfl rfl]) | rw [hr _ _ rfl rfl rfl]
    exact Steps.refl _
  · show QcopyOf2 Z a y0 y1 b kb mr h0 n0 _ T1.heap _
    exact ⟨r_1, rfl, N1, K1, sz2, r1_2, r1_3⟩
theorem ef_copyC3 (m : MethodId) (x0 : Addr) (x1 : Int32) (x2 : Addr) : entryFrame m #[(.ref x0), (.int x1), (.ref x2)] 4 = mkF m 0 #[.val (.ref x0), .val (.int x1), .val (.ref x2), .unset] [] := by first | (simp [entryFrame, mkF, argsToLocals, Value.category]; done) | rfl
def QcopyC3 (Z : State) (b : Addr) (mr : Addr) (y0 : Addr) (y1 : Addr) (y2 : Addr) (kb : ClassId) (h0 : Heap) (n0 : Nat) (v : Option Value) (h : Heap) (L : List Loc) : Prop := ∃ (r : Addr), ∃ (kr : ClassId), v = some (.ref r) ∧ Fr n0 L ∧ Keep h0 h [] ∧ h0.size ≤ r ∧ Arv Z h r kr (.object "java/lang/Object") (3 : Int32) [(.ref y0), (.ref y1), (.ref y2)] .null ∧ (Ovr Z kr "java/lang/Object") ∧ Exa Z h r "[Ljava/lang/Object;"
set_option maxRecDepth 65536 in
set_option maxHeartbeats 40000000 in
theorem rmcopyC3 (l : Launch) (Z : State) (a0 : Array Value) (hw : ∀ d ∈ tables_1, d.before a0 Z = true) (ws : List Jvm.Cond) (b : Addr) (mr : Addr) (y0 : Addr) (y1 : Addr) (y2 : Addr) (kb : ClassId) (h0 : Heap) (n0 : Nat) (O0 : Old Z n0 h0) (hp0 : Arv Z h0 b kb (.object "java/lang/Object") (10 : Int32) [(.ref y0), (.ref y1), (.ref y2), .null, .null, .null, .null, .null, .null, .null] .null) (mro : (own_Mr Z "[Ljava/lang/Object;" mr)) (hp2 : Ins Z h0 y0 "java/lang/Object" true) (hp3 : Ins Z h0 y1 "java/lang/Object" true) (hp4 : Ins Z h0 y2 "java/lang/Object" true) :
    MetFree l mN31 (head1 (Jvm.Cond.code mN31 jdk_65_method_120_code 4 (some (.array (.object "java/lang/Object"))) :: ws) ({ frames := 1, cells := 1, slots := 3, locals := 51 } : Room)) (fun as_ U => as_ = #[(.ref b), (.int (3 : Int32)), (.ref mr)] ∧ Z.Warmed39 U.vm ∧ U.heap = h0) (fun _ _ _ _ _ => True) (fun _ U o U' => ∃ v L, o = .returned v ∧ QcopyC3 Z b mr y0 y1 y2 kb h0 n0 v U'.heap L ∧ FrameEnd U o U' L ({ frames := 1, cells := 1, slots := 3, locals := 51 } : Room).cells ({ frames := 1, cells := 1, slots := 3, locals := 51 } : Room).slots) := by
  refine MetFree.of_bodySF (plainFor_of_name pn_java_util_Arrays) hisR ?_
  intro p e s m args below meth c s₁ Bd hml0 hP hK
  obtain ⟨rfl, hZ, hh⟩ := hP
  have hx := Bd.exec
  have hby := Bd.bytes
  have hml : c.maxLocals = 4 := hml0
  have hown : s.vm.findClass "java/util/Arrays" = some m.cls := findClass_of_methodNamed Bd.named
  have hnm := (name_of_methodNamed Bd.named Bd.method).1
  have X0 : Stand p l e ({ frames := 1, cells := 1, slots := 3, locals := 51 } : Room) s m #[(.ref b), (.int (3 : Int32)), (.ref mr)] below meth c s₁ [] 0 0 := Stand.of_body Bd
  have e0 : s₁.heap = h0 := by rw [← hh, Bd.state]; rfl
  have N0 := Fr.nil n0
  have Z0 := own_z0 O0
  have pre0 : ∀ tg_, Steps p.tables e below (s₁.setTop (mkF m 0 #[.val (.ref b), .val (.int (3 : Int32)), .val (.ref mr), .unset] [])) tg_ → Steps p.tables e below (s₁.setTop (entryFrame m #[(.ref b), (.int (3 : Int32)), (.ref mr)] 4)) tg_ := fun tg_ kt_ => castTop (ef_copyC3 m b (3 : Int32) mr) kt_
  obtain ⟨T1, X1, e1, st1⟩ := own_ldcM X0 hx hZ hown (hw _ w_241) e0 mro (g := (mkF m 1 #[.val (.ref b), .val (.int (3 : Int32)), .val (.ref mr), .unset] [(.ref mr)])) rfl (hb hby d33_1)
  obtain ⟨T2, h2, k2, X2, e2, E2, A2, Ex2, Ov2, st2⟩ := newRE X1 hx hZ hown (hw _ w_242) (hw _ w_107) e1 (g := (mkF m 7 #[.val (.ref b), .val (.int (3 : Int32)), .val (.ref mr), .unset] [(.int (3 : Int32))])) rfl (hb hby d33_7) rfl (by decide) (cap := 3) (by decide) (by decide) (by decide) (by decide) (ad := "[Ljava/lang/Object;") (by decide)
  obtain ⟨b2, g2⟩ : ∃ z, z = h0.size := ⟨_, rfl⟩
  rw [← g2] at A2 Ex2 st2
  have sz2 : h0.size ≤ b2 := Nat.le_trans (Keep.refl h0 []).1 (Nat.le_of_eq g2.symm)
  have gn2 : n0 ≤ b2 := Nat.le_trans Z0 sz2
  have O2 : Old Z n0 h2 := O0.ext E2
  have K2 : Keep h0 h2 [] := (Keep.refl h0 []).ext E2
  have V2 : Arv Z h2 b2 k2 (.object "java/lang/Object") (3 : Int32) [.null, .null, .null] .null := (Arv.new A2 (by decide)).pad (pad_rep [] .null 3)
  obtain ⟨cl4, Ar4, -, S4, Ng4, -, -⟩ := id (hp0.ext E2)
  obtain ⟨_, _, ⟨T5, L5, k5, n5⟩, -, X5, ⟨Lc5, hQ5, l5, y5, z5⟩, st5⟩ := Jvm.LawKit.callS X2 hx (y := mN23) hown (mvT hZ (hw _ w_243)) (mvT hZ (hw _ w_244)) (mvT hZ (hw _ w_104)) (mvT hZ (hw _ w_245)) (by decide) (backOf (W := 4) (rmminG l Z a0 hw [] (10 : Int32) (3 : Int32) h2 n0 O2 (by decide)) hZ (hw _ w_245) (hw _ w_104) (by decide) (by decide)) (g := (mkF m 32 #[.val (.ref b), .val (.int (3 : Int32)), .val (.ref mr), .val (.ref b2)] [(.int (3 : Int32)), (.int (10 : Int32)), (.int (0 : Int32)), (.ref b2), (.int (0 : Int32)), (.ref b)])) rfl (by rw [hml]; rfl) (argsL := [(.int (10 : Int32)), (.int (3 : Int32))]) (rest := [(.int (0 : Int32)), (.ref b2), (.int (0 : Int32)), (.ref b)]) (lenOf pd__II_I rfl) rfl (by show 2 * 0 + _ ≤ _; exact Nat.le_of_eq rfl) (hb hby d33_32) (fun _ _ => ⟨rfl, e2, (by decide : 1 + 0 ≤ _), (by decide : 3 + 0 ≤ _)⟩)
  dsimp only [Pt.U, Pt.locs, Pt.cells, Pt.slots] at X5 l5 y5 z5 st5 hQ5
  subst l5 y5 z5
  obtain ⟨rfl, N5q, eh5⟩ := hQ5
  have N5 := Fr.app N0 N5q
  obtain ⟨cc6, Ac6, qc6, -⟩ := id V2
  obtain ⟨T6, h6, L6, X6, e6, N6, Kc6, V6, st6⟩ := cpA X5 hx hZ hown (hw _ w_246) (hw _ w_249) (hw _ w_247) (hw _ w_248) eh5 (hp0.ext E2) V2 (us := [(.ref y0), (.ref y1), (.ref y2)]) (Or.inr ⟨rfl, rfl, ⟨Sto.of Ac6 (by rw [qc6]; exact Ov2) (hp2.ext E2), ⟨Sto.of Ac6 (by rw [qc6]; exact Ov2) (hp3.ext E2), ⟨Sto.of Ac6 (by rw [qc6]; exact Ov2) (hp4.ext E2), trivial⟩⟩⟩⟩) (by decide) (by decide) (by decide) (by decide) (by decide) rfl (by decide) N5 gn2 (g := (mkF m 35 #[.val (.ref b), .val (.int (3 : Int32)), .val (.ref mr), .val (.ref b2)] [(.int (3 : Int32)), (.int (0 : Int32)), (.ref b2), (.int (0 : Int32)), (.ref b)])) rfl (by rw [hml]; rfl) rfl (hb hby d33_35) (by decide) (W := 0) (by show 2 * 0 + _ ≤ _; exact Nat.le_of_eq rfl) (by decide)
  have O6 : Old Z n0 h6 := O2.keep Kc6 (allS gn2 all0)
  have K6 : Keep h0 h6 [] := K2.trans Kc6 (allS (Or.inr sz2) all0)
  have Vc6 : Arv Z h6 b2 k2 (.object "java/lang/Object") (3 : Int32) [(.ref y0), (.ref y1), (.ref y2)] .null := V6
  obtain ⟨fs, hr, hrun, hended, hW, hsame⟩ := X6.leave (v := some (.ref b2)) (fun h => by rw [Bd.returns] at h; cases h)
  refine ⟨_, _, pre0 _ ?_, hrun, hended, _, _, rfl, ?_, ⟨_, rfl⟩, hW, hsame.mono (by decide) (by decide)⟩
  · refine XS.aloadN X0.here hx rfl (hb hby d33_0) rfl rfl ?_
    show Steps p.tables e below (s₁.setTop (mkF m 1 #[.val (.ref b), .val (.int (3 : Int32)), .val (.ref mr), .unset] [(.ref mr)])) _
    refine st1 _ ?_
    show Steps p.tables e below (T1.setTop (mkF m 3 #[.val (.ref b), .val (.int (3 : Int32)), .val (.ref mr), .unset] [(.ref mr), (.ref mr)])) _
    refine Jvm.RoadKit.acmp (g := (mkF m 3 #[.val (.ref b), .val (.int (3 : Int32)), .val (.ref mr), .unset] [(.ref mr), (.ref mr)])) X1 hx rfl rfl rfl (pc0 := 3) (pc' := 6) (same := true) rfl (hb hby d33_3) rfl (decide_eq_true rfl) (by decide) (by decide) ?_
    refine XS.iloadN X1.here hx rfl (hb hby d33_6) rfl ?_
    show Steps p.tables e below (T1.setTop (mkF m 7 #[.val (.ref b), .val (.int (3 : Int32)), .val (.ref mr), .unset] [(.int (3 : Int32))])) _
    refine st2 _ ?_
    refine XS.goto X2.here hx rfl (pc0 := 10) (pc' := 24) rfl (hb hby d33_10) (by decide) (by decide) ?_
    refine XS.astoreN X2.here hx rfl (hb hby d33_24) rfl rfl (l' := #[.val (.ref b), .val (.int (3 : Int32)), .val (.ref mr), .val (.ref b2)]) rfl ?_
    refine XS.aloadN X2.here hx rfl (hb hby d33_25) rfl rfl ?_
    show Steps p.tables e below (T2.setTop (mkF m 26 #[.val (.ref b), .val (.int (3 : Int32)), .val (.ref mr), .val (.ref b2)] [(.ref b)])) _
    refine XS.iconst X2.here hx rfl (hb hby d33_26) ?_
    refine XS.aloadN X2.here hx rfl (hb hby d33_27) rfl rfl ?_
    refine XS.iconst X2.here hx rfl (hb hby d33_28) ?_
    refine XS.aloadN X2.here hx rfl (hb hby d33_29) rfl rfl ?_
    show Steps p.tables e below (T2.setTop (mkF m 30 #[.val (.ref b), .val (.int (3 : Int32)), .val (.ref mr), .val (.ref b2)] [(.ref b), (.int (0 : Int32)), (.ref b2), (.int (0 : Int32)), (.ref b)])) _
    refine X2.arraylength hx (by rw [e2]; exact Ar4.1) (State.isArrayOf_alike hZ.alike Ar4.2.1) (g := (mkF m 30 #[.val (.ref b), .val (.int (3 : Int32)), .val (.ref mr), .val (.ref b2)] [(.ref b), (.int (0 : Int32)), (.ref b2), (.int (0 : Int32)), (.ref b)])) rfl rfl (hb hby d33_30) _ ?_
    rw [len_of S4 Ng4]
    refine XS.iloadN X2.here hx rfl (hb hby d33_31) rfl ?_
    show Steps p.tables e below (T2.setTop (mkF m 32 #[.val (.ref b), .val (.int (3 : Int32)), .val (.ref mr), .val (.ref b2)] [(.int (3 : Int32)), (.int (10 : Int32)), (.int (0 : Int32)), (.ref b2), (.int (0 : Int32)), (.ref b)])) _
    refine st5 _ ?_
    show Steps p.tables e below (T5.setTop (mkF m 35 #[.val (.ref b), .val (.int (3 : Int32)), .val (.ref mr), .val (.ref b2)] [(.int (3 : Int32)), (.int (0 : Int32)), (.ref b2), (.int (0 : Int32)), (.ref b)])) _
    refine st6 _ ?_
    refine XS.aloadN X6.here hx rfl (hb hby d33_38) rfl rfl ?_
    show Steps p.tables e below (T6.setTop (mkF m 39 #[.val (.ref b), .val (.int (3 : Int32)), .val (.ref mr), .val (.ref b2)] [(.ref b2)])) _
    jvm_step X6.here [X6.here.top, hx, (hb hby d33_39), X6.method', Bd.returns, Value.isRef, FieldType.isReference]
    first | (intro acts; rw [hr _ acts rfl rfl rfl]) | rw [hr _ _ rfl rfl rfl]
    exact Steps.refl _
  · show QcopyC3 Z b mr y0 y1 y2 kb h0 n0 _ T6.heap _
    rw [e6]
    exact ⟨b2, k2, rfl, N6, K6, sz2, Vc6, Ov2, (Ex2.keep Kc6)⟩
theorem ef_copy3 (m : MethodId) (x0 : Addr) (x1 : Int32) : entryFrame m #[(.ref x0), (.int x1)] 2 = mkF m 0 #[.val (.ref x0), .val (.int x1)] [] := by first | (simp [entryFrame, mkF, argsToLocals, Value.category]; done) | rfl
def Qcopy3 (Z : State) (b : Addr) (y0 : Addr) (y1 : Addr) (y2 : Addr) (kb : ClassId) (mr : Addr) (h0 : Heap) (n0 : Nat) (v : Option Value) (h : Heap) (L : List Loc) : Prop := ∃ (r : Addr), ∃ (kr : ClassId), v = some (.ref r) ∧ Fr n0 L ∧ Keep h0 h [] ∧ h0.size ≤ r ∧ Arv Z h r kr (.object "java/lang/Object") (3 : Int32) [(.ref y0), (.ref y1), (.ref y2)] .null ∧ (Ovr Z kr "java/lang/Object") ∧ Exa Z h r "[Ljava/lang/Object;"
set_option maxRecDepth 65536 in
set_option maxHeartbeats 40000000 in
theorem rmcopy3 (l : Launch) (Z : State) (a0 : Array Value) (hw : ∀ d ∈ tables_1, d.before a0 Z = true) (ws : List Jvm.Cond) (b : Addr) (y0 : Addr) (y1 : Addr) (y2 : Addr) (kb : ClassId) (mr : Addr) (h0 : Heap) (n0 : Nat) (O0 : Old Z n0 h0) (hp0 : Arv Z h0 b kb (.object "java/lang/Object") (10 : Int32) [(.ref y0), (.ref y1), (.ref y2), .null, .null, .null, .null, .null, .null, .null] .null) (mro : (own_Mr Z "[Ljava/lang/Object;" mr)) (hp2 : Exa Z h0 b "[Ljava/lang/Object;") (hp3 : Ins Z h0 y0 "java/lang/Object" true) (hp4 : Ins Z h0 y1 "java/lang/Object" true) (hp5 : Ins Z h0 y2 "java/lang/Object" true) :
    MetFree l mN32 (head1 (Jvm.Cond.code mN32 jdk_65_method_119_code 2 (some (.array (.object "java/lang/Object"))) :: ws) ({ frames := 2, cells := 1, slots := 3, locals := 66 } : Room)) (fun as_ U => as_ = #[(.ref b), (.int (3 : Int32))] ∧ Z.Warmed39 U.vm ∧ U.heap = h0) (fun _ _ _ _ _ => True) (fun _ U o U' => ∃ v L, o = .returned v ∧ Qcopy3 Z b y0 y1 y2 kb mr h0 n0 v U'.heap L ∧ FrameEnd U o U' L ({ frames := 2, cells := 1, slots := 3, locals := 66 } : Room).cells ({ frames := 2, cells := 1, slots := 3, locals := 66 } : Room).slots) := by
  refine MetFree.of_bodySF (plainFor_of_name pn_java_util_Arrays) hisR ?_
  intro p e s m args below meth c s₁ Bd hml0 hP hK
  obtain ⟨rfl, hZ, hh⟩ := hP
  have hx := Bd.exec
  have hby := Bd.bytes
  have hml : c.maxLocals = 2 := hml0
  have hown : s.vm.findClass "java/util/Arrays" = some m.cls := findClass_of_methodNamed Bd.named
  have hnm := (name_of_methodNamed Bd.named Bd.method).1
  have X0 : Stand p l e ({ frames := 2, cells := 1, slots := 3, locals := 66 } : Room) s m #[(.ref b), (.int (3 : Int32))] below meth c s₁ [] 0 0 := Stand.of_body Bd
  have e0 : s₁.heap = h0 := by rw [← hh, Bd.state]; rfl
  have N0 := Fr.nil n0
  have Z0 := own_z0 O0
  have pre0 : ∀ tg_, Steps p.tables e below (s₁.setTop (mkF m 0 #[.val (.ref b), .val (.int (3 : Int32))] [])) tg_ → Steps p.tables e below (s₁.setTop (entryFrame m #[(.ref b), (.int (3 : Int32))] 2)) tg_ := fun tg_ kt_ => castTop (ef_copy3 m b (3 : Int32)) kt_
  obtain ⟨T1, X1, e1, st1⟩ := own_gcls X0 hx hZ hown (hw _ w_232) (hw _ w_233) (hw _ w_209) (hw _ w_235) (hw _ w_234) (hw _ w_236) e0 hp2 mro (g := (mkF m 3 #[.val (.ref b), .val (.int (3 : Int32))] [(.ref b), (.int (3 : Int32)), (.ref b)])) rfl (by rw [hml]; rfl) rfl (hb hby d32_3) (by decide) (W := 2) (by show 2 * 0 + _ ≤ _; exact Nat.le_of_eq rfl) (by decide)
  obtain ⟨_, _, ⟨T2, L2, k2, n2⟩, -, X2, ⟨Lc2, hQ2, l2, y2, z2⟩, st2⟩ := Jvm.LawKit.callS X1 hx (y := mN31) hown (mvT hZ (hw _ w_238)) (mvT hZ (hw _ w_239)) (mvT hZ (hw _ w_230)) (mvT hZ (hw _ w_240)) (by decide) (backOf (W := 0) (rmcopyC3 l Z a0 hw [] b mr y0 y1 y2 kb h0 n0 O0 hp0 mro hp3 hp4 hp5) hZ (hw _ w_240) (hw _ w_230) (by decide) (by decide)) (g := (mkF m 6 #[.val (.ref b), .val (.int (3 : Int32))] [(.ref mr), (.int (3 : Int32)), (.ref b)])) rfl (by rw [hml]; rfl) (argsL := [(.ref b), (.int (3 : Int32)), (.ref mr)]) (rest := []) (lenOf pd__ALjava_lang_Object_ILjava_lang_Class__ALjava_lang_Object_ rfl) rfl (by show 2 * 0 + _ ≤ _; exact Nat.le_of_eq rfl) (hb hby d32_6) (fun _ _ => ⟨rfl, e1, (by decide : 0 + 1 ≤ _), (by decide : 0 + 3 ≤ _)⟩)
  dsimp only [Pt.U, Pt.locs, Pt.cells, Pt.slots] at X2 l2 y2 z2 st2 hQ2
  subst l2 y2 z2
  obtain ⟨r_2, kr_2, rfl, N2q, Kc2, r2_1, r2_2, r2_3, r2_4⟩ := hQ2
  have N2 := Fr.app N0 N2q
  have sz3 : h0.size ≤ r_2 := Nat.le_trans (Keep.refl h0 []).1 r2_1
  have gn3 : n0 ≤ r_2 := Nat.le_trans Z0 sz3
  have O2 : Old Z n0 T2.heap := O0.keep Kc2 all0
  have K2 : Keep h0 T2.heap [] := (Keep.refl h0 []).trans Kc2 all0
  obtain ⟨fs, hr, hrun, hended, hW, hsame⟩ := X2.leave (v := some (.ref r_2)) (fun h => by rw [Bd.returns] at h; cases h)
  refine ⟨_, _, pre0 _ ?_, hrun, hended, _, _, rfl, ?_, ⟨_, rfl⟩, hW, hsame.mono (by decide) (by decide)⟩
  · refine XS.aloadN X0.here hx rfl (hb hby d32_0) rfl rfl ?_
    refine XS.iloadN X0.here hx rfl (hb hby d32_1) rfl ?_
    refine XS.aloadN X0.here hx rfl (hb hby d32_2) rfl rfl ?_
    show Steps p.tables e below (s₁.setTop (mkF m 3 #[.val (.ref b), .val (.int (3 : Int32))] [(.ref b), (.int (3 : Int32)), (.ref b)])) _
    refine st1 _ ?_
    show Steps p.tables e below (T1.setTop (mkF m 6 #[.val (.ref b), .val (.int (3 : Int32))] [(.ref mr), (.int (3 : Int32)), (.ref b)])) _
    refine st2 _ ?_
    show Steps p.tables e below (T2.setTop (mkF m 9 #[.val (.ref b), .val (.int (3 : Int32))] [(.ref r_2)])) _
    jvm_step X2.here [X2.here.top, hx, (hb hby d32_9), X2.method', Bd.returns, Value.isRef, FieldType.isReference]
    first | (intro acts; rw [hr _ acts rfl rfl rfl]) | rw [hr _ _ rfl rfl rfl]
    exact Steps.refl _
  · show Qcopy3 Z b y0 y1 y2 kb mr h0 n0 _ T2.heap _
    exact ⟨r_2, kr_2, rfl, N2, K2, sz3, r2_2, r2_3, r2_4⟩
theorem ef_toArr3 (m : MethodId) (x0 : Addr) : entryFrame m #[(.ref x0)] 1 = mkF m 0 #[.val (.ref x0)] [] := by first | (simp [entryFrame, mkF, argsToLocals, Value.category]; done) | rfl
def QtoArr3 (Z : State) (a : Addr) (y0 : Addr) (y1 : Addr) (y2 : Addr) (b : Addr) (kb : ClassId) (mr : Addr) (h0 : Heap) (n0 : Nat) (v : Option Value) (h : Heap) (L : List Loc) : Prop := ∃ (r : Addr), ∃ (kr : ClassId), v = some (.ref r) ∧ Fr n0 L ∧ Keep h0 h [] ∧ h0.size ≤ r ∧ Arv Z h r kr (.object "java/lang/Object") (3 : Int32) [(.ref y0), (.ref y1), (.ref y2)] .null ∧ (Ovr Z kr "java/lang/Object") ∧ Exa Z h r "[Ljava/lang/Object;"
set_option maxRecDepth 65536 in
set_option maxHeartbeats 40000000 in
theorem rmtoArr3 (l : Launch) (Z : State) (a0 : Array Value) (hw : ∀ d ∈ tables_1, d.before a0 Z = true) (ws : List Jvm.Cond) (a : Addr) (y0 : Addr) (y1 : Addr) (y2 : Addr) (b : Addr) (kb : ClassId) (mr : Addr) (h0 : Heap) (n0 : Nat) (O0 : Old Z n0 h0) (hp0 : Exa Z h0 a "java/util/ArrayList") (hp1 : Fld Z h0 a "java/util/ArrayList" "elementData" "[Ljava/lang/Object;" (.ref b)) (hp2 : Fld Z h0 a "java/util/ArrayList" "size" "I" (.int (3 : Int32))) (hp3 : Arv Z h0 b kb (.object "java/lang/Object") (10 : Int32) [(.ref y0), (.ref y1), (.ref y2), .null, .null, .null, .null, .null, .null, .null] .null) (mro : (own_Mr Z "[Ljava/lang/Object;" mr)) (hp5 : Exa Z h0 b "[Ljava/lang/Object;") (hp6 : Ins Z h0 y0 "java/lang/Object" true) (hp7 : Ins Z h0 y1 "java/lang/Object" true) (hp8 : Ins Z h0 y2 "java/lang/Object" true) :
    MetFree l mN33 (head1 (Jvm.Cond.code mN33 jdk_38_method_16_code 1 (some (.array (.object "java/lang/Object"))) :: ws) ({ frames := 3, cells := 1, slots := 3, locals := 79 } : Room)) (fun as_ U => as_ = #[(.ref a)] ∧ Z.Warmed39 U.vm ∧ U.heap = h0) (fun _ _ _ _ _ => True) (fun _ U o U' => ∃ v L, o = .returned v ∧ QtoArr3 Z a y0 y1 y2 b kb mr h0 n0 v U'.heap L ∧ FrameEnd U o U' L ({ frames := 3, cells := 1, slots := 3, locals := 79 } : Room).cells ({ frames := 3, cells := 1, slots := 3, locals := 79 } : Room).slots) := by
  refine MetFree.of_bodySF (plainFor_of_name pn_java_util_ArrayList) hisR ?_
  intro p e s m args below meth c s₁ Bd hml0 hP hK
  obtain ⟨rfl, hZ, hh⟩ := hP
  have hx := Bd.exec
  have hby := Bd.bytes
  have hml : c.maxLocals = 1 := hml0
  have hown : s.vm.findClass "java/util/ArrayList" = some m.cls := findClass_of_methodNamed Bd.named
  have hnm := (name_of_methodNamed Bd.named Bd.method).1
  have X0 : Stand p l e ({ frames := 3, cells := 1, slots := 3, locals := 79 } : Room) s m #[(.ref a)] below meth c s₁ [] 0 0 := Stand.of_body Bd
  have e0 : s₁.heap = h0 := by rw [← hh, Bd.state]; rfl
  have N0 := Fr.nil n0
  have Z0 := own_z0 O0
  have pre0 : ∀ tg_, Steps p.tables e below (s₁.setTop (mkF m 0 #[.val (.ref a)] [])) tg_ → Steps p.tables e below (s₁.setTop (entryFrame m #[(.ref a)] 1)) tg_ := fun tg_ kt_ => castTop (ef_toArr3 m a) kt_
  obtain ⟨T1, X1, e1, st1⟩ := getF X0 hx hZ hown (host := "") (Or.inl (hw _ w_76)) Via.refl e0 hp1 (g := (mkF m 1 #[.val (.ref a)] [(.ref a)])) rfl rfl (hb hby d31_1)
  obtain ⟨T2, X2, e2, st2⟩ := getF X1 hx hZ hown (host := "") (Or.inl (hw _ w_85)) Via.refl e1 hp2 (g := (mkF m 5 #[.val (.ref a)] [(.ref a), (.ref b)])) rfl rfl (hb hby d31_5)
  obtain ⟨_, _, ⟨T3, L3, k3, n3⟩, -, X3, ⟨Lc3, hQ3, l3, y3, z3⟩, st3⟩ := Jvm.LawKit.callS X2 hx (y := mN32) hown (mvT hZ (hw _ w_228)) (mvT hZ (hw _ w_229)) (mvT hZ (hw _ w_230)) (mvT hZ (hw _ w_231)) (by decide) (backOf (W := 0) (rmcopy3 l Z a0 hw [] b y0 y1 y2 kb mr h0 n0 O0 hp3 mro hp5 hp6 hp7 hp8) hZ (hw _ w_231) (hw _ w_230) (by decide) (by decide)) (g := (mkF m 8 #[.val (.ref a)] [(.int (3 : Int32)), (.ref b)])) rfl (by rw [hml]; rfl) (argsL := [(.ref b), (.int (3 : Int32))]) (rest := []) (lenOf pd__ALjava_lang_Object_I_ALjava_lang_Object_ rfl) rfl (by show 2 * 0 + _ ≤ _; exact Nat.le_of_eq rfl) (hb hby d31_8) (fun _ _ => ⟨rfl, e2, (by decide : 0 + 1 ≤ _), (by decide : 0 + 3 ≤ _)⟩)
  dsimp only [Pt.U, Pt.locs, Pt.cells, Pt.slots] at X3 l3 y3 z3 st3 hQ3
  subst l3 y3 z3
  obtain ⟨r_3, kr_3, rfl, N3q, Kc3, r3_1, r3_2, r3_3, r3_4⟩ := hQ3
  have N3 := Fr.app N0 N3q
  have sz4 : h0.size ≤ r_3 := Nat.le_trans (Keep.refl h0 []).1 r3_1
  have gn4 : n0 ≤ r_3 := Nat.le_trans Z0 sz4
  have O3 : Old Z n0 T3.heap := O0.keep Kc3 all0
  have K3 : Keep h0 T3.heap [] := (Keep.refl h0 []).trans Kc3 all0
  obtain ⟨fs, hr, hrun, hended, hW, hsame⟩ := X3.leave (v := some (.ref r_3)) (fun h => by rw [Bd.returns] at h; cases h)
  refine ⟨_, _, pre0 _ ?_, hrun, hended, _, _, rfl, ?_, ⟨_, rfl⟩, hW, hsame.mono (by decide) (by decide)⟩
  · refine XS.aloadN X0.here hx rfl (hb hby d31_0) rfl rfl ?_
    show Steps p.tables e below (s₁.setTop (mkF m 1 #[.val (.ref a)] [(.ref a)])) _
    refine st1 _ ?_
    refine XS.aloadN X1.here hx rfl (hb hby d31_4) rfl rfl ?_
    show Steps p.tables e below (T1.setTop (mkF m 5 #[.val (.ref a)] [(.ref a), (.ref b)])) _
    refine st2 _ ?_
    show Steps p.tables e below (T2.setTop (mkF m 8 #[.val (.ref a)] [(.int (3 : Int32)), (.ref b)])) _
    refine st3 _ ?_
    show Steps p.tables e below (T3.setTop (mkF m 11 #[.val (.ref a)] [(.ref r_3)])) _
    jvm_step X3.here [X3.here.top, hx, (hb hby d31_11), X3.method', Bd.returns, Value.isRef, FieldType.isReference]
    first | (intro acts; rw [hr _ acts rfl rfl rfl]) | rw [hr _ _ rfl rfl rfl]
    exact Steps.refl _
  · show QtoArr3 Z a y0 y1 y2 b kb mr h0 n0 _ T3.heap _
    exact ⟨r_3, kr_3, rfl, N3, K3, sz4, r3_2, r3_3, r3_4⟩
theorem d46_0 : decode jdk_56_method_4_code 0 = .ok (.aload_n 0, 1) := by decide +kernel
theorem d46_1 : decode jdk_56_method_4_code 1 = .ok (.arraylength, 1) := by decide +kernel
theorem w_322 : (Jvm.Cond.classLink "java/util/ImmutableCollections" (2 : Nat) "java/lang/Object") ∈ tables_1 := List.mem_of_getElem? (i := 322) (by decide +kernel)
theorem d46_2 : decode jdk_56_method_4_code 2 = .ok (.anewarray 2, 3) := by decide +kernel
theorem d46_5 : decode jdk_56_method_4_code 5 = .ok (.astore_n 1, 1) := by decide +kernel
theorem d46_6 : decode jdk_56_method_4_code 6 = .ok (.iconst 0, 1) := by decide +kernel
theorem d46_7 : decode jdk_56_method_4_code 7 = .ok (.istore_n 2, 1) := by decide +kernel
theorem d46_8 : decode jdk_56_method_4_code 8 = .ok (.iload_n 2, 1) := by decide +kernel
theorem d46_9 : decode jdk_56_method_4_code 9 = .ok (.aload_n 0, 1) := by decide +kernel
theorem d46_10 : decode jdk_56_method_4_code 10 = .ok (.arraylength, 1) := by decide +kernel
theorem d46_11 : decode jdk_56_method_4_code 11 = .ok (.if_icmp .ge 18, 3) := by decide +kernel
theorem d46_14 : decode jdk_56_method_4_code 14 = .ok (.aload_n 1, 1) := by decide +kernel
theorem d46_15 : decode jdk_56_method_4_code 15 = .ok (.iload_n 2, 1) := by decide +kernel
theorem d46_16 : decode jdk_56_method_4_code 16 = .ok (.aload_n 0, 1) := by decide +kernel
theorem d46_17 : decode jdk_56_method_4_code 17 = .ok (.iload_n 2, 1) := by decide +kernel
theorem d46_18 : decode jdk_56_method_4_code 18 = .ok (.aaload, 1) := by decide +kernel
theorem w_323 : (Jvm.Cond.methodLink "java/util/ImmutableCollections" (37 : Nat) ({ cls := "java/util/Objects", name := "requireNonNull", desc := "(Ljava/lang/Object;)Ljava/lang/Object;" } : Jvm.MethodName)) ∈ tables_1 := List.mem_of_getElem? (i := 323) (by decide +kernel)
theorem d46_19 : decode jdk_56_method_4_code 19 = .ok (.invokestatic 37, 3) := by decide +kernel
theorem d46_22 : decode jdk_56_method_4_code 22 = .ok (.aastore, 1) := by decide +kernel
theorem d46_23 : decode jdk_56_method_4_code 23 = .ok (.iinc 2 1, 3) := by decide +kernel
theorem d46_26 : decode jdk_56_method_4_code 26 = .ok (.goto (-18), 3) := by decide +kernel
theorem w_325 : (Jvm.Cond.initialized "java/util/ImmutableCollections$ListN") ∈ tables_1 := List.mem_of_getElem? (i := 325) (by decide +kernel)
theorem d46_29 : decode jdk_56_method_4_code 29 = .ok (.new 12, 3) := by decide +kernel
theorem d46_32 : decode jdk_56_method_4_code 32 = .ok (.dup, 1) := by decide +kernel
theorem d46_33 : decode jdk_56_method_4_code 33 = .ok (.aload_n 1, 1) := by decide +kernel
theorem d46_34 : decode jdk_56_method_4_code 34 = .ok (.iconst 0, 1) := by decide +kernel
theorem w_326 : (Jvm.Cond.methodLinkNest "java/util/ImmutableCollections" (43 : Nat) ({ cls := "java/util/ImmutableCollections$ListN", name := "<init>", desc := "([Ljava/lang/Object;Z)V" } : Jvm.MethodName) "java/util/ImmutableCollections") ∈ tables_1 := List.mem_of_getElem? (i := 326) (by decide +kernel)
theorem w_329 : (Jvm.Cond.code ({ cls := "java/util/ImmutableCollections$ListN", name := "<init>", desc := "([Ljava/lang/Object;Z)V" } : Jvm.MethodName) jdk_45_method_1_code (3 : Nat) (Option.none : Option Jvm.ClassFile.FieldType)) ∈ tables_1 := List.mem_of_getElem? (i := 329) (by decide +kernel)
theorem pd__ALjava_lang_Object_Z_V : parseMethodDescriptor "([Ljava/lang/Object;Z)V" = some ⟨[(.array (.object "java/lang/Object")), .boolean], none⟩ := by decide +kernel
theorem d46_35 : decode jdk_56_method_4_code 35 = .ok (.invokespecial 43, 3) := by decide +kernel
theorem w_327 : (Jvm.Cond.instanceMethod ({ cls := "java/util/ImmutableCollections$ListN", name := "<init>", desc := "([Ljava/lang/Object;Z)V" } : Jvm.MethodName)) ∈ tables_1 := List.mem_of_getElem? (i := 327) (by decide +kernel)
theorem d46_38 : decode jdk_56_method_4_code 38 = .ok (.areturn, 1) := by decide +kernel
abbrev mN39 : MethodName := ⟨"java/util/ImmutableCollections", "listFromArray", "([Ljava/lang/Object;)Ljava/util/List;"⟩
theorem ef_lfa (m : MethodId) (x0 : Addr) : entryFrame m #[(.ref x0)] 3 = mkF m 0 #[.val (.ref x0), .unset, .unset] [] := by first | (simp [entryFrame, mkF, argsToLocals, Value.category]; done) | rfl
def Qlfa (Z : State) (sa : Addr) (y0 : Addr) (y1 : Addr) (y2 : Addr) (ks : ClassId) (h0 : Heap) (n0 : Nat) (v : Option Value) (h : Heap) (L : List Loc) : Prop := ∃ (r : Addr), ∃ (q : Addr), ∃ (kq : ClassId), v = some (.ref r) ∧ Fr n0 L ∧ Keep h0 h [] ∧ h0.size ≤ r ∧ Exa Z h r "java/util/ImmutableCollections$ListN" ∧ Fld Z h r "java/util/ImmutableCollections$ListN" "elements" "[Ljava/lang/Object;" (.ref q) ∧ Arv Z h q kq (.object "java/lang/Object") (3 : Int32) [(.ref y0), (.ref y1), (.ref y2)] .null
set_option maxRecDepth 65536 in
set_option maxHeartbeats 40000000 in
theorem rmlfa (l : Launch) (Z : State) (a0 : Array Value) (hw : ∀ d ∈ tables_1, d.before a0 Z = true) (ws : List Jvm.Cond) (sa : Addr) (y0 : Addr) (y1 : Addr) (y2 : Addr) (ks : ClassId) (h0 : Heap) (n0 : Nat) (O0 : Old Z n0 h0) (hp0 : Arv Z h0 sa ks (.object "java/lang/Object") (3 : Int32) [(.ref y0), (.ref y1), (.ref y2)] .null) (hp1 : Ins Z h0 y0 "java/lang/Object" true) (hp2 : Ins Z h0 y1 "java/lang/Object" true) (hp3 : Ins Z h0 y2 "java/lang/Object" true) :
    MetFree l mN39 (head1 (Jvm.Cond.code mN39 jdk_56_method_4_code 3 (some (.object "java/util/List")) :: ws) ({ frames := 5, cells := 2, slots := 5, locals := 63 } : Room)) (fun as_ U => as_ = #[(.ref sa)] ∧ Z.Warmed39 U.vm ∧ U.heap = h0) (fun _ _ _ _ _ => True) (fun _ U o U' => ∃ v L, o = .returned v ∧ Qlfa Z sa y0 y1 y2 ks h0 n0 v U'.heap L ∧ FrameEnd U o U' L ({ frames := 5, cells := 2, slots := 5, locals := 63 } : Room).cells ({ frames := 5, cells := 2, slots := 5, locals := 63 } : Room).slots) := by
  refine MetFree.of_bodySF (plainFor_of_name pn_java_util_ImmutableCollections) hisR ?_
  intro p e s m args below meth c s₁ Bd hml0 hP hK
  obtain ⟨rfl, hZ, hh⟩ := hP
  have hx := Bd.exec
  have hby := Bd.bytes
  have hml : c.maxLocals = 3 := hml0
  have hown : s.vm.findClass "java/util/ImmutableCollections" = some m.cls := findClass_of_methodNamed Bd.named
  have hnm := (name_of_methodNamed Bd.named Bd.method).1
  have X0 : Stand p l e ({ frames := 5, cells := 2, slots := 5, locals := 63 } : Room) s m #[(.ref sa)] below meth c s₁ [] 0 0 := Stand.of_body Bd
  have e0 : s₁.heap = h0 := by rw [← hh, Bd.state]; rfl
  have N0 := Fr.nil n0
  have Z0 := own_z0 O0
  have pre0 : ∀ tg_, Steps p.tables e below (s₁.setTop (mkF m 0 #[.val (.ref sa), .unset, .unset] [])) tg_ → Steps p.tables e below (s₁.setTop (entryFrame m #[(.ref sa)] 3)) tg_ := fun tg_ kt_ => castTop (ef_lfa m sa) kt_
  obtain ⟨cl1, Ar1, -, S1, Ng1, -, -⟩ := id hp0
  obtain ⟨T2, h2, k2, X2, e2, E2, A2, Ex2, Ov2, st2⟩ := newRE X0 hx hZ hown (hw _ w_322) (hw _ w_107) e0 (g := (mkF m 2 #[.val (.ref sa), .unset, .unset] [(.int (3 : Int32))])) rfl (hb hby d46_2) rfl (by decide) (cap := 3) (by decide) (by decide) (by decide) (by decide) (ad := "[Ljava/lang/Object;") (by decide)
  obtain ⟨b2, g2⟩ : ∃ z, z = h0.size := ⟨_, rfl⟩
  rw [← g2] at A2 Ex2 st2
  have sz2 : h0.size ≤ b2 := Nat.le_trans (Keep.refl h0 []).1 (Nat.le_of_eq g2.symm)
  have gn2 : n0 ≤ b2 := Nat.le_trans Z0 sz2
  have O2 : Old Z n0 h2 := O0.ext E2
  have K2 : Keep h0 h2 [] := (Keep.refl h0 []).ext E2
  have V2 : Arv Z h2 b2 k2 (.object "java/lang/Object") (3 : Int32) [.null, .null, .null] .null := (Arv.new A2 (by decide)).pad (pad_rep [] .null 3)
  obtain ⟨cl4, Ar4, -, S4, Ng4, -, -⟩ := id (hp0.ext E2)
  obtain ⟨cl5, Ar5, -, S5, Ng5, H5, G5⟩ := id (hp0.ext E2)
  have hin5 : ¬ ((0 : Int32) < 0 ∨ cl5.slots.size ≤ ((0 : Int32)).toNatClampNeg) := inb_of S5 ⟨by decide, by decide⟩
  have hat5 : cl5.slots[((0 : Int32)).toNatClampNeg]? = some (.ref y0) := H5.at hin5 rfl
  obtain ⟨_, _, ⟨T6, L6, k6, n6⟩, -, X6, ⟨Lc6, hQ6, l6, y6, z6⟩, st6⟩ := Jvm.LawKit.callS X2 hx (y := mN24) hown (mvT hZ (hw _ w_323)) (mvT hZ (hw _ w_275)) (mvT hZ (hw _ w_126)) (mvT hZ (hw _ w_276)) (by decide) (backOf (W := 2) (rmrnn l Z a0 hw [] y0 h2 n0 O2 ) hZ (hw _ w_276) (hw _ w_126) (by decide) (by decide)) (g := (mkF m 19 #[.val (.ref sa), .val (.ref b2), .val (.int (0 : Int32))] [(.ref y0), (.int (0 : Int32)), (.ref b2)])) rfl (by rw [hml]; rfl) (argsL := [(.ref y0)]) (rest := [(.int (0 : Int32)), (.ref b2)]) (lenOf pd__Ljava_lang_Object__Ljava_lang_Object_ rfl) rfl (by show 2 * 0 + _ ≤ _; exact Nat.le_of_eq rfl) (hb hby d46_19) (fun _ _ => ⟨rfl, e2, (by decide : 1 + 0 ≤ _), (by decide : 3 + 0 ≤ _)⟩)
  dsimp only [Pt.U, Pt.locs, Pt.cells, Pt.slots] at X6 l6 y6 z6 st6 hQ6
  subst l6 y6 z6
  obtain ⟨rfl, N6q, eh6⟩ := hQ6
  have N6 := Fr.app N0 N6q
  obtain ⟨cl7, Ar7, q7, S7, Ng7, H7, G7⟩ := id V2
  have hin7 : ¬ ((0 : Int32) < 0 ∨ cl7.slots.size ≤ ((0 : Int32)).toNatClampNeg) := inb_of S7 ⟨by decide, by decide⟩
  obtain ⟨T7, h7, X7, e7, W7, st7⟩ := stR X6 hx hZ eh6 Ar7 (j := (0 : Int32)) hin7 rfl (Sto.of Ar7 (by rw [q7]; exact Ov2) (hp1.ext E2)) (g := (mkF m 22 #[.val (.ref sa), .val (.ref b2), .val (.int (0 : Int32))] [(.ref y0), (.int (0 : Int32)), (.ref b2)])) rfl rfl (hb hby d46_22)
  have V7 : Arv Z h7 b2 k2 (.object "java/lang/Object") (3 : Int32) [(.ref y0), .null, .null] .null := Arv.set Ar7 q7 S7 Ng7 H7 G7 rfl W7 0 rfl (Nat.le_of_ble_eq_true rfl)
  have N7 := Fr.snoc X7 N6 gn2
  have O7 : Old Z n0 h7 := O2.wr W7 gn2
  have K7 : Keep h0 h7 [] := K2.wr W7 (Or.inr sz2)
  obtain ⟨cl8, Ar8, -, S8, Ng8, -, -⟩ := id ((hp0.ext E2).other W7 (Nat.ne_of_lt (Nat.lt_of_lt_of_le hp0.lt (Nat.le_of_eq g2.symm))))
  obtain ⟨cl9, Ar9, -, S9, Ng9, H9, G9⟩ := id ((hp0.ext E2).other W7 (Nat.ne_of_lt (Nat.lt_of_lt_of_le hp0.lt (Nat.le_of_eq g2.symm))))
  have hin9 : ¬ ((1 : Int32) < 0 ∨ cl9.slots.size ≤ ((1 : Int32)).toNatClampNeg) := inb_of S9 ⟨by decide, by decide⟩
  have hat9 : cl9.slots[((1 : Int32)).toNatClampNeg]? = some (.ref y1) := H9.at hin9 rfl
  obtain ⟨_, _, ⟨T10, L10, k10, n10⟩, -, X10, ⟨Lc10, hQ10, l10, y10, z10⟩, st10⟩ := Jvm.LawKit.callS X7 hx (y := mN24) hown (mvT hZ (hw _ w_323)) (mvT hZ (hw _ w_275)) (mvT hZ (hw _ w_126)) (mvT hZ (hw _ w_276)) (by decide) (backOf (W := 2) (rmrnn l Z a0 hw [] y1 h7 n0 O7 ) hZ (hw _ w_276) (hw _ w_126) (by decide) (by decide)) (g := (mkF m 19 #[.val (.ref sa), .val (.ref b2), .val (.int (1 : Int32))] [(.ref y1), (.int (1 : Int32)), (.ref b2)])) rfl (by rw [hml]; rfl) (argsL := [(.ref y1)]) (rest := [(.int (1 : Int32)), (.ref b2)]) (lenOf pd__Ljava_lang_Object__Ljava_lang_Object_ rfl) rfl (by show 2 * 0 + _ ≤ _; exact Nat.le_of_eq rfl) (hb hby d46_19) (fun _ _ => ⟨rfl, e7, (by decide : 1 + 0 ≤ _), (by decide : 3 + 0 ≤ _)⟩)
  dsimp only [Pt.U, Pt.locs, Pt.cells, Pt.slots] at X10 l10 y10 z10 st10 hQ10
  subst l10 y10 z10
  obtain ⟨rfl, N10q, eh10⟩ := hQ10
  have N10 := Fr.app N7 N10q
  obtain ⟨cl11, Ar11, q11, S11, Ng11, H11, G11⟩ := id V7
  have hin11 : ¬ ((1 : Int32) < 0 ∨ cl11.slots.size ≤ ((1 : Int32)).toNatClampNeg) := inb_of S11 ⟨by decide, by decide⟩
  obtain ⟨T11, h11, X11, e11, W11, st11⟩ := stR X10 hx hZ eh10 Ar11 (j := (1 : Int32)) hin11 rfl (Sto.of Ar11 (by rw [q11]; exact Ov2) ((hp2.ext E2).wr W7)) (g := (mkF m 22 #[.val (.ref sa), .val (.ref b2), .val (.int (1 : Int32))] [(.ref y1), (.int (1 : Int32)), (.ref b2)])) rfl rfl (hb hby d46_22)
  have V11 : Arv Z h11 b2 k2 (.object "java/lang/Object") (3 : Int32) [(.ref y0), (.ref y1), .null] .null := Arv.set Ar11 q11 S11 Ng11 H11 G11 rfl W11 1 rfl (Nat.le_of_ble_eq_true rfl)
  have N11 := Fr.snoc X11 N10 gn2
  have O11 : Old Z n0 h11 := O7.wr W11 gn2
  have K11 : Keep h0 h11 [] := K7.wr W11 (Or.inr sz2)
  obtain ⟨cl12, Ar12, -, S12, Ng12, -, -⟩ := id (((hp0.ext E2).other W7 (Nat.ne_of_lt (Nat.lt_of_lt_of_le hp0.lt (Nat.le_of_eq g2.symm)))).other W11 (Nat.ne_of_lt (Nat.lt_of_lt_of_le hp0.lt (Nat.le_of_eq g2.symm))))
  obtain ⟨cl13, Ar13, -, S13, Ng13, H13, G13⟩ := id (((hp0.ext E2).other W7 (Nat.ne_of_lt (Nat.lt_of_lt_of_le hp0.lt (Nat.le_of_eq g2.symm)))).other W11 (Nat.ne_of_lt (Nat.lt_of_lt_of_le hp0.lt (Nat.le_of_eq g2.symm))))
  have hin13 : ¬ ((2 : Int32) < 0 ∨ cl13.slots.size ≤ ((2 : Int32)).toNatClampNeg) := inb_of S13 ⟨by decide, by decide⟩
  have hat13 : cl13.slots[((2 : Int32)).toNatClampNeg]? = some (.ref y2) := H13.at hin13 rfl
  obtain ⟨_, _, ⟨T14, L14, k14, n14⟩, -, X14, ⟨Lc14, hQ14, l14, y14, z14⟩, st14⟩ := Jvm.LawKit.callS X11 hx (y := mN24) hown (mvT hZ (hw _ w_323)) (mvT hZ (hw _ w_275)) (mvT hZ (hw _ w_126)) (mvT hZ (hw _ w_276)) (by decide) (backOf (W := 2) (rmrnn l Z a0 hw [] y2 h11 n0 O11 ) hZ (hw _ w_276) (hw _ w_126) (by decide) (by decide)) (g := (mkF m 19 #[.val (.ref sa), .val (.ref b2), .val (.int (2 : Int32))] [(.ref y2), (.int (2 : Int32)), (.ref b2)])) rfl (by rw [hml]; rfl) (argsL := [(.ref y2)]) (rest := [(.int (2 : Int32)), (.ref b2)]) (lenOf pd__Ljava_lang_Object__Ljava_lang_Object_ rfl) rfl (by show 2 * 0 + _ ≤ _; exact Nat.le_of_eq rfl) (hb hby d46_19) (fun _ _ => ⟨rfl, e11, (by decide : 1 + 0 ≤ _), (by decide : 3 + 0 ≤ _)⟩)
  dsimp only [Pt.U, Pt.locs, Pt.cells, Pt.slots] at X14 l14 y14 z14 st14 hQ14
  subst l14 y14 z14
  obtain ⟨rfl, N14q, eh14⟩ := hQ14
  have N14 := Fr.app N11 N14q
  obtain ⟨cl15, Ar15, q15, S15, Ng15, H15, G15⟩ := id V11
  have hin15 : ¬ ((2 : Int32) < 0 ∨ cl15.slots.size ≤ ((2 : Int32)).toNatClampNeg) := inb_of S15 ⟨by decide, by decide⟩
  obtain ⟨T15, h15, X15, e15, W15, st15⟩ := stR X14 hx hZ eh14 Ar15 (j := (2 : Int32)) hin15 rfl (Sto.of Ar15 (by rw [q15]; exact Ov2) (((hp3.ext E2).wr W7).wr W11)) (g := (mkF m 22 #[.val (.ref sa), .val (.ref b2), .val (.int (2 : Int32))] [(.ref y2), (.int (2 : Int32)), (.ref b2)])) rfl rfl (hb hby d46_22)
  have V15 : Arv Z h15 b2 k2 (.object "java/lang/Object") (3 : Int32) [(.ref y0), (.ref y1), (.ref y2)] .null := Arv.set Ar15 q15 S15 Ng15 H15 G15 rfl W15 2 rfl (Nat.le_of_ble_eq_true rfl)
  have N15 := Fr.snoc X15 N14 gn2
  have O15 : Old Z n0 h15 := O11.wr W15 gn2
  have K15 : Keep h0 h15 [] := K11.wr W15 (Or.inr sz2)
  obtain ⟨cl16, Ar16, -, S16, Ng16, -, -⟩ := id ((((hp0.ext E2).other W7 (Nat.ne_of_lt (Nat.lt_of_lt_of_le hp0.lt (Nat.le_of_eq g2.symm)))).other W11 (Nat.ne_of_lt (Nat.lt_of_lt_of_le hp0.lt (Nat.le_of_eq g2.symm)))).other W15 (Nat.ne_of_lt (Nat.lt_of_lt_of_le hp0.lt (Nat.le_of_eq g2.symm))))
  obtain ⟨T17, h17, X17, e17, E17, A17, D17, U17, st17⟩ := newO X15 hx hZ hown (hw _ w_210) (hw _ w_324) (hw _ w_325) e15 (g := (mkF m 29 #[.val (.ref sa), .val (.ref b2), .val (.int (3 : Int32))] [])) rfl (hb hby d46_29) (by decide) (by decide)
  obtain ⟨b17, g17⟩ : ∃ z, z = h15.size := ⟨_, rfl⟩
  rw [← g17] at A17 D17 U17 st17
  have Un17 : Unt h17 b17 := U17
  have sz17 : h0.size ≤ b17 := Nat.le_trans K15.1 (Nat.le_of_eq g17.symm)
  have gn17 : n0 ≤ b17 := Nat.le_trans Z0 sz17
  have O17 : Old Z n0 h17 := O15.ext E17
  have K17 : Keep h0 h17 [] := K15.ext E17
  have F17_335 : Fld Z h17 b17 "java/util/ImmutableCollections$ListN" "elements" "[Ljava/lang/Object;" .null := D17 (Or.inr (hw _ w_335)) (ty := (.array (.object "java/lang/Object"))) (by decide)
  have F17_337 : Fld Z h17 b17 "java/util/ImmutableCollections$ListN" "allowNulls" "Z" (.int (0 : Int32)) := D17 (Or.inr (hw _ w_337)) (ty := .boolean) (by decide)
  obtain ⟨_, _, ⟨T19, L19, k19, n19⟩, -, X19, ⟨Lc19, hQ19, l19, y19, z19⟩, st19⟩ := X17.specialBackNest hx (y := mN30) rfl hown (own_mvM hZ (hw _ w_326)) (mvT hZ (hw _ w_327)) (mvT hZ (hw _ w_329)) (by decide) (backOf (W := 1) (rmlnInit l Z a0 hw [] b17 b2 .null (.int (0 : Int32)) h17 n0 O17 A17 gn17 F17_335 F17_337) hZ (hw _ w_329) (hw _ w_325) (by decide) (by decide)) (g := (mkF m 35 #[.val (.ref sa), .val (.ref b2), .val (.int (3 : Int32))] [(.int (0 : Int32)), (.ref b2), (.ref b17), (.ref b17)])) rfl (by rw [hml]; rfl) (Steps.refl _) (a := b17) (argsL := [(.ref b2), (.int (0 : Int32))]) (rest := [(.ref b17)]) (lenOf pd__ALjava_lang_Object_Z_V rfl) rfl (by show 2 * 0 + _ ≤ _; exact Nat.le_of_eq rfl) (hb hby d46_35) (fun _ _ => ⟨rfl, e17, (by decide : 2 + 0 ≤ _), (by decide : 5 + 0 ≤ _)⟩)
  dsimp only [Pt.U, Pt.locs, Pt.cells, Pt.slots] at X19 l19 y19 z19 st19 hQ19
  subst l19 y19 z19
  obtain ⟨rfl, N19q, Kc19, r19_1, r19_2⟩ := hQ19
  have N19 := Fr.app N15 N19q
  have O19 : Old Z n0 T19.heap := O17.keep Kc19 (allS gn17 all0)
  have K19 : Keep h0 T19.heap [] := K17.trans Kc19 (allS (Or.inr sz17) all0)
  obtain ⟨fs, hr, hrun, hended, hW, hsame⟩ := X19.leave (v := some (.ref b17)) (fun h => by rw [Bd.returns] at h; cases h)
  refine ⟨_, _, pre0 _ ?_, hrun, hended, _, _, rfl, ?_, ⟨_, rfl⟩, hW, hsame.mono (by decide) (by decide)⟩
  · refine XS.aloadN X0.here hx rfl (hb hby d46_0) rfl rfl ?_
    show Steps p.tables e below (s₁.setTop (mkF m 1 #[.val (.ref sa), .unset, .unset] [(.ref sa)])) _
    refine X0.arraylength hx (by rw [e0]; exact Ar1.1) (State.isArrayOf_alike hZ.alike Ar1.2.1) (g := (mkF m 1 #[.val (.ref sa), .unset, .unset] [(.ref sa)])) rfl rfl (hb hby d46_1) _ ?_
    rw [len_of S1 Ng1]
    show Steps p.tables e below (s₁.setTop (mkF m 2 #[.val (.ref sa), .unset, .unset] [(.int (3 : Int32))])) _
    refine st2 _ ?_
    refine XS.astoreN X2.here hx rfl (hb hby d46_5) rfl rfl (l' := #[.val (.ref sa), .val (.ref b2), .unset]) rfl ?_
    refine XS.iconst X2.here hx rfl (hb hby d46_6) ?_
    refine XS.istoreN X2.here hx rfl (hb hby d46_7) rfl (l' := #[.val (.ref sa), .val (.ref b2), .val (.int (0 : Int32))]) rfl ?_
    show Steps p.tables e below (T2.setTop (mkF m 8 #[.val (.ref sa), .val (.ref b2), .val (.int (0 : Int32))] [])) _
    refine XS.iloadN X2.here hx rfl (hb hby d46_8) rfl ?_
    refine XS.aloadN X2.here hx rfl (hb hby d46_9) rfl rfl ?_
    show Steps p.tables e below (T2.setTop (mkF m 10 #[.val (.ref sa), .val (.ref b2), .val (.int (0 : Int32))] [(.ref sa), (.int (0 : Int32))])) _
    refine X2.arraylength hx (by rw [e2]; exact Ar4.1) (State.isArrayOf_alike hZ.alike Ar4.2.1) (g := (mkF m 10 #[.val (.ref sa), .val (.ref b2), .val (.int (0 : Int32))] [(.ref sa), (.int (0 : Int32))])) rfl rfl (hb hby d46_10) _ ?_
    rw [len_of S4 Ng4]
    refine XS.icmpNo X2.here hx rfl (hb hby d46_11) rfl (tlt (by decide : (0 : Int32) < (3 : Int32))).2.1 ?_
    refine XS.aloadN X2.here hx rfl (hb hby d46_14) rfl rfl ?_
    refine XS.iloadN X2.here hx rfl (hb hby d46_15) rfl ?_
    show Steps p.tables e below (T2.setTop (mkF m 16 #[.val (.ref sa), .val (.ref b2), .val (.int (0 : Int32))] [(.int (0 : Int32)), (.ref b2)])) _
    refine XS.aloadN X2.here hx rfl (hb hby d46_16) rfl rfl ?_
    refine XS.iloadN X2.here hx rfl (hb hby d46_17) rfl ?_
    refine X2.aaload hx (j := (0 : Int32)) (v := (.ref y0)) (by rw [e2]; exact Ar5.1) (State.isArrayOf_alike hZ.alike Ar5.2.1) rfl Ar5.2.2 hin5 hat5 (g := (mkF m 18 #[.val (.ref sa), .val (.ref b2), .val (.int (0 : Int32))] [(.int (0 : Int32)), (.ref sa), (.int (0 : Int32)), (.ref b2)])) rfl rfl (hb hby d46_18) _ ?_
    show Steps p.tables e below (T2.setTop (mkF m 19 #[.val (.ref sa), .val (.ref b2), .val (.int (0 : Int32))] [(.ref y0), (.int (0 : Int32)), (.ref b2)])) _
    refine st6 _ ?_
    show Steps p.tables e below (T6.setTop (mkF m 22 #[.val (.ref sa), .val (.ref b2), .val (.int (0 : Int32))] [(.ref y0), (.int (0 : Int32)), (.ref b2)])) _
    refine st7 _ ?_
    refine XS.iinc X7.here hx rfl (hb hby d46_23) rfl (l' := #[.val (.ref sa), .val (.ref b2), .val (.int (1 : Int32))]) rfl ?_
    refine XS.goto X7.here hx rfl (pc0 := 26) (pc' := 8) rfl (hb hby d46_26) (by decide) (by decide) ?_
    refine XS.iloadN X7.here hx rfl (hb hby d46_8) rfl ?_
    show Steps p.tables e below (T7.setTop (mkF m 9 #[.val (.ref sa), .val (.ref b2), .val (.int (1 : Int32))] [(.int (1 : Int32))])) _
    refine XS.aloadN X7.here hx rfl (hb hby d46_9) rfl rfl ?_
    show Steps p.tables e below (T7.setTop (mkF m 10 #[.val (.ref sa), .val (.ref b2), .val (.int (1 : Int32))] [(.ref sa), (.int (1 : Int32))])) _
    refine X7.arraylength hx (by rw [e7]; exact Ar8.1) (State.isArrayOf_alike hZ.alike Ar8.2.1) (g := (mkF m 10 #[.val (.ref sa), .val (.ref b2), .val (.int (1 : Int32))] [(.ref sa), (.int (1 : Int32))])) rfl rfl (hb hby d46_10) _ ?_
    rw [len_of S8 Ng8]
    refine XS.icmpNo X7.here hx rfl (hb hby d46_11) rfl (tlt (by decide : (1 : Int32) < (3 : Int32))).2.1 ?_
    refine XS.aloadN X7.here hx rfl (hb hby d46_14) rfl rfl ?_
    refine XS.iloadN X7.here hx rfl (hb hby d46_15) rfl ?_
    show Steps p.tables e below (T7.setTop (mkF m 16 #[.val (.ref sa), .val (.ref b2), .val (.int (1 : Int32))] [(.int (1 : Int32)), (.ref b2)])) _
    refine XS.aloadN X7.here hx rfl (hb hby d46_16) rfl rfl ?_
    refine XS.iloadN X7.here hx rfl (hb hby d46_17) rfl ?_
    refine X7.aaload hx (j := (1 : Int32)) (v := (.ref y1)) (by rw [e7]; exact Ar9.1) (State.isArrayOf_alike hZ.alike Ar9.2.1) rfl Ar9.2.2 hin9 hat9 (g := (mkF m 18 #[.val (.ref sa), .val (.ref b2), .val (.int (1 : Int32))] [(.int (1 : Int32)), (.ref sa), (.int (1 : Int32)), (.ref b2)])) rfl rfl (hb hby d46_18) _ ?_
    show Steps p.tables e below (T7.setTop (mkF m 19 #[.val (.ref sa), .val (.ref b2), .val (.int (1 : Int32))] [(.ref y1), (.int (1 : Int32)), (.ref b2)])) _
    refine st10 _ ?_
    show Steps p.tables e below (T10.setTop (mkF m 22 #[.val (.ref sa), .val (.ref b2), .val (.int (1 : Int32))] [(.ref y1), (.int (1 : Int32)), (.ref b2)])) _
    refine st11 _ ?_
    refine XS.iinc X11.here hx rfl (hb hby d46_23) rfl (l' := #[.val (.ref sa), .val (.ref b2), .val (.int (2 : Int32))]) rfl ?_
    refine XS.goto X11.here hx rfl (pc0 := 26) (pc' := 8) rfl (hb hby d46_26) (by decide) (by decide) ?_
    refine XS.iloadN X11.here hx rfl (hb hby d46_8) rfl ?_
    show Steps p.tables e below (T11.setTop (mkF m 9 #[.val (.ref sa), .val (.ref b2), .val (.int (2 : Int32))] [(.int (2 : Int32))])) _
    refine XS.aloadN X11.here hx rfl (hb hby d46_9) rfl rfl ?_
    show Steps p.tables e below (T11.setTop (mkF m 10 #[.val (.ref sa), .val (.ref b2), .val (.int (2 : Int32))] [(.ref sa), (.int (2 : Int32))])) _
    refine X11.arraylength hx (by rw [e11]; exact Ar12.1) (State.isArrayOf_alike hZ.alike Ar12.2.1) (g := (mkF m 10 #[.val (.ref sa), .val (.ref b2), .val (.int (2 : Int32))] [(.ref sa), (.int (2 : Int32))])) rfl rfl (hb hby d46_10) _ ?_
    rw [len_of S12 Ng12]
    refine XS.icmpNo X11.here hx rfl (hb hby d46_11) rfl (tlt (by decide : (2 : Int32) < (3 : Int32))).2.1 ?_
    refine XS.aloadN X11.here hx rfl (hb hby d46_14) rfl rfl ?_
    refine XS.iloadN X11.here hx rfl (hb hby d46_15) rfl ?_
    show Steps p.tables e below (T11.setTop (mkF m 16 #[.val (.ref sa), .val (.ref b2), .val (.int (2 : Int32))] [(.int (2 : Int32)), (.ref b2)])) _
    refine XS.aloadN X11.here hx rfl (hb hby d46_16) rfl rfl ?_
    refine XS.iloadN X11.here hx rfl (hb hby d46_17) rfl ?_
    refine X11.aaload hx (j := (2 : Int32)) (v := (.ref y2)) (by rw [e11]; exact Ar13.1) (State.isArrayOf_alike hZ.alike Ar13.2.1) rfl Ar13.2.2 hin13 hat13 (g := (mkF m 18 #[.val (.ref sa), .val (.ref b2), .val (.int (2 : Int32))] [(.int (2 : Int32)), (.ref sa), (.int (2 : Int32)), (.ref b2)])) rfl rfl (hb hby d46_18) _ ?_
    show Steps p.tables e below (T11.setTop (mkF m 19 #[.val (.ref sa), .val (.ref b2), .val (.int (2 : Int32))] [(.ref y2), (.int (2 : Int32)), (.ref b2)])) _
    refine st14 _ ?_
    show Steps p.tables e below (T14.setTop (mkF m 22 #[.val (.ref sa), .val (.ref b2), .val (.int (2 : Int32))] [(.ref y2), (.int (2 : Int32)), (.ref b2)])) _
    refine st15 _ ?_
    refine XS.iinc X15.here hx rfl (hb hby d46_23) rfl (l' := #[.val (.ref sa), .val (.ref b2), .val (.int (3 : Int32))]) rfl ?_
    refine XS.goto X15.here hx rfl (pc0 := 26) (pc' := 8) rfl (hb hby d46_26) (by decide) (by decide) ?_
    refine XS.iloadN X15.here hx rfl (hb hby d46_8) rfl ?_
    show Steps p.tables e below (T15.setTop (mkF m 9 #[.val (.ref sa), .val (.ref b2), .val (.int (3 : Int32))] [(.int (3 : Int32))])) _
    refine XS.aloadN X15.here hx rfl (hb hby d46_9) rfl rfl ?_
    show Steps p.tables e below (T15.setTop (mkF m 10 #[.val (.ref sa), .val (.ref b2), .val (.int (3 : Int32))] [(.ref sa), (.int (3 : Int32))])) _
    refine X15.arraylength hx (by rw [e15]; exact Ar16.1) (State.isArrayOf_alike hZ.alike Ar16.2.1) (g := (mkF m 10 #[.val (.ref sa), .val (.ref b2), .val (.int (3 : Int32))] [(.ref sa), (.int (3 : Int32))])) rfl rfl (hb hby d46_10) _ ?_
    rw [len_of S16 Ng16]
    refine XS.icmpYes X15.here hx rfl (pc0 := 11) (pc' := 29) rfl (hb hby d46_11) rfl (flt (by decide : ¬ ((3 : Int32) < (3 : Int32)))).2.1 (by decide) (by decide) ?_
    show Steps p.tables e below (T15.setTop (mkF m 29 #[.val (.ref sa), .val (.ref b2), .val (.int (3 : Int32))] [])) _
    refine st17 _ ?_
    refine XS.dup X17.here hx rfl (hb hby d46_32) rfl rfl ?_
    refine XS.aloadN X17.here hx rfl (hb hby d46_33) rfl rfl ?_
    refine XS.iconst X17.here hx rfl (hb hby d46_34) ?_
    show Steps p.tables e below (T17.setTop (mkF m 35 #[.val (.ref sa), .val (.ref b2), .val (.int (3 : Int32))] [(.int (0 : Int32)), (.ref b2), (.ref b17), (.ref b17)])) _
    refine st19.trans ?_
    show Steps p.tables e below (T19.setTop (mkF m 38 #[.val (.ref sa), .val (.ref b2), .val (.int (3 : Int32))] [(.ref b17)])) _
    jvm_step X19.here [X19.here.top, hx, (hb hby d46_38), X19.method', Bd.returns, Value.isRef, FieldType.isReference]
    first | (intro acts; rw [hr _ acts rfl rfl rfl]) | rw [hr _ _ rfl rfl rfl]
    exact Steps.refl _
  · show Qlfa Z sa y0 y1 y2 ks h0 n0 _ T19.heap _
    exact ⟨b17, b2, k2, rfl, N19, K19, sz17, r19_1, r19_2, ((V15.ext E17).keep Kc19 (ninS (Nat.ne_of_lt (Nat.lt_of_lt_of_le (((Ex2.wr W7).wr W11).wr W15).lt (Nat.le_of_eq g17.symm))) nin0))⟩
theorem d35_59 : decode jdk_40_method_47_code 59 = .ok (.aload_n 0, 1) := by decide +kernel
theorem w_319 : (Jvm.Cond.methodLink "java/util/List" (109 : Nat) ({ cls := "java/util/ImmutableCollections", name := "listFromArray", desc := "([Ljava/lang/Object;)Ljava/util/List;" } : Jvm.MethodName)) ∈ tables_1 := List.mem_of_getElem? (i := 319) (by decide +kernel)
theorem w_321 : (Jvm.Cond.code ({ cls := "java/util/ImmutableCollections", name := "listFromArray", desc := "([Ljava/lang/Object;)Ljava/util/List;" } : Jvm.MethodName) jdk_56_method_4_code (3 : Nat) (Option.some (Jvm.ClassFile.FieldType.object "java/util/List"))) ∈ tables_1 := List.mem_of_getElem? (i := 321) (by decide +kernel)
theorem d35_60 : decode jdk_40_method_47_code 60 = .ok (.invokestatic 109, 3) := by decide +kernel
theorem w_320 : (Jvm.Cond.static ({ cls := "java/util/ImmutableCollections", name := "listFromArray", desc := "([Ljava/lang/Object;)Ljava/util/List;" } : Jvm.MethodName)) ∈ tables_1 := List.mem_of_getElem? (i := 320) (by decide +kernel)
theorem d35_63 : decode jdk_40_method_47_code 63 = .ok (.areturn, 1) := by decide +kernel
theorem ef_listOf3 (m : MethodId) (x0 : Addr) : entryFrame m #[(.ref x0)] 2 = mkF m 0 #[.val (.ref x0), .unset] [] := by first | (simp [entryFrame, mkF, argsToLocals, Value.category]; done) | rfl
def QlistOf3 (Z : State) (sa : Addr) (y0 : Addr) (y1 : Addr) (y2 : Addr) (ks : ClassId) (h0 : Heap) (n0 : Nat) (v : Option Value) (h : Heap) (L : List Loc) : Prop := ∃ (r : Addr), ∃ (q : Addr), ∃ (kq : ClassId), v = some (.ref r) ∧ Fr n0 L ∧ Keep h0 h [] ∧ h0.size ≤ r ∧ Exa Z h r "java/util/ImmutableCollections$ListN" ∧ Fld Z h r "java/util/ImmutableCollections$ListN" "elements" "[Ljava/lang/Object;" (.ref q) ∧ Arv Z h q kq (.object "java/lang/Object") (3 : Int32) [(.ref y0), (.ref y1), (.ref y2)] .null
set_option maxRecDepth 65536 in
set_option maxHeartbeats 40000000 in
theorem rmlistOf3 (l : Launch) (Z : State) (a0 : Array Value) (hw : ∀ d ∈ tables_1, d.before a0 Z = true) (ws : List Jvm.Cond) (sa : Addr) (y0 : Addr) (y1 : Addr) (y2 : Addr) (ks : ClassId) (h0 : Heap) (n0 : Nat) (O0 : Old Z n0 h0) (hp0 : Arv Z h0 sa ks (.object "java/lang/Object") (3 : Int32) [(.ref y0), (.ref y1), (.ref y2)] .null) (hp1 : Ins Z h0 y0 "java/lang/Object" true) (hp2 : Ins Z h0 y1 "java/lang/Object" true) (hp3 : Ins Z h0 y2 "java/lang/Object" true) :
    MetFree l mN34 (head1 (Jvm.Cond.code mN34 jdk_40_method_47_code 2 (some (.object "java/util/List")) :: ws) ({ frames := 6, cells := 2, slots := 5, locals := 77 } : Room)) (fun as_ U => as_ = #[(.ref sa)] ∧ Z.Warmed39 U.vm ∧ U.heap = h0) (fun _ _ _ _ _ => True) (fun _ U o U' => ∃ v L, o = .returned v ∧ QlistOf3 Z sa y0 y1 y2 ks h0 n0 v U'.heap L ∧ FrameEnd U o U' L ({ frames := 6, cells := 2, slots := 5, locals := 77 } : Room).cells ({ frames := 6, cells := 2, slots := 5, locals := 77 } : Room).slots) := by
  refine MetFree.of_bodySF (plainFor_of_name pn_java_util_List) hisR ?_
  intro p e s m args below meth c s₁ Bd hml0 hP hK
  obtain ⟨rfl, hZ, hh⟩ := hP
  have hx := Bd.exec
  have hby := Bd.bytes
  have hml : c.maxLocals = 2 := hml0
  have hown : s.vm.findClass "java/util/List" = some m.cls := findClass_of_methodNamed Bd.named
  have hnm := (name_of_methodNamed Bd.named Bd.method).1
  have X0 : Stand p l e ({ frames := 6, cells := 2, slots := 5, locals := 77 } : Room) s m #[(.ref sa)] below meth c s₁ [] 0 0 := Stand.of_body Bd
  have e0 : s₁.heap = h0 := by rw [← hh, Bd.state]; rfl
  have N0 := Fr.nil n0
  have Z0 := own_z0 O0
  have pre0 : ∀ tg_, Steps p.tables e below (s₁.setTop (mkF m 0 #[.val (.ref sa), .unset] [])) tg_ → Steps p.tables e below (s₁.setTop (entryFrame m #[(.ref sa)] 2)) tg_ := fun tg_ kt_ => castTop (ef_listOf3 m sa) kt_
  obtain ⟨cl1, Ar1, -, S1, Ng1, -, -⟩ := id hp0
  obtain ⟨_, _, ⟨T2, L2, k2, n2⟩, -, X2, ⟨Lc2, hQ2, l2, y2, z2⟩, st2⟩ := Jvm.LawKit.callS X0 hx (y := mN39) hown (mvT hZ (hw _ w_319)) (mvT hZ (hw _ w_320)) (mvT hZ (hw _ w_203)) (mvT hZ (hw _ w_321)) (by decide) (backOf (W := 0) (rmlfa l Z a0 hw [] sa y0 y1 y2 ks h0 n0 O0 hp0 hp1 hp2 hp3) hZ (hw _ w_321) (hw _ w_203) (by decide) (by decide)) (g := (mkF m 60 #[.val (.ref sa), .unset] [(.ref sa)])) rfl (by rw [hml]; rfl) (argsL := [(.ref sa)]) (rest := []) (lenOf pd__ALjava_lang_Object__Ljava_util_List_ rfl) rfl (by show 2 * 0 + _ ≤ _; exact Nat.le_of_eq rfl) (hb hby d35_60) (fun _ _ => ⟨rfl, e0, (by decide : 0 + 2 ≤ _), (by decide : 0 + 5 ≤ _)⟩)
  dsimp only [Pt.U, Pt.locs, Pt.cells, Pt.slots] at X2 l2 y2 z2 st2 hQ2
  subst l2 y2 z2
  obtain ⟨r_2, q_2, kq_2, rfl, N2q, Kc2, r2_1, r2_2, r2_3, r2_4⟩ := hQ2
  have N2 := Fr.app N0 N2q
  have sz3 : h0.size ≤ r_2 := Nat.le_trans (Keep.refl h0 []).1 r2_1
  have gn3 : n0 ≤ r_2 := Nat.le_trans Z0 sz3
  have O2 : Old Z n0 T2.heap := O0.keep Kc2 all0
  have K2 : Keep h0 T2.heap [] := (Keep.refl h0 []).trans Kc2 all0
  obtain ⟨fs, hr, hrun, hended, hW, hsame⟩ := X2.leave (v := some (.ref r_2)) (fun h => by rw [Bd.returns] at h; cases h)
  refine ⟨_, _, pre0 _ ?_, hrun, hended, _, _, rfl, ?_, ⟨_, rfl⟩, hW, hsame.mono (by decide) (by decide)⟩
  · refine XS.aloadN X0.here hx rfl (hb hby d35_0) rfl rfl ?_
    show Steps p.tables e below (s₁.setTop (mkF m 1 #[.val (.ref sa), .unset] [(.ref sa)])) _
    refine X0.arraylength hx (by rw [e0]; exact Ar1.1) (State.isArrayOf_alike hZ.alike Ar1.2.1) (g := (mkF m 1 #[.val (.ref sa), .unset] [(.ref sa)])) rfl rfl (hb hby d35_1) _ ?_
    rw [len_of S1 Ng1]
    show Steps p.tables e below (s₁.setTop (mkF m 2 #[.val (.ref sa), .unset] [(.int (3 : Int32))])) _
    refine XS.tswOut X0.here hx rfl (pc0 := 2) (pc' := 59) rfl (hb hby d_listof_2) rfl (by decide) (by decide) (by decide) ?_
    refine XS.aloadN X0.here hx rfl (hb hby d35_59) rfl rfl ?_
    show Steps p.tables e below (s₁.setTop (mkF m 60 #[.val (.ref sa), .unset] [(.ref sa)])) _
    refine st2 _ ?_
    show Steps p.tables e below (T2.setTop (mkF m 63 #[.val (.ref sa), .unset] [(.ref r_2)])) _
    jvm_step X2.here [X2.here.top, hx, (hb hby d35_63), X2.method', Bd.returns, Value.isRef, FieldType.isReference]
    first | (intro acts; rw [hr _ acts rfl rfl rfl]) | rw [hr _ _ rfl rfl rfl]
    exact Steps.refl _
  · show QlistOf3 Z sa y0 y1 y2 ks h0 n0 _ T2.heap _
    exact ⟨r_2, q_2, kq_2, rfl, N2, K2, sz3, r2_2, r2_3, r2_4⟩
theorem ef_listCopy3 (m : MethodId) (x0 : Addr) : entryFrame m #[(.ref x0)] 2 = mkF m 0 #[.val (.ref x0), .unset] [] := by first | (simp [entryFrame, mkF, argsToLocals, Value.category]; done) | rfl
def QlistCopy3 (Z : State) (a : Addr) (y0 : Addr) (y1 : Addr) (y2 : Addr) (b : Addr) (kb : ClassId) (mr : Addr) (h0 : Heap) (n0 : Nat) (v : Option Value) (h : Heap) (L : List Loc) : Prop := ∃ (r : Addr), ∃ (q : Addr), ∃ (kq : ClassId), v = some (.ref r) ∧ Fr n0 L ∧ Keep h0 h [] ∧ h0.size ≤ r ∧ Exa Z h r "java/util/ImmutableCollections$ListN" ∧ Fld Z h r "java/util/ImmutableCollections$ListN" "elements" "[Ljava/lang/Object;" (.ref q) ∧ Arv Z h q kq (.object "java/lang/Object") (3 : Int32) [(.ref y0), (.ref y1), (.ref y2)] .null
set_option maxRecDepth 65536 in
set_option maxHeartbeats 40000000 in
theorem rmlistCopy3 (l : Launch) (Z : State) (a0 : Array Value) (hw : ∀ d ∈ tables_1, d.before a0 Z = true) (ws : List Jvm.Cond) (a : Addr) (y0 : Addr) (y1 : Addr) (y2 : Addr) (b : Addr) (kb : ClassId) (mr : Addr) (h0 : Heap) (n0 : Nat) (O0 : Old Z n0 h0) (hp0 : Exa Z h0 a "java/util/ArrayList") (hp1 : Fld Z h0 a "java/util/ArrayList" "elementData" "[Ljava/lang/Object;" (.ref b)) (hp2 : Fld Z h0 a "java/util/ArrayList" "size" "I" (.int (3 : Int32))) (hp3 : Arv Z h0 b kb (.object "java/lang/Object") (10 : Int32) [(.ref y0), (.ref y1), (.ref y2), .null, .null, .null, .null, .null, .null, .null] .null) (mro : (own_Mr Z "[Ljava/lang/Object;" mr)) (hp5 : Exa Z h0 b "[Ljava/lang/Object;") (hp6 : Ins Z h0 y0 "java/lang/Object" true) (hp7 : Ins Z h0 y1 "java/lang/Object" true) (hp8 : Ins Z h0 y2 "java/lang/Object" true) :
    MetFree l mN37 (head1 (Jvm.Cond.code mN37 jdk_56_method_3_code 2 (some (.object "java/util/List")) :: ws) ({ frames := 7, cells := 3, slots := 8, locals := 91 } : Room)) (fun as_ U => as_ = #[(.ref a)] ∧ Z.Warmed39 U.vm ∧ U.heap = h0) (fun _ _ _ _ _ => True) (fun _ U o U' => ∃ v L, o = .returned v ∧ QlistCopy3 Z a y0 y1 y2 b kb mr h0 n0 v U'.heap L ∧ FrameEnd U o U' L ({ frames := 7, cells := 3, slots := 8, locals := 91 } : Room).cells ({ frames := 7, cells := 3, slots := 8, locals := 91 } : Room).slots) := by
  refine MetFree.of_bodySF (plainFor_of_name pn_java_util_ImmutableCollections) hisR ?_
  intro p e s m args below meth c s₁ Bd hml0 hP hK
  obtain ⟨rfl, hZ, hh⟩ := hP
  have hx := Bd.exec
  have hby := Bd.bytes
  have hml : c.maxLocals = 2 := hml0
  have hown : s.vm.findClass "java/util/ImmutableCollections" = some m.cls := findClass_of_methodNamed Bd.named
  have hnm := (name_of_methodNamed Bd.named Bd.method).1
  have X0 : Stand p l e ({ frames := 7, cells := 3, slots := 8, locals := 91 } : Room) s m #[(.ref a)] below meth c s₁ [] 0 0 := Stand.of_body Bd
  have e0 : s₁.heap = h0 := by rw [← hh, Bd.state]; rfl
  have N0 := Fr.nil n0
  have Z0 := own_z0 O0
  have pre0 : ∀ tg_, Steps p.tables e below (s₁.setTop (mkF m 0 #[.val (.ref a), .unset] [])) tg_ → Steps p.tables e below (s₁.setTop (entryFrame m #[(.ref a)] 2)) tg_ := fun tg_ kt_ => castTop (ef_listCopy3 m a) kt_
  obtain ⟨T1, X1, e1, st1⟩ := instNo X0 hx hZ hown (hw _ w_205) e0 hp0 (own_nsNo (hw _ w_206) (hw _ w_254) (NS.step (hw _ w_206) (NS.step (hw _ w_207) (NS.step (hw _ w_208) (own_nsRoot (hw _ w_209) (hw _ w_254) (by decide)) (by decide)) (by decide)) (by decide)) (by decide)) (g := (mkF m 1 #[.val (.ref a), .unset] [(.ref a)])) rfl rfl (hb hby d29_1)
  obtain ⟨T2, X2, e2, st2⟩ := instNo X1 hx hZ hown (hw _ w_210) e1 hp0 (own_nsNo (hw _ w_206) (hw _ w_324) (NS.step (hw _ w_206) (NS.step (hw _ w_207) (NS.step (hw _ w_208) (own_nsRoot (hw _ w_209) (hw _ w_324) (by decide)) (by decide)) (by decide)) (by decide)) (by decide)) (g := (mkF m 8 #[.val (.ref a), .unset] [(.ref a)])) rfl rfl (hb hby d29_8)
  obtain ⟨cq3, kq3, q3a, q3b, q3c⟩ := isOf hZ e2 hp0
  obtain ⟨_, _, ⟨T3, L3, k3, n3⟩, -, X3, ⟨Lc3, hQ3, l3, y3, z3⟩, st3⟩ := X2.interfaceBack hx (xi := mN35) (y := mN25) hown (mvT hZ (hw _ w_211)) (mvT hZ (hw _ w_212)) (mvT hZ (hw _ w_213)) (mvT hZ (hw _ w_214)) (mvT hZ (hw _ w_215)) (mvT hZ (hw _ w_216)) (mvT hZ (hw _ w_217)) (mvT hZ (hw _ w_218)) (by decide) (backOf (W := 0) (rmalEmpty l Z a0 hw [] a (3 : Int32) h0 n0 O0 hp2 (by decide)) hZ (hw _ w_219) (hw _ w_56) (by decide) (by decide)) q3a q3b q3c (g := (mkF m 32 #[.val (.ref a), .unset] [(.ref a)])) rfl (by rw [hml]; rfl) (Steps.refl _) (argsL := []) (rest := []) (lenOf pd___Z rfl) rfl (by show 2 * 0 + _ ≤ _; exact Nat.le_of_eq rfl) (hb hby d29_32) (fun _ _ => ⟨rfl, e2, (by decide : 0 + 0 ≤ _), (by decide : 0 + 0 ≤ _)⟩)
  dsimp only [Pt.U, Pt.locs, Pt.cells, Pt.slots] at X3 l3 y3 z3 st3 hQ3
  subst l3 y3 z3
  obtain ⟨rfl, N3q, eh3⟩ := hQ3
  have N3 := Fr.app N0 N3q
  obtain ⟨cq4, kq4, q4a, q4b, q4c⟩ := isOf hZ eh3 hp0
  obtain ⟨_, _, ⟨T4, L4, k4, n4⟩, -, X4, ⟨Lc4, hQ4, l4, y4, z4⟩, st4⟩ := X3.interfaceBack hx (xi := mN36) (y := mN33) hown (mvT hZ (hw _ w_220)) (mvT hZ (hw _ w_221)) (mvT hZ (hw _ w_222)) (mvT hZ (hw _ w_223)) (mvT hZ (hw _ w_224)) (mvT hZ (hw _ w_225)) (mvT hZ (hw _ w_226)) (mvT hZ (hw _ w_218)) (by decide) (backOf (W := 0) (rmtoArr3 l Z a0 hw [] a y0 y1 y2 b kb mr h0 n0 O0 hp0 hp1 hp2 hp3 mro hp5 hp6 hp7 hp8) hZ (hw _ w_227) (hw _ w_56) (by decide) (by decide)) q4a q4b q4c (g := (mkF m 45 #[.val (.ref a), .unset] [(.ref a)])) rfl (by rw [hml]; rfl) (Steps.refl _) (argsL := []) (rest := []) (lenOf pd___ALjava_lang_Object_ rfl) rfl (by show 2 * 0 + _ ≤ _; exact Nat.le_of_eq rfl) (hb hby d29_45) (fun _ _ => ⟨rfl, eh3, (by decide : 0 + 1 ≤ _), (by decide : 0 + 3 ≤ _)⟩)
  dsimp only [Pt.U, Pt.locs, Pt.cells, Pt.slots] at X4 l4 y4 z4 st4 hQ4
  subst l4 y4 z4
  obtain ⟨r_4, kr_4, rfl, N4q, Kc4, r4_1, r4_2, r4_3, r4_4⟩ := hQ4
  have N4 := Fr.app N3 N4q
  have sz5 : h0.size ≤ r_4 := Nat.le_trans (Keep.refl h0 []).1 r4_1
  have gn5 : n0 ≤ r_4 := Nat.le_trans Z0 sz5
  have O4 : Old Z n0 T4.heap := O0.keep Kc4 all0
  have K4 : Keep h0 T4.heap [] := (Keep.refl h0 []).trans Kc4 all0
  obtain ⟨_, _, ⟨T7, L7, k7, n7⟩, -, X7, ⟨Lc7, hQ7, l7, y7, z7⟩, st7⟩ := Jvm.LawKit.callS X4 hx (y := mN34) hown (mvT hZ (hw _ w_250)) (mvT hZ (hw _ w_251)) (mvT hZ (hw _ w_199)) (mvT hZ (hw _ w_252)) (by decide) (backOf (W := 0) (rmlistOf3 l Z a0 hw [] r_4 y0 y1 y2 kr_4 T4.heap n0 O4 r4_2 (own_insKeep hp6 Kc4) (own_insKeep hp7 Kc4) (own_insKeep hp8 Kc4)) hZ (hw _ w_252) (hw _ w_199) (by decide) (by decide)) (g := (mkF m 50 #[.val (.ref a), .unset] [(.ref r_4)])) rfl (by rw [hml]; rfl) (argsL := [(.ref r_4)]) (rest := []) (lenOf pd__ALjava_lang_Object__Ljava_util_List_ rfl) rfl (by show 2 * 0 + _ ≤ _; exact Nat.le_of_eq rfl) (hb hby d29_50) (fun _ _ => ⟨rfl, rfl, (by decide : 1 + 2 ≤ _), (by decide : 3 + 5 ≤ _)⟩)
  dsimp only [Pt.U, Pt.locs, Pt.cells, Pt.slots] at X7 l7 y7 z7 st7 hQ7
  subst l7 y7 z7
  obtain ⟨r_7, q_7, kq_7, rfl, N7q, Kc7, r7_1, r7_2, r7_3, r7_4⟩ := hQ7
  have N7 := Fr.app N4 N7q
  have sz8 : h0.size ≤ r_7 := Nat.le_trans K4.1 r7_1
  have gn8 : n0 ≤ r_7 := Nat.le_trans Z0 sz8
  have O7 : Old Z n0 T7.heap := O4.keep Kc7 all0
  have K7 : Keep h0 T7.heap [] := K4.trans Kc7 all0
  obtain ⟨fs, hr, hrun, hended, hW, hsame⟩ := X7.leave (v := some (.ref r_7)) (fun h => by rw [Bd.returns] at h; cases h)
  refine ⟨_, _, pre0 _ ?_, hrun, hended, _, _, rfl, ?_, ⟨_, rfl⟩, hW, hsame.mono (by decide) (by decide)⟩
  · refine XS.aloadN X0.here hx rfl (hb hby d29_0) rfl rfl ?_
    show Steps p.tables e below (s₁.setTop (mkF m 1 #[.val (.ref a), .unset] [(.ref a)])) _
    refine st1 _ ?_
    refine XS.ifNo X1.here hx rfl (hb hby d29_4) rfl ((if0 _ _).trans (teq (by decide : (0 : Int32) = (0 : Int32))).2) ?_
    refine XS.aloadN X1.here hx rfl (hb hby d29_7) rfl rfl ?_
    show Steps p.tables e below (T1.setTop (mkF m 8 #[.val (.ref a), .unset] [(.ref a)])) _
    refine st2 _ ?_
    refine XS.ifYes X2.here hx rfl (pc0 := 11) (pc' := 31) rfl (hb hby d29_11) rfl ((if0 _ _).trans (teq (by decide : (0 : Int32) = (0 : Int32))).1) (by decide) (by decide) ?_
    refine XS.aloadN X2.here hx rfl (hb hby d29_31) rfl rfl ?_
    show Steps p.tables e below (T2.setTop (mkF m 32 #[.val (.ref a), .unset] [(.ref a)])) _
    refine st3.trans ?_
    refine XS.ifYes X3.here hx rfl (pc0 := 37) (pc' := 44) rfl (hb hby d29_37) rfl ((if0 _ _).trans (teq (by decide : (0 : Int32) = (0 : Int32))).1) (by decide) (by decide) ?_
    refine XS.aloadN X3.here hx rfl (hb hby d29_44) rfl rfl ?_
    show Steps p.tables e below (T3.setTop (mkF m 45 #[.val (.ref a), .unset] [(.ref a)])) _
    refine st4.trans ?_
    show Steps p.tables e below (T4.setTop (mkF m 50 #[.val (.ref a), .unset] [(.ref r_4)])) _
    refine st7 _ ?_
    show Steps p.tables e below (T7.setTop (mkF m 53 #[.val (.ref a), .unset] [(.ref r_7)])) _
    jvm_step X7.here [X7.here.top, hx, (hb hby d29_53), X7.method', Bd.returns, Value.isRef, FieldType.isReference]
    first | (intro acts; rw [hr _ acts rfl rfl rfl]) | rw [hr _ _ rfl rfl rfl]
    exact Steps.refl _
  · show QlistCopy3 Z a y0 y1 y2 b kb mr h0 n0 _ T7.heap _
    exact ⟨r_7, q_7, kq_7, rfl, N7, K7, sz8, r7_2, r7_3, r7_4⟩
theorem ef_copyOf3 (m : MethodId) (x0 : Addr) : entryFrame m #[(.ref x0)] 1 = mkF m 0 #[.val (.ref x0)] [] := by first | (simp [entryFrame, mkF, argsToLocals, Value.category]; done) | rfl
def QcopyOf3 (Z : State) (a : Addr) (y0 : Addr) (y1 : Addr) (y2 : Addr) (b : Addr) (kb : ClassId) (mr : Addr) (h0 : Heap) (n0 : Nat) (v : Option Value) (h : Heap) (L : List Loc) : Prop := ∃ (r : Addr), ∃ (q : Addr), ∃ (kq : ClassId), v = some (.ref r) ∧ Fr n0 L ∧ Keep h0 h [] ∧ h0.size ≤ r ∧ Exa Z h r "java/util/ImmutableCollections$ListN" ∧ Fld Z h r "java/util/ImmutableCollections$ListN" "elements" "[Ljava/lang/Object;" (.ref q) ∧ Arv Z h q kq (.object "java/lang/Object") (3 : Int32) [(.ref y0), (.ref y1), (.ref y2)] .null
set_option maxRecDepth 65536 in
set_option maxHeartbeats 40000000 in
theorem rmcopyOf3 (l : Launch) (Z : State) (a0 : Array Value) (hw : ∀ d ∈ tables_1, d.before a0 Z = true) (ws : List Jvm.Cond) (a : Addr) (y0 : Addr) (y1 : Addr) (y2 : Addr) (b : Addr) (kb : ClassId) (mr : Addr) (h0 : Heap) (n0 : Nat) (O0 : Old Z n0 h0) (hp0 : Exa Z h0 a "java/util/ArrayList") (hp1 : Fld Z h0 a "java/util/ArrayList" "elementData" "[Ljava/lang/Object;" (.ref b)) (hp2 : Fld Z h0 a "java/util/ArrayList" "size" "I" (.int (3 : Int32))) (hp3 : Arv Z h0 b kb (.object "java/lang/Object") (10 : Int32) [(.ref y0), (.ref y1), (.ref y2), .null, .null, .null, .null, .null, .null, .null] .null) (mro : (own_Mr Z "[Ljava/lang/Object;" mr)) (hp5 : Exa Z h0 b "[Ljava/lang/Object;") (hp6 : Ins Z h0 y0 "java/lang/Object" true) (hp7 : Ins Z h0 y1 "java/lang/Object" true) (hp8 : Ins Z h0 y2 "java/lang/Object" true) :
    MetFree l mN38 (head1 (Jvm.Cond.code mN38 jdk_40_method_48_code 1 (some (.object "java/util/List")) :: ws) ({ frames := 8, cells := 3, slots := 8, locals := 104 } : Room)) (fun as_ U => as_ = #[(.ref a)] ∧ Z.Warmed39 U.vm ∧ U.heap = h0) (fun _ _ _ _ _ => True) (fun _ U o U' => ∃ v L, o = .returned v ∧ QcopyOf3 Z a y0 y1 y2 b kb mr h0 n0 v U'.heap L ∧ FrameEnd U o U' L ({ frames := 8, cells := 3, slots := 8, locals := 104 } : Room).cells ({ frames := 8, cells := 3, slots := 8, locals := 104 } : Room).slots) := by
  refine MetFree.of_bodySF (plainFor_of_name pn_java_util_List) hisR ?_
  intro p e s m args below meth c s₁ Bd hml0 hP hK
  obtain ⟨rfl, hZ, hh⟩ := hP
  have hx := Bd.exec
  have hby := Bd.bytes
  have hml : c.maxLocals = 1 := hml0
  have hown : s.vm.findClass "java/util/List" = some m.cls := findClass_of_methodNamed Bd.named
  have hnm := (name_of_methodNamed Bd.named Bd.method).1
  have X0 : Stand p l e ({ frames := 8, cells := 3, slots := 8, locals := 104 } : Room) s m #[(.ref a)] below meth c s₁ [] 0 0 := Stand.of_body Bd
  have e0 : s₁.heap = h0 := by rw [← hh, Bd.state]; rfl
  have N0 := Fr.nil n0
  have Z0 := own_z0 O0
  have pre0 : ∀ tg_, Steps p.tables e below (s₁.setTop (mkF m 0 #[.val (.ref a)] [])) tg_ → Steps p.tables e below (s₁.setTop (entryFrame m #[(.ref a)] 1)) tg_ := fun tg_ kt_ => castTop (ef_copyOf3 m a) kt_
  obtain ⟨_, _, ⟨T1, L1, k1, n1⟩, -, X1, ⟨Lc1, hQ1, l1, y1, z1⟩, st1⟩ := Jvm.LawKit.callS X0 hx (y := mN37) hown (mvT hZ (hw _ w_201)) (mvT hZ (hw _ w_202)) (mvT hZ (hw _ w_203)) (mvT hZ (hw _ w_204)) (by decide) (backOf (W := 0) (rmlistCopy3 l Z a0 hw [] a y0 y1 y2 b kb mr h0 n0 O0 hp0 hp1 hp2 hp3 mro hp5 hp6 hp7 hp8) hZ (hw _ w_204) (hw _ w_203) (by decide) (by decide)) (g := (mkF m 1 #[.val (.ref a)] [(.ref a)])) rfl (by rw [hml]; rfl) (argsL := [(.ref a)]) (rest := []) (lenOf pd__Ljava_util_Collection__Ljava_util_List_ rfl) rfl (by show 2 * 0 + _ ≤ _; exact Nat.le_of_eq rfl) (hb hby d28_1) (fun _ _ => ⟨rfl, e0, (by decide : 0 + 3 ≤ _), (by decide : 0 + 8 ≤ _)⟩)
  dsimp only [Pt.U, Pt.locs, Pt.cells, Pt.slots] at X1 l1 y1 z1 st1 hQ1
  subst l1 y1 z1
  obtain ⟨r_1, q_1, kq_1, rfl, N1q, Kc1, r1_1, r1_2, r1_3, r1_4⟩ := hQ1
  have N1 := Fr.app N0 N1q
  have sz2 : h0.size ≤ r_1 := Nat.le_trans (Keep.refl h0 []).1 r1_1
  have gn2 : n0 ≤ r_1 := Nat.le_trans Z0 sz2
  have O1 : Old Z n0 T1.heap := O0.keep Kc1 all0
  have K1 : Keep h0 T1.heap [] := (Keep.refl h0 []).trans Kc1 all0
  obtain ⟨fs, hr, hrun, hended, hW, hsame⟩ := X1.leave (v := some (.ref r_1)) (fun h => by rw [Bd.returns] at h; cases h)
  refine ⟨_, _, pre0 _ ?_, hrun, hended, _, _, rfl, ?_, ⟨_, rfl⟩, hW, hsame.mono (by decide) (by decide)⟩
  · refine XS.aloadN X0.here hx rfl (hb hby d28_0) rfl rfl ?_
    show Steps p.tables e below (s₁.setTop (mkF m 1 #[.val (.ref a)] [(.ref a)])) _
    refine st1 _ ?_
    show Steps p.tables e below (T1.setTop (mkF m 4 #[.val (.ref a)] [(.ref r_1)])) _
    jvm_step X1.here [X1.here.top, hx, (hb hby d28_4), X1.method', Bd.returns, Value.isRef, FieldType.isReference]
    first | (intro acts; rw [hr _ acts rfl rfl rfl]) | rw [hr _ _ rfl rfl rfl]
    exact Steps.refl _
  · show QcopyOf3 Z a y0 y1 y2 b kb mr h0 n0 _ T1.heap _
    exact ⟨r_1, q_1, kq_1, rfl, N1, K1, sz2, r1_2, r1_3, r1_4⟩
theorem own_tk {s : State} (h : Jvm.D.tablesKnown s = true) : s.vm.MethodsKnown := fun m x hx => by
  unfold Jvm.D.tablesKnown at h
  simp only [Vm.method?, Option.bind_eq_bind, Option.bind_eq_some_iff] at hx
  obtain ⟨k, hk, hm⟩ := hx
  have q := (Array.all_eq_true_iff_forall_mem.mp h) k (Array.mem_of_getElem? hk)
  have hlt := (Array.getElem?_eq_some_iff.mp hm).1
  simp only [Vm.knowsMethod]
  cases hc : k.cf with
  | none => simp_all
  | some cf => simp_all
theorem own_mk {vm : Vm} {m : MethodId} (h : Jvm.D.methodKnown vm m = true) : vm.knowsMethod m := by
  unfold Jvm.D.methodKnown at h
  cases hk : vm.classes[m.cls]? with
  | none => rw [hk] at h; simp at h
  | some k =>
    rw [hk] at h
    refine ⟨k, hk, fun cf hc => ?_⟩
    simpa [hc] using h
theorem own_fk {s : State} {m : MethodId} {args : Array Value} {below : List Frame} (hf : s.frames = .invoking m args :: below) (h : Jvm.D.framesKnown s = true) : s.vm.FramesKnown below := fun y hy m' hm' => by
  unfold Jvm.D.framesKnown at h
  rw [hf] at h
  have q := (List.all_eq_true.mp h) y (List.mem_cons_of_mem _ hy)
  cases y with
  | java f => obtain rfl : f.method = m' := Option.some.inj hm'; exact own_mk q
  | native f => obtain rfl : f.method = m' := Option.some.inj hm'; exact own_mk q
  | _ => cases hm'
open Jvm.Bundle Jvm.Free.Exc in
def own_thA (rc : String) : List Cond := [.initialized tN, .superclass tN "java/lang/Object", .instanceMethod tFill, .codeSync tFill Jvm.LibCode.Throwable.Fill.code 1 (some (.object tN)), .instanceMethod tFill0, .native tFill0,
  .instanceMethod oInit, .code oInit ⟨#[0xb1]⟩ 1 none, .methodLink tN 1 oInit, .methodLink tN 27 tFill, .methodLink tN 202 tFill0, .fieldLink tN 7 tN "cause" thD, .lays rc tN "cause" thD,
  .fieldLink tN 17 tN "stackTrace" steD, .lays rc tN "stackTrace" steD, .fieldLink tN 24 tN "suppressedExceptions" listD, .lays rc tN "suppressedExceptions" listD,
  .fieldLink tN 13 tN "UNASSIGNED_STACK" steD, .laysStatic tN "UNASSIGNED_STACK" steD, .fieldLink tN 20 tN "SUPPRESSED_SENTINEL" listD, .laysStatic tN "SUPPRESSED_SENTINEL" listD,
  .lays rc tN "detailMessage" msgD, .fieldLink tN 198 tN "backtrace" obD, .lays rc tN "backtrace" obD, .arrayOver (.object "java/lang/Object"), .soleField tN "backtrace", .soleField tN "depth", .lays rc tN "depth" "I", .selects rc tFill0 tFill0]
/-- a word of own_thA by its place -/
theorem own_thw {rc : String} {args : Array Value} {s : State} (W : ∀ d ∈ own_thA rc, d.before args s = true) (i : Nat) {d : Cond} (h : (own_thA rc)[i]? = some d) : d.holds args s none s [] = true := W d (List.mem_of_getElem? h)
open Jvm.Bundle Jvm.Free.Exc in
set_option maxHeartbeats 4000000 in
theorem own_thr {args : Array Value} {s : State} {pl : Platform} {rc : String} (o1 : pl.frameOwnsMonitors = true) (o2 : pl.finalization = false) (o3 : pl.magicAccessors = ({} : Platform).magicAccessors) (W : ∀ d ∈ own_thA rc, d.before args s = true) :
    ∃ T : ThrowableC, T.Links pl s ∧ s.vm.findClass tN = some T.cT ∧ s.methodNamed? tFill = some T.fill ∧ s.methodNamed? tFill0 = some T.fill0 ∧ s.fieldFound? tN "stackTrace" steD = some (T.cT, T.kT, T.i17, T.fStack) ∧
      s.fieldFound? tN "UNASSIGNED_STACK" steD = some (T.cT, T.kT, T.i13, T.fUnassigned) ∧ T.fStack.type = .array (.object "java/lang/StackTraceElement") := by
  -- the class and its methods
  obtain ⟨⟨cT, j0⟩, n0, a1, a2, a3, a4, a5, a6⟩ := Cond.native_spec (own_thw W 5 rfl)
  have fc : s.vm.findClass tN = some cT := findClass_of_methodNamed a1
  obtain ⟨kT, fk, fn⟩ := Vm.findClass_spec fc
  obtain ⟨x0, y0, b1, b2, b3, b4, b5, b6, b7⟩ := Cond.ownMethod (x := tFill0) fc fk (own_thw W 4 rfl)
  cases Option.some.inj (a1.symm.trans b1)
  cases Option.some.inj (a2.symm.trans b2)
  obtain ⟨jF, mF, c1, c2, c3, c4, c5, -, -⟩ := Cond.ownMethod (x := tFill) fc fk (own_thw W 2 rfl)
  obtain ⟨mF', kF, d1, d2, d3, d4, d5, d6, -, d8⟩ := Cond.codeSync_spec c1 (own_thw W 3 rfl)
  cases Option.some.inj (c2.symm.trans d1)
  obtain ⟨mO, nO, e1, e2, e3, e4⟩ := Cond.instanceMethod_spec (own_thw W 6 rfl)
  obtain ⟨nO', kO, f1, f2, f3, f4, -, f6, -, f8⟩ := Cond.code_spec e1 (own_thw W 7 rfl)
  cases Option.some.inj (e2.symm.trans f1)
  obtain ⟨zO, g1, g2⟩ := Vm.findClass_spec (findClass_of_methodNamed e1)
  obtain ⟨nm1, nm2⟩ := name_of_methodNamed e1 e2
  obtain ⟨_, kk, _, -, h2, -, -, -, -, h7⟩ := Cond.superclass_spec fc (own_thw W 1 rfl)
  cases Option.some.inj (fk.symm.trans h2)
  -- the links
  obtain ⟨ci1, n1, cf, l11, l12, l13, l14⟩ := Cond.linkedMethod fc fk e1 (own_thw W 8 rfl) pl o3
  obtain ⟨ci27, n27, cf2, l21, l22, l23, l24⟩ := Cond.linkedMethod fc fk c1 (own_thw W 9 rfl) pl o3
  obtain ⟨ci202, n202, cf3, l31, l32, l33, l34⟩ := Cond.linkedMethod fc fk a1 (own_thw W 10 rfl) pl o3
  cases Option.some.inj (l13.symm.trans l23)
  cases Option.some.inj (l13.symm.trans l33)
  -- the fields
  obtain ⟨ci7, i7, F7, p1, p2, p3, p4, p5, p6, p7, p8⟩ := Cond.ownField (C' := rc) (t := .object tN) fc fk (by decide +kernel) (own_thw W 11 rfl) (own_thw W 12 rfl) pl o3
  obtain ⟨ci17, i17, F17, q1, q2, q3, q4, q5, q6, q7, q8⟩ := Cond.ownField (C' := rc) (t := .array (.object "java/lang/StackTraceElement")) fc fk (by decide +kernel) (own_thw W 13 rfl) (own_thw W 14 rfl) pl o3
  obtain ⟨ci24, i24, F24, r1, r2, r3, r4, r5, r6, r7, r8⟩ := Cond.ownField (C' := rc) (t := .object "java/util/List") fc fk (by decide +kernel) (own_thw W 15 rfl) (own_thw W 16 rfl) pl o3
  obtain ⟨ci13, i13, F13, aS, _, t1, t2, t3, t4, -, -, t7, -, -, -, -, t12⟩ := Cond.ownStatic (t := .array (.object "java/lang/StackTraceElement")) fc fk (by decide +kernel) (own_thw W 17 rfl) (own_thw W 18 rfl) pl o3
  obtain ⟨ci20, i20, F20, _, _, u1, u2, u3, u4, -⟩ := Cond.ownStatic (t := .object "java/util/List") fc fk (by decide +kernel) (own_thw W 19 rfl) (own_thw W 20 rfl) pl o3
  obtain ⟨cR, kR, _, _, _, FM, v1, v2, -, v4, v5, -⟩ := Cond.lays_spec (own_thw W 21 rfl)
  obtain ⟨-, w1, w2, w3⟩ := Cond.laysAt v1 v2 q8 (own_thw W 14 rfl)
  obtain ⟨-, z1, z2, z3⟩ := Cond.laysAt v1 v2 r8 (own_thw W 16 rfl)
  have par : ∀ {y : MethodName} {g : MethodDescriptor} {ps : List FieldType}, parseMethodDescriptor y.desc = some g → (parseMethodDescriptor y.desc).map (·.parameters) = some ps → g.parameters = ps := fun {y g ps} k1 k2 => by rw [k1] at k2; simpa using k2
  refine ⟨{ cT := cT, kT := kT, cO := cT, aS := aS, fillIdx := jF, fill0Idx := j0, initSIdx := jF, obj := mO, kObj := zO, methFill := mF, methFill0 := n0, methInitS := mF, methObj := nO, codeFill := kF, codeInitS := kF, codeObj := kO, fBack := F7, fDepth := F7, fStack := F17, fCause := F7, fSupp := F24, fMsg := FM, fUnassigned := F13, fSentinel := F20, cfT := cf, ci1 := ci1, n1 := n1, ci27 := ci27, n27 := n27, ci202 := ci202, n202 := n202, ci7 := ci7, i7 := i7, ci13 := ci13, i13 := i13, ci17 := ci17, i17 := i17, ci20 := ci20, i20 := i20, ci24 := ci24, i24 := i24 }, ?_, fc, c1, a1, q8, t12, q7⟩
  constructor
  all_goals first
    | assumption
    | exact fn
    | exact Vm.findClass_boot fc fk
    | exact Cond.initialized_spec fc fk (own_thw W 0 rfl)
    | exact par d8 (by decide +kernel)
    | exact par a6 (by decide +kernel)
    | (show nO.sig.parameters.length = 0; rw [par (ps := []) f8 (by decide +kernel)]; rfl)
    | (show lookupSpecial s.vm mO.cls "<init>" nO.desc = .method mO; rw [nm2]; exact lookupSpecial_of_named e1 e2 e3)
    | exact Cond.laysApart w2 z2 w3 z3 (by rw [q6, r6]; decide)
    | skip
open Jvm.Bundle Jvm.Free.Exc in
def own_QF (Z : State) (rc : String) (a : Addr) (h : Heap) (v : Option Value) (h' : Heap) (L : List Loc) : Prop := v = some (.ref a) ∧ (∀ y ∈ L, y.base = a) ∧ Exa Z h' a rc ∧
  ∀ (O n d : String) (w : Value), Jvm.RoadKit.slotOf Z O n d ≠ Jvm.RoadKit.slotOf Z tN "backtrace" obD → Jvm.RoadKit.slotOf Z O n d ≠ Jvm.RoadKit.slotOf Z tN "depth" "I" → Jvm.RoadKit.slotOf Z O n d ≠ Jvm.RoadKit.slotOf Z tN "stackTrace" steD → Fld Z h a O n d w → Fld Z h' a O n d w
open Jvm.Bundle Jvm.Free.Exc in
set_option maxHeartbeats 4000000 in
theorem own_fillBack {l : Launch} {R : Room} {p : Program} {e : Env} {below : List Frame} {s : State} {sargs : Array Value} {Z : State} {a0 : Array Value} {h : Heap} {rc : String} {n W : Nat} (hx : p.tables.exec = Jvm.exec) (hadm : l.admits e) (hl : l.stackTraces = true) (hZ : Z.Warmed39 s.vm)
    (W0 : ∀ d ∈ own_thA rc, d.before a0 Z = true) (wi : (Cond.instantiable rc n).before a0 Z = true) (hT0 : ThS Z s.heap) (hTK : s.vm.MethodsKnown) (hBelow : s.vm.FramesKnown below) {a : Addr} {us : Value} (hus : us.isRef = true)
    (E : Exa Z h a rc) (N : Unt h a) (FB : Fld Z h a tN "backtrace" obD .null) (FS : Fld Z h a tN "stackTrace" steD us) (SU : Sta Z h tN "UNASSIGNED_STACK" steD us) (hf : 2 < R.frames) (hlo : W + 42 ≤ R.locals) :
    Back l R p e below s sargs tFill 3 W (fun P x => x = #[.ref a] ∧ P.U.heap = h ∧ P.cells + 1 ≤ R.cells ∧ P.slots + 2752 ≤ R.slots)
      (fun P _ v B => ∃ L, own_QF Z rc a h v B.U.heap L ∧ B.locs = P.locs ++ L ∧ B.cells = P.cells + 1 ∧ ∃ k, k ≤ 2752 ∧ B.slots = P.slots + k) := by
  have WS : ∀ d ∈ own_thA rc, d.before #[] s = true := fun d hd => mvX hT0 hZ (List.all_eq_true.mp (rfl : (own_thA rc).all xOk = true) d hd) (W0 d hd)
  have hpl : e.platform.magicAccessors = ({} : Platform).magicAccessors := by rw [hadm.platform]
  obtain ⟨T, L, q1, q2, q3, q4, q5, q6⟩ := own_thr (rc := rc) (pl := e.platform) (by rw [hadm.platform]) (by rw [hadm.platform]) hpl WS
  obtain ⟨cell, u1, u2, u3⟩ := N
  obtain ⟨cE, kE, e1, e2, e3, e4, e5⟩ := E
  cases Option.some.inj (u1.symm.trans e1)
  have hfound : s.vm.findClass rc = some cell.cls := by rw [hZ.alike.findClass]; exact e2
  obtain ⟨k', hk', ek⟩ := hZ.alike.2.2 _ _ e3
  obtain ⟨cI, kI, i1, i2, i3, -⟩ := Cond.instantiable_spec wi
  cases Option.some.inj (e2.symm.trans i1)
  cases Option.some.inj (e3.symm.trans i2)
  have hord : k'.kind = .ordinary := by rw [ek]; exact i3
  have hsz : cell.slots.size = k'.instanceTypes.size := by rw [ek]; exact e5 i3
  have tk : ∀ {f : Field} {v : Value}, k'.instanceTypes[f.slot]? = some f.type → fits f.type v = true → Jvm.Takes s cell f v := fun {f v} h1 h2 => by
    obtain ⟨y1, y2⟩ := Takes.of_laid (v := v) hk' hord h1 h2
    exact ⟨by rw [hsz]; simpa using y1, by rw [u2]; exact y2⟩
  have hsel0 : selectMethod e.platform s.vm cell.cls T.fill0 = .method T.fill0 := by
    obtain ⟨c2, r2, m2, y1, y2, y3, y4, -⟩ := Cond.selects_spec (own_thw WS 28 rfl)
    cases Option.some.inj (y1.symm.trans hfound)
    cases Option.some.inj (y2.symm.trans (State.methodFound?_of_named q3 (by decide)))
    cases Option.some.inj (y3.symm.trans q3)
    rw [Launch.admits_selectMethod hadm]; exact y4
  have ride : ∀ {O n d : String} {c i : Nat} {k : Class} {f : Field}, Z.fieldFound? O n d = some (c, k, i, f) → ∃ k2, s.fieldFound? O n d = some (c, k2, i, f) ∧ k2.statics = k.statics := fun {O n d c i k f} y => by
    obtain ⟨k2, y1, y2⟩ := State.fieldFound?_setVm (s := Z) hZ.alike y
    exact ⟨k2, y1, by rw [y2]⟩
  -- stackTrace, UNASSIGNED_STACK, backtrace, depth
  obtain ⟨clS, cfS, kfS, iS, fS, s1, s2, -, -, -, -, s7⟩ := id FS
  cases Option.some.inj (u1.symm.trans s1)
  obtain ⟨kS2, r1, -⟩ := ride s2
  have eS : T.fStack = fS := (congrArg (fun z => z.2.2.2) (Option.some.inj (q4.symm.trans r1)))
  obtain ⟨cfU, iU, kU, fU, st, cellS, b1, -, -, b4, b5, b6, b7⟩ := SU
  obtain ⟨kU2, r2, r3⟩ := ride b1
  have eU0 := Option.some.inj (q5.symm.trans r2)
  have eU : T.fUnassigned = fU := congrArg (fun z => z.2.2.2) eU0
  have eK : T.kT = kU2 := congrArg (fun z => z.2.1) eU0
  have eA : T.aS = st := Option.some.inj (L.statics.symm.trans (by rw [eK, r3]; exact b4))
  have hneS : T.aS ≠ a := fun z => by
    rw [← eA, z] at b5
    cases Option.some.inj (u1.symm.trans b5)
    rw [u2] at b6; cases b6
  obtain ⟨ci198, i198, fB, j1, j2, j3, j4, -, j6, j7, j8⟩ := Cond.ownField (C' := rc) (t := .object "java/lang/Object") q1 L.cls (by decide +kernel) (own_thw WS 22 rfl) (own_thw WS 23 rfl) e.platform hpl
  obtain ⟨clB, cfB, kfB, iB, fB', x1, x2, -, -, -, -, x7⟩ := id FB
  cases Option.some.inj (u1.symm.trans x1)
  obtain ⟨kB2, r4, -⟩ := ride x2
  have eB : fB = fB' := congrArg (fun z => z.2.2.2) (Option.some.inj (j8.symm.trans r4))
  obtain ⟨_, _, cD, kD, iD, fD, -, -, d3, d4, -⟩ := Cond.lays_spec (own_thw WS 27 rfl)
  cases Option.some.inj ((Cond.lays_declared (own_thw WS 27 rfl) d3).symm.trans q1)
  obtain ⟨d6, d7⟩ := State.fieldFound?_spec d3
  cases Option.some.inj (d6.symm.trans L.cls)
  obtain ⟨d8, d9⟩ := State.fieldFound?_type d3 (t := .int) (by decide +kernel)
  have hfb := Cond.soleField_find q1 L.cls (own_thw WS 25 rfl) j3 j6 j4
  have hfd := Cond.soleField_find q1 L.cls (own_thw WS 26 rfl) d7 d8 d4
  obtain ⟨comp, cO, kO, -, -, o3, o4, o5⟩ := Cond.arrayOver_spec (own_thw WS 24 rfl)
  have tS := (Cond.laysAt hfound hk' q4 (own_thw WS 14 rfl)).1
  have tB := (Cond.laysAt hfound hk' j8 (own_thw WS 23 rfl)).1
  have tD := (Cond.laysAt hfound hk' d3 (own_thw WS 27 rfl)).1
  have back0 : ∀ {O n d : String} {c i : Nat} {k : Class} {f : Field}, s.fieldFound? O n d = some (c, k, i, f) → Jvm.RoadKit.slotOf Z O n d = f.slot := fun {O n d c i k f} y => by
    obtain ⟨c2, k2, i2, y1⟩ := Jvm.Free.BdW.found_ride (U := s) (U' := Z) hZ.alike.symm ⟨c, k, i, y⟩
    simp [Jvm.RoadKit.slotOf, y1]
  refine Back.mono (fillPaysAny hx (by rw [hadm.platform]; exact hl) T L q2 (u0 := ⟨us, hus⟩) (self := a) (cell := cell) (cellS := cellS) (fun _ => by rw [u2]; simp) (by rw [u2]; simp) (by rw [u3]) (by rw [u3]) (by rw [eS]; exact s7) hsel0 hneS (fun z => by rw [z] at b6; cases b6)
      (by rw [eU]; exact b7) (tk tS (by rw [q6]; exact fits_refV_array _ ⟨us, hus⟩)) ⟨{ ci198 := ci198, i198 := i198, fBack := fB }, ⟨j1, j2, j3, j4⟩, by rw [eB]; exact x7⟩ hTK hBelow q1 o5 o3 o4 hfb hfd (fun _ => tk tB (by rw [j7]; rfl)) (fun _ => tk tD (by rw [d9]; rfl)) hf hlo)
    (fun P x hp => ⟨hp.1, hp.2.2.1, hp.2.2.2, by rw [hp.2.1]; exact u1, by rw [hp.2.1, eA]; exact b5⟩) (fun P x v B hp hq => ?_)
  obtain ⟨hv, C, k, hk, hD, c1, c2, c3, c4, hL, hc, hn⟩ := hq
  refine ⟨_, ⟨hv, ?_, ⟨C, kE, hD, by rw [c1]; exact e2, by rw [c1]; exact e3, by rw [c2]; exact e4, fun o => by rw [c3]; exact e5 o⟩, fun O n d w n1 n2 n3 F => ?_⟩, hL, hc, k, hk, hn⟩
  · intro y hy
    simp only [List.mem_cons, List.not_mem_nil, or_false] at hy
    rcases hy with rfl | rfl | rfl <;> rfl
  · obtain ⟨cl, cf, kf, i, f, g1, g2, g3, g4, g5, g6, g7⟩ := F
    cases Option.some.inj (u1.symm.trans g1)
    have ef : Jvm.RoadKit.slotOf Z O n d = f.slot := by simp [Jvm.RoadKit.slotOf, g2]
    rw [ef, back0 j8] at n1
    rw [ef, back0 d3] at n2
    rw [ef, back0 q4] at n3
    exact ⟨C, cf, kf, i, f, hD, g2, g3, by rw [c2]; exact g4, by rw [c2]; exact g5, by rw [c1]; exact g6, by rw [c4 _ n1 n2 n3]; exact g7⟩
theorem own_standKeep {p : Program} {l : Launch} {e : Env} {R : Room} {s : State} {m : MethodId} {args : Array Value} {below : List Frame} {meth : Method} {c : Code} {T : State} {locs : List Loc} {cells slots : Nat} {h0 : Heap} {a : Addr}
    (X : Stand p l e R s m args below meth c T locs cells slots) (hh : s.heap = h0) (hL : ∀ y ∈ locs, y.base = a) : Keep h0 T.heap [a] := by
  subst hh
  have S := X.same
  refine ⟨S.2.1, fun x cl q r => ?_, fun x cl q => ?_⟩
  · exact State.sameButNew.kept_off S (fun i hm => r (by simp [← hL _ hm])) q
  · obtain ⟨c', y1, y2, y3, -⟩ := S.2.2.2.2.2 x cl q
    exact ⟨c', y1, by rw [y2], by rw [y2], y3⟩
theorem own_narA {w : Value} {t : FieldType} (h : w.isRef = true) : narrow (.array t) w = w := by cases w <;> simp [Value.isRef] at h <;> rfl
theorem own_fitA {w : Value} {t : FieldType} (h : w.isRef = true) : fits (.array t) w = true := by cases w <;> simp [Value.isRef] at h <;> rfl
theorem own_thW {Z : State} {a0 : Array Value} (hw : ∀ d ∈ tables_1, d.before a0 Z = true) : ∀ d ∈ (own_thA "com/example/levy/levy/api/ApiException"), d.before a0 Z = true := fun d hd => hw d ((by decide +kernel : ∀ d ∈ (own_thA "com/example/levy/levy/api/ApiException"), d ∈ tables_1) d hd)
theorem d25_0 : decode jdk_78_method_2_code 0 = .ok (.aload_n 0, 1) := by decide +kernel
theorem w_161 : (Jvm.Cond.methodLink "java/lang/Throwable" (1 : Nat) ({ cls := "java/lang/Object", name := "<init>", desc := "()V" } : Jvm.MethodName)) ∈ tables_1 := List.mem_of_getElem? (i := 161) (by decide +kernel)
theorem d25_1 : decode jdk_78_method_2_code 1 = .ok (.invokespecial 1, 3) := by decide +kernel
theorem d25_4 : decode jdk_78_method_2_code 4 = .ok (.aload_n 0, 1) := by decide +kernel
theorem d25_5 : decode jdk_78_method_2_code 5 = .ok (.aload_n 0, 1) := by decide +kernel
theorem w_162 : (Jvm.Cond.fieldLink "java/lang/Throwable" (7 : Nat) "java/lang/Throwable" "cause" "Ljava/lang/Throwable;") ∈ tables_1 := List.mem_of_getElem? (i := 162) (by decide +kernel)
theorem w_163 : (Jvm.Cond.lays "com/example/levy/levy/api/ApiException" "java/lang/Throwable" "cause" "Ljava/lang/Throwable;") ∈ tables_1 := List.mem_of_getElem? (i := 163) (by decide +kernel)
theorem w_110 : (Jvm.Cond.instantiable "com/example/levy/levy/api/ApiException" (7 : Nat)) ∈ tables_1 := List.mem_of_getElem? (i := 110) (by decide +kernel)
theorem d25_6 : decode jdk_78_method_2_code 6 = .ok (.putfield 7, 3) := by decide +kernel
theorem d25_9 : decode jdk_78_method_2_code 9 = .ok (.aload_n 0, 1) := by decide +kernel
theorem w_164 : (Jvm.Cond.fieldLink "java/lang/Throwable" (13 : Nat) "java/lang/Throwable" "UNASSIGNED_STACK" "[Ljava/lang/StackTraceElement;") ∈ tables_1 := List.mem_of_getElem? (i := 164) (by decide +kernel)
theorem d25_10 : decode jdk_78_method_2_code 10 = .ok (.getstatic 13, 3) := by decide +kernel
theorem w_165 : (Jvm.Cond.fieldLink "java/lang/Throwable" (17 : Nat) "java/lang/Throwable" "stackTrace" "[Ljava/lang/StackTraceElement;") ∈ tables_1 := List.mem_of_getElem? (i := 165) (by decide +kernel)
theorem w_166 : (Jvm.Cond.lays "com/example/levy/levy/api/ApiException" "java/lang/Throwable" "stackTrace" "[Ljava/lang/StackTraceElement;") ∈ tables_1 := List.mem_of_getElem? (i := 166) (by decide +kernel)
theorem d25_13 : decode jdk_78_method_2_code 13 = .ok (.putfield 17, 3) := by decide +kernel
theorem d25_16 : decode jdk_78_method_2_code 16 = .ok (.aload_n 0, 1) := by decide +kernel
theorem w_167 : (Jvm.Cond.fieldLink "java/lang/Throwable" (20 : Nat) "java/lang/Throwable" "SUPPRESSED_SENTINEL" "Ljava/util/List;") ∈ tables_1 := List.mem_of_getElem? (i := 167) (by decide +kernel)
theorem d25_17 : decode jdk_78_method_2_code 17 = .ok (.getstatic 20, 3) := by decide +kernel
theorem w_168 : (Jvm.Cond.fieldLink "java/lang/Throwable" (24 : Nat) "java/lang/Throwable" "suppressedExceptions" "Ljava/util/List;") ∈ tables_1 := List.mem_of_getElem? (i := 168) (by decide +kernel)
theorem w_169 : (Jvm.Cond.lays "com/example/levy/levy/api/ApiException" "java/lang/Throwable" "suppressedExceptions" "Ljava/util/List;") ∈ tables_1 := List.mem_of_getElem? (i := 169) (by decide +kernel)
theorem d25_20 : decode jdk_78_method_2_code 20 = .ok (.putfield 24, 3) := by decide +kernel
theorem d25_23 : decode jdk_78_method_2_code 23 = .ok (.aload_n 0, 1) := by decide +kernel
theorem w_170 : (Jvm.Cond.methodLink "java/lang/Throwable" (27 : Nat) ({ cls := "java/lang/Throwable", name := "fillInStackTrace", desc := "()Ljava/lang/Throwable;" } : Jvm.MethodName)) ∈ tables_1 := List.mem_of_getElem? (i := 170) (by decide +kernel)
theorem w_193 : (Jvm.Cond.lays "com/example/levy/levy/api/ApiException" "java/lang/Throwable" "backtrace" "Ljava/lang/Object;") ∈ tables_1 := List.mem_of_getElem? (i := 193) (by decide +kernel)
theorem w_192 : (Jvm.Cond.lays "com/example/levy/levy/api/ApiException" "java/lang/Throwable" "detailMessage" "Ljava/lang/String;") ∈ tables_1 := List.mem_of_getElem? (i := 192) (by decide +kernel)
theorem w_282 : (Jvm.Cond.laysFinal "com/example/levy/levy/api/ApiException" "com/example/levy/levy/api/ApiException" "errors" "Ljava/util/List;") ∈ tables_1 := List.mem_of_getElem? (i := 282) (by decide +kernel)
theorem pd___Ljava_lang_Throwable_ : parseMethodDescriptor "()Ljava/lang/Throwable;" = some ⟨[], some (.object "java/lang/Throwable")⟩ := by decide +kernel
theorem d25_24 : decode jdk_78_method_2_code 24 = .ok (.invokevirtual 27, 3) := by decide +kernel
theorem w_173 : (Jvm.Cond.selects "com/example/levy/levy/api/ApiException" ({ cls := "java/lang/Throwable", name := "fillInStackTrace", desc := "()Ljava/lang/Throwable;" } : Jvm.MethodName) ({ cls := "java/lang/Throwable", name := "fillInStackTrace", desc := "()Ljava/lang/Throwable;" } : Jvm.MethodName)) ∈ tables_1 := List.mem_of_getElem? (i := 173) (by decide +kernel)
abbrev mN40 : MethodName := ⟨"java/lang/Throwable", "fillInStackTrace", "()Ljava/lang/Throwable;"⟩
theorem w_171 : (Jvm.Cond.declares ({ cls := "java/lang/Throwable", name := "fillInStackTrace", desc := "()Ljava/lang/Throwable;" } : Jvm.MethodName)) ∈ tables_1 := List.mem_of_getElem? (i := 171) (by decide +kernel)
theorem w_172 : (Jvm.Cond.instanceMethod ({ cls := "java/lang/Throwable", name := "fillInStackTrace", desc := "()Ljava/lang/Throwable;" } : Jvm.MethodName)) ∈ tables_1 := List.mem_of_getElem? (i := 172) (by decide +kernel)
theorem w_194 : (Jvm.Cond.lays "com/example/levy/levy/api/ApiException" "java/lang/Throwable" "depth" "I") ∈ tables_1 := List.mem_of_getElem? (i := 194) (by decide +kernel)
theorem d25_27 : decode jdk_78_method_2_code 27 = .ok (.pop, 1) := by decide +kernel
theorem d25_28 : decode jdk_78_method_2_code 28 = .ok (.aload_n 0, 1) := by decide +kernel
theorem d25_29 : decode jdk_78_method_2_code 29 = .ok (.aload_n 1, 1) := by decide +kernel
theorem w_196 : (Jvm.Cond.fieldLink "java/lang/Throwable" (31 : Nat) "java/lang/Throwable" "detailMessage" "Ljava/lang/String;") ∈ tables_1 := List.mem_of_getElem? (i := 196) (by decide +kernel)
theorem d25_30 : decode jdk_78_method_2_code 30 = .ok (.putfield 31, 3) := by decide +kernel
theorem d25_33 : decode jdk_78_method_2_code 33 = .ok (.return_, 1) := by decide +kernel
abbrev mN41 : MethodName := ⟨"java/lang/Throwable", "<init>", "(Ljava/lang/String;)V"⟩
theorem ef_thInit (m : MethodId) (x0 : Addr) (x1 : Addr) : entryFrame m #[(.ref x0), (.ref x1)] 2 = mkF m 0 #[.val (.ref x0), .val (.ref x1)] [] := by first | (simp [entryFrame, mkF, argsToLocals, Value.category]; done) | rfl
def QthInit (Z : State) (a : Addr) (ms : Addr) (u0 : Value) (u1 : Value) (u2 : Value) (u3 : Value) (us : Value) (se : Value) (o0 : Value) (h0 : Heap) (n0 : Nat) (v : Option Value) (h : Heap) (L : List Loc) : Prop := v = none ∧ Fr n0 L ∧ Keep h0 h [a] ∧ Exa Z h a "com/example/levy/levy/api/ApiException" ∧ Fld Z h a "com/example/levy/levy/api/ApiException" "errors" "Ljava/util/List;" o0
theorem pn_java_lang_Throwable : plainName "java/lang/Throwable" = true := by first | (simp [plainName, overriddenIn]; done) | decide +kernel
set_option maxRecDepth 65536 in
set_option maxHeartbeats 40000000 in
theorem rmthInit (l : Launch) (Z : State) (a0 : Array Value) (hw : ∀ d ∈ tables_1, d.before a0 Z = true) (ws : List Jvm.Cond) (a : Addr) (ms : Addr) (u0 : Value) (u1 : Value) (u2 : Value) (u3 : Value) (us : Value) (se : Value) (o0 : Value) (h0 : Heap) (n0 : Nat) (O0 : Old Z n0 h0) (hl : (l.stackTraces = true)) (hp1 : Exa Z h0 a "com/example/levy/levy/api/ApiException") (hp2 : Unt h0 a) (hp3 : n0 ≤ a) (hp4 : Fld Z h0 a "java/lang/Throwable" "cause" "Ljava/lang/Throwable;" u0) (hp5 : Fld Z h0 a "java/lang/Throwable" "stackTrace" "[Ljava/lang/StackTraceElement;" u1) (hp6 : Fld Z h0 a "java/lang/Throwable" "suppressedExceptions" "Ljava/util/List;" u2) (hp7 : Fld Z h0 a "java/lang/Throwable" "detailMessage" "Ljava/lang/String;" u3) (hp8 : Fld Z h0 a "java/lang/Throwable" "backtrace" "Ljava/lang/Object;" .null) (hp9 : Fld Z h0 a "com/example/levy/levy/api/ApiException" "errors" "Ljava/util/List;" o0) (hp10 : Sta Z Z.heap "java/lang/Throwable" "UNASSIGNED_STACK" "[Ljava/lang/StackTraceElement;" us) (hp11 : Sta Z Z.heap "java/lang/Throwable" "SUPPRESSED_SENTINEL" "Ljava/util/List;" se) (hus : (us.isRef = true)) (hse : (se.isRef = true)) :
    MetFree l mN41 (head1 (Jvm.Cond.code mN41 jdk_78_method_2_code 2 none :: ws) ({ frames := 3, cells := 1, slots := 2752, locals := 42 } : Room)) (fun as_ U => as_ = #[(.ref a), (.ref ms)] ∧ Z.Warmed39 U.vm ∧ U.heap = h0) (fun _ _ bl s _ => s.vm.MethodsKnown ∧ s.vm.FramesKnown bl) (fun _ U o U' => ∃ v L, o = .returned v ∧ QthInit Z a ms u0 u1 u2 u3 us se o0 h0 n0 v U'.heap L ∧ FrameEnd U o U' L ({ frames := 3, cells := 1, slots := 2752, locals := 42 } : Room).cells ({ frames := 3, cells := 1, slots := 2752, locals := 42 } : Room).slots) := by
  refine MetFree.of_bodySF (plainFor_of_name pn_java_lang_Throwable) hisR ?_
  intro p e s m args below meth c s₁ Bd hml0 hP hK
  obtain ⟨rfl, hZ, hh⟩ := hP
  have hx := Bd.exec
  obtain ⟨hTK, hBelow⟩ := hK
  have hby := Bd.bytes
  have hml : c.maxLocals = 2 := hml0
  have hown : s.vm.findClass "java/lang/Throwable" = some m.cls := findClass_of_methodNamed Bd.named
  have hnm := (name_of_methodNamed Bd.named Bd.method).1
  have X0 : Stand p l e ({ frames := 3, cells := 1, slots := 2752, locals := 42 } : Room) s m #[(.ref a), (.ref ms)] below meth c s₁ [] 0 0 := Stand.of_body Bd
  have e0 : s₁.heap = h0 := by rw [← hh, Bd.state]; rfl
  have N0 := Fr.nil n0
  have Z0 := own_z0 O0
  have pre0 : ∀ tg_, Steps p.tables e below (s₁.setTop (mkF m 0 #[.val (.ref a), .val (.ref ms)] [])) tg_ → Steps p.tables e below (s₁.setTop (entryFrame m #[(.ref a), (.ref ms)] 2)) tg_ := fun tg_ kt_ => castTop (ef_thInit m a ms) kt_
  obtain ⟨T1, X1, e1, st1⟩ := initO X0 hx hZ hown (hw _ w_161) (hw _ w_34) (hw _ w_35) e0 (g := (mkF m 1 #[.val (.ref a), .val (.ref ms)] [(.ref a)])) rfl (by rw [hml]; rfl) rfl (hb hby d25_1) (by decide) (W := 0) (by show 2 * 0 + _ ≤ _; exact Nat.le_of_eq rfl) (by decide)
  obtain ⟨T2, h2, X2, e2, W2, st2⟩ := putF X1 hx hZ hown (host := "") (Or.inl (hw _ w_162)) Via.refl e1 hp4 hp1 (Or.inl (hw _ w_163)) (hw _ w_110) (ty := (.object "java/lang/Throwable")) (by decide) rfl rfl (g := (mkF m 6 #[.val (.ref a), .val (.ref ms)] [(.ref a), (.ref a)])) rfl rfl (hb hby d25_6)
  have Fw2 := hp4.same W2
  have N2 := Fr.snoc X2 N0 hp3
  have O2 : Old Z n0 h2 := O0.wr W2 hp3
  have K2 : Keep h0 h2 [a] := (Keep.refl h0 [a]).wr W2 (Or.inl (List.mem_of_getElem? (i := 0) rfl))
  obtain ⟨T3, X3, e3, st3⟩ := getS2 X2 hx hZ hown (host := "") (Or.inl (hw _ w_164)) Via.refl e2 (hp10.ext O2.2) (g := (mkF m 10 #[.val (.ref a), .val (.ref ms)] [(.ref a)])) rfl (hb hby d25_10)
  obtain ⟨T4, h4, X4, e4, W4, st4⟩ := putF X3 hx hZ hown (host := "") (Or.inl (hw _ w_165)) Via.refl e3 (hp5.other W2 (Or.inr (slot_ne (Or.inl (hw _ w_166)) (Or.inl (hw _ w_163)) (by decide) (t := (.array (.object "java/lang/StackTraceElement"))) (t' := (.object "java/lang/Throwable")) (by decide) (by decide)))) (hp1.wr W2) (Or.inl (hw _ w_166)) (hw _ w_110) (ty := (.array (.object "java/lang/StackTraceElement"))) (by decide) (own_narA hus) (own_fitA hus) (g := (mkF m 13 #[.val (.ref a), .val (.ref ms)] [us, (.ref a)])) rfl rfl (hb hby d25_13)
  have Fw4 := (hp5.other W2 (Or.inr (slot_ne (Or.inl (hw _ w_166)) (Or.inl (hw _ w_163)) (by decide) (t := (.array (.object "java/lang/StackTraceElement"))) (t' := (.object "java/lang/Throwable")) (by decide) (by decide)))).same W4
  have N4 := Fr.snoc X4 N2 hp3
  have O4 : Old Z n0 h4 := O2.wr W4 hp3
  have K4 : Keep h0 h4 [a] := K2.wr W4 (Or.inl (List.mem_of_getElem? (i := 0) rfl))
  obtain ⟨T5, X5, e5, st5⟩ := getS2 X4 hx hZ hown (host := "") (Or.inl (hw _ w_167)) Via.refl e4 (hp11.ext O4.2) (g := (mkF m 17 #[.val (.ref a), .val (.ref ms)] [(.ref a)])) rfl (hb hby d25_17)
  obtain ⟨T6, h6, X6, e6, W6, st6⟩ := putF X5 hx hZ hown (host := "") (Or.inl (hw _ w_168)) Via.refl e5 ((hp6.other W2 (Or.inr (slot_ne (Or.inl (hw _ w_169)) (Or.inl (hw _ w_163)) (by decide) (t := (.object "java/util/List")) (t' := (.object "java/lang/Throwable")) (by decide) (by decide)))).other W4 (Or.inr (slot_ne (Or.inl (hw _ w_169)) (Or.inl (hw _ w_166)) (by decide) (t := (.object "java/util/List")) (t' := (.array (.object "java/lang/StackTraceElement"))) (by decide) (by decide)))) ((hp1.wr W2).wr W4) (Or.inl (hw _ w_169)) (hw _ w_110) (ty := (.object "java/util/List")) (by decide) (own_narR hse) (own_fitR hse) (g := (mkF m 20 #[.val (.ref a), .val (.ref ms)] [se, (.ref a)])) rfl rfl (hb hby d25_20)
  have Fw6 := ((hp6.other W2 (Or.inr (slot_ne (Or.inl (hw _ w_169)) (Or.inl (hw _ w_163)) (by decide) (t := (.object "java/util/List")) (t' := (.object "java/lang/Throwable")) (by decide) (by decide)))).other W4 (Or.inr (slot_ne (Or.inl (hw _ w_169)) (Or.inl (hw _ w_166)) (by decide) (t := (.object "java/util/List")) (t' := (.array (.object "java/lang/StackTraceElement"))) (by decide) (by decide)))).same W6
  have N6 := Fr.snoc X6 N4 hp3
  have O6 : Old Z n0 h6 := O4.wr W6 hp3
  have K6 : Keep h0 h6 [a] := K4.wr W6 (Or.inl (List.mem_of_getElem? (i := 0) rfl))
  obtain ⟨cq7, kq7, q7a, q7b, q7c⟩ := isOf hZ e6 (((hp1.wr W2).wr W4).wr W6)
  obtain ⟨_, _, ⟨T7, L7, k7, n7⟩, -, X7, ⟨Lc7, hQ7, l7, y7, kk7, hkk7, z7⟩, st7⟩ := X6.virtualBack hx (y := mN40) (z := mN40) hown (mvT hZ (hw _ w_170)) (mvT hZ (hw _ w_171)) (notFace_of_selects (args := #[]) (mvT hZ (hw _ w_173))) (mvT hZ (hw _ w_173)) (mvT hZ (hw _ w_172)) (by decide) (own_fillBack (n := _) (W := 0) hx X6.admits hl hZ (own_thW hw) (hw _ w_110) (by rw [hh]; exact ThS.ext O0.2 ThS.start) hTK hBelow hus (((hp1.wr W2).wr W4).wr W6) (((hp2.wr W2).wr W4).wr W6) (((hp8.other W2 (Or.inr (slot_ne (Or.inl (hw _ w_193)) (Or.inl (hw _ w_163)) (by decide) (t := (.object "java/lang/Object")) (t' := (.object "java/lang/Throwable")) (by decide) (by decide)))).other W4 (Or.inr (slot_ne (Or.inl (hw _ w_193)) (Or.inl (hw _ w_166)) (by decide) (t := (.object "java/lang/Object")) (t' := (.array (.object "java/lang/StackTraceElement"))) (by decide) (by decide)))).other W6 (Or.inr (slot_ne (Or.inl (hw _ w_193)) (Or.inl (hw _ w_169)) (by decide) (t := (.object "java/lang/Object")) (t' := (.object "java/util/List")) (by decide) (by decide)))) (Fw4.other W6 (Or.inr (slot_ne (Or.inl (hw _ w_166)) (Or.inl (hw _ w_169)) (by decide) (t := (.array (.object "java/lang/StackTraceElement"))) (t' := (.object "java/util/List")) (by decide) (by decide)))) (hp10.ext O6.2) (by decide) (by decide)) q7a q7c (g := (mkF m 24 #[.val (.ref a), .val (.ref ms)] [(.ref a)])) rfl (by rw [hml]; rfl) (Steps.refl _) (argsL := []) (rest := []) (lenOf pd___Ljava_lang_Throwable_ rfl) rfl (by show 2 * 0 + _ ≤ _; exact Nat.le_of_eq rfl) (hb hby d25_24) (fun _ _ => ⟨rfl, e6, (by decide : 0 + 1 ≤ _), (by decide : 0 + 2752 ≤ _)⟩)
  dsimp only [Pt.U, Pt.locs, Pt.cells, Pt.slots] at X7 l7 y7 z7 st7 hQ7
  subst l7 y7 z7
  have X7 := X7.more (Nat.le_refl _) (Nat.add_le_add_left hkk7 _)
  obtain ⟨rfl, HB7, Ex7, Fk7⟩ := hQ7
  have Kn7 : Keep h0 T7.heap [a] := own_standKeep X7 hh (fun y hy => by simp only [List.append_assoc, List.nil_append, List.cons_append, List.mem_append, List.mem_cons, List.not_mem_nil, or_false, false_or] at hy; rcases hy with rfl | rfl | rfl | hy <;> first | rfl | exact HB7 y hy)
  have N7 := Fr.app N6 (fun y hy => by rw [HB7 y hy]; exact hp3)
  have O7 : Old Z n0 T7.heap := O0.keep Kn7 (allS hp3 all0)
  have K7 : Keep h0 T7.heap [a] := (Keep.refl h0 [a]).trans Kn7 (allS (Or.inl (List.mem_of_getElem? (i := 0) rfl)) all0)
  obtain ⟨T8, h8, X8, e8, W8, st8⟩ := putF X7 hx hZ hown (host := "") (Or.inl (hw _ w_196)) Via.refl rfl (Fk7 _ _ _ _ (slot_ne (Or.inl (hw _ w_192)) (Or.inl (hw _ w_193)) (by decide) (t := (.object "java/lang/String")) (t' := (.object "java/lang/Object")) (by decide) (by decide)) (slot_ne (Or.inl (hw _ w_192)) (Or.inl (hw _ w_194)) (by decide) (t := (.object "java/lang/String")) (t' := .int) (by decide) (by decide)) (slot_ne (Or.inl (hw _ w_192)) (Or.inl (hw _ w_166)) (by decide) (t := (.object "java/lang/String")) (t' := (.array (.object "java/lang/StackTraceElement"))) (by decide) (by decide)) (((hp7.other W2 (Or.inr (slot_ne (Or.inl (hw _ w_192)) (Or.inl (hw _ w_163)) (by decide) (t := (.object "java/lang/String")) (t' := (.object "java/lang/Throwable")) (by decide) (by decide)))).other W4 (Or.inr (slot_ne (Or.inl (hw _ w_192)) (Or.inl (hw _ w_166)) (by decide) (t := (.object "java/lang/String")) (t' := (.array (.object "java/lang/StackTraceElement"))) (by decide) (by decide)))).other W6 (Or.inr (slot_ne (Or.inl (hw _ w_192)) (Or.inl (hw _ w_169)) (by decide) (t := (.object "java/lang/String")) (t' := (.object "java/util/List")) (by decide) (by decide))))) Ex7 (Or.inl (hw _ w_192)) (hw _ w_110) (ty := (.object "java/lang/String")) (by decide) rfl rfl (g := (mkF m 30 #[.val (.ref a), .val (.ref ms)] [(.ref ms), (.ref a)])) rfl rfl (hb hby d25_30)
  have Fw8 := (Fk7 _ _ _ _ (slot_ne (Or.inl (hw _ w_192)) (Or.inl (hw _ w_193)) (by decide) (t := (.object "java/lang/String")) (t' := (.object "java/lang/Object")) (by decide) (by decide)) (slot_ne (Or.inl (hw _ w_192)) (Or.inl (hw _ w_194)) (by decide) (t := (.object "java/lang/String")) (t' := .int) (by decide) (by decide)) (slot_ne (Or.inl (hw _ w_192)) (Or.inl (hw _ w_166)) (by decide) (t := (.object "java/lang/String")) (t' := (.array (.object "java/lang/StackTraceElement"))) (by decide) (by decide)) (((hp7.other W2 (Or.inr (slot_ne (Or.inl (hw _ w_192)) (Or.inl (hw _ w_163)) (by decide) (t := (.object "java/lang/String")) (t' := (.object "java/lang/Throwable")) (by decide) (by decide)))).other W4 (Or.inr (slot_ne (Or.inl (hw _ w_192)) (Or.inl (hw _ w_166)) (by decide) (t := (.object "java/lang/String")) (t' := (.array (.object "java/lang/StackTraceElement"))) (by decide) (by decide)))).other W6 (Or.inr (slot_ne (Or.inl (hw _ w_192)) (Or.inl (hw _ w_169)) (by decide) (t := (.object "java/lang/String")) (t' := (.object "java/util/List")) (by decide) (by decide))))).same W8
  have N8 := Fr.snoc X8 N7 hp3
  have O8 : Old Z n0 h8 := O7.wr W8 hp3
  have K8 : Keep h0 h8 [a] := K7.wr W8 (Or.inl (List.mem_of_getElem? (i := 0) rfl))
  obtain ⟨fs, hr, hrun, hended, hW, hsame⟩ := X8.leave (v := none) (fun _ => rfl)
  refine ⟨_, _, pre0 _ ?_, hrun, hended, _, _, rfl, ?_, ⟨_, rfl⟩, hW, hsame.mono (by decide) (by decide)⟩
  · refine XS.aloadN X0.here hx rfl (hb hby d25_0) rfl rfl ?_
    show Steps p.tables e below (s₁.setTop (mkF m 1 #[.val (.ref a), .val (.ref ms)] [(.ref a)])) _
    refine st1 _ ?_
    refine XS.aloadN X1.here hx rfl (hb hby d25_4) rfl rfl ?_
    refine XS.aloadN X1.here hx rfl (hb hby d25_5) rfl rfl ?_
    show Steps p.tables e below (T1.setTop (mkF m 6 #[.val (.ref a), .val (.ref ms)] [(.ref a), (.ref a)])) _
    refine st2 _ ?_
    refine XS.aloadN X2.here hx rfl (hb hby d25_9) rfl rfl ?_
    show Steps p.tables e below (T2.setTop (mkF m 10 #[.val (.ref a), .val (.ref ms)] [(.ref a)])) _
    refine st3 _ ?_
    show Steps p.tables e below (T3.setTop (mkF m 13 #[.val (.ref a), .val (.ref ms)] [us, (.ref a)])) _
    refine st4 _ ?_
    refine XS.aloadN X4.here hx rfl (hb hby d25_16) rfl rfl ?_
    show Steps p.tables e below (T4.setTop (mkF m 17 #[.val (.ref a), .val (.ref ms)] [(.ref a)])) _
    refine st5 _ ?_
    show Steps p.tables e below (T5.setTop (mkF m 20 #[.val (.ref a), .val (.ref ms)] [se, (.ref a)])) _
    refine st6 _ ?_
    refine XS.aloadN X6.here hx rfl (hb hby d25_23) rfl rfl ?_
    show Steps p.tables e below (T6.setTop (mkF m 24 #[.val (.ref a), .val (.ref ms)] [(.ref a)])) _
    refine st7.trans ?_
    refine XS.pop X7.here hx rfl (hb hby d25_27) rfl rfl ?_
    refine XS.aloadN X7.here hx rfl (hb hby d25_28) rfl rfl ?_
    refine XS.aloadN X7.here hx rfl (hb hby d25_29) rfl rfl ?_
    show Steps p.tables e below (T7.setTop (mkF m 30 #[.val (.ref a), .val (.ref ms)] [(.ref ms), (.ref a)])) _
    refine st8 _ ?_
    show Steps p.tables e below (T8.setTop (mkF m 33 #[.val (.ref a), .val (.ref ms)] [])) _
    exact X8.returnOut hx Bd.returns (hb hby d25_33) hr
  · show QthInit Z a ms u0 u1 u2 u3 us se o0 h0 n0 _ T8.heap _
    rw [e8]
    exact ⟨rfl, N8, K8, (Ex7.wr W8), ((Fk7 _ _ _ _ (slot_ne (Or.inr (hw _ w_282)) (Or.inl (hw _ w_193)) (by decide) (t := (.object "java/util/List")) (t' := (.object "java/lang/Object")) (by decide) (by decide)) (slot_ne (Or.inr (hw _ w_282)) (Or.inl (hw _ w_194)) (by decide) (t := (.object "java/util/List")) (t' := .int) (by decide) (by decide)) (slot_ne (Or.inr (hw _ w_282)) (Or.inl (hw _ w_166)) (by decide) (t := (.object "java/util/List")) (t' := (.array (.object "java/lang/StackTraceElement"))) (by decide) (by decide)) (((hp9.other W2 (Or.inr (slot_ne (Or.inr (hw _ w_282)) (Or.inl (hw _ w_163)) (by decide) (t := (.object "java/util/List")) (t' := (.object "java/lang/Throwable")) (by decide) (by decide)))).other W4 (Or.inr (slot_ne (Or.inr (hw _ w_282)) (Or.inl (hw _ w_166)) (by decide) (t := (.object "java/util/List")) (t' := (.array (.object "java/lang/StackTraceElement"))) (by decide) (by decide)))).other W6 (Or.inr (slot_ne (Or.inr (hw _ w_282)) (Or.inl (hw _ w_169)) (by decide) (t := (.object "java/util/List")) (t' := (.object "java/util/List")) (by decide) (by decide))))).other W8 (Or.inr (slot_ne (Or.inr (hw _ w_282)) (Or.inl (hw _ w_192)) (by decide) (t := (.object "java/util/List")) (t' := (.object "java/lang/String")) (by decide) (by decide))))⟩
theorem d24_0 : decode jdk_59_method_2_code 0 = .ok (.aload_n 0, 1) := by decide +kernel
theorem d24_1 : decode jdk_59_method_2_code 1 = .ok (.aload_n 1, 1) := by decide +kernel
theorem w_155 : (Jvm.Cond.methodLink "java/lang/Exception" (7 : Nat) ({ cls := "java/lang/Throwable", name := "<init>", desc := "(Ljava/lang/String;)V" } : Jvm.MethodName)) ∈ tables_1 := List.mem_of_getElem? (i := 155) (by decide +kernel)
theorem w_160 : (Jvm.Cond.code ({ cls := "java/lang/Throwable", name := "<init>", desc := "(Ljava/lang/String;)V" } : Jvm.MethodName) jdk_78_method_2_code (2 : Nat) (Option.none : Option Jvm.ClassFile.FieldType)) ∈ tables_1 := List.mem_of_getElem? (i := 160) (by decide +kernel)
theorem w_159 : (Jvm.Cond.initialized "java/lang/Throwable") ∈ tables_1 := List.mem_of_getElem? (i := 159) (by decide +kernel)
theorem pd__Ljava_lang_String__V : parseMethodDescriptor "(Ljava/lang/String;)V" = some ⟨[(.object "java/lang/String")], none⟩ := by decide +kernel
theorem d24_2 : decode jdk_59_method_2_code 2 = .ok (.invokespecial 7, 3) := by decide +kernel
theorem w_156 : (Jvm.Cond.instanceMethod ({ cls := "java/lang/Throwable", name := "<init>", desc := "(Ljava/lang/String;)V" } : Jvm.MethodName)) ∈ tables_1 := List.mem_of_getElem? (i := 156) (by decide +kernel)
theorem d24_5 : decode jdk_59_method_2_code 5 = .ok (.return_, 1) := by decide +kernel
abbrev mN42 : MethodName := ⟨"java/lang/Exception", "<init>", "(Ljava/lang/String;)V"⟩
theorem ef_excI0 (m : MethodId) (x0 : Addr) (x1 : Addr) : entryFrame m #[(.ref x0), (.ref x1)] 2 = mkF m 0 #[.val (.ref x0), .val (.ref x1)] [] := by first | (simp [entryFrame, mkF, argsToLocals, Value.category]; done) | rfl
def QexcI0 (Z : State) (a : Addr) (ms : Addr) (u0 : Value) (u1 : Value) (u2 : Value) (u3 : Value) (us : Value) (se : Value) (o0 : Value) (h0 : Heap) (n0 : Nat) (v : Option Value) (h : Heap) (L : List Loc) : Prop := v = none ∧ Fr n0 L ∧ Keep h0 h [a] ∧ Exa Z h a "com/example/levy/levy/api/ApiException" ∧ Fld Z h a "com/example/levy/levy/api/ApiException" "errors" "Ljava/util/List;" o0
theorem pn_java_lang_Exception : plainName "java/lang/Exception" = true := by first | (simp [plainName, overriddenIn]; done) | decide +kernel
set_option maxRecDepth 65536 in
set_option maxHeartbeats 40000000 in
theorem rmexcI0 (l : Launch) (Z : State) (a0 : Array Value) (hw : ∀ d ∈ tables_1, d.before a0 Z = true) (ws : List Jvm.Cond) (a : Addr) (ms : Addr) (u0 : Value) (u1 : Value) (u2 : Value) (u3 : Value) (us : Value) (se : Value) (o0 : Value) (h0 : Heap) (n0 : Nat) (O0 : Old Z n0 h0) (hl : (l.stackTraces = true)) (hp1 : Exa Z h0 a "com/example/levy/levy/api/ApiException") (hp2 : Unt h0 a) (hp3 : n0 ≤ a) (hp4 : Fld Z h0 a "java/lang/Throwable" "cause" "Ljava/lang/Throwable;" u0) (hp5 : Fld Z h0 a "java/lang/Throwable" "stackTrace" "[Ljava/lang/StackTraceElement;" u1) (hp6 : Fld Z h0 a "java/lang/Throwable" "suppressedExceptions" "Ljava/util/List;" u2) (hp7 : Fld Z h0 a "java/lang/Throwable" "detailMessage" "Ljava/lang/String;" u3) (hp8 : Fld Z h0 a "java/lang/Throwable" "backtrace" "Ljava/lang/Object;" .null) (hp9 : Fld Z h0 a "com/example/levy/levy/api/ApiException" "errors" "Ljava/util/List;" o0) (hp10 : Sta Z Z.heap "java/lang/Throwable" "UNASSIGNED_STACK" "[Ljava/lang/StackTraceElement;" us) (hp11 : Sta Z Z.heap "java/lang/Throwable" "SUPPRESSED_SENTINEL" "Ljava/util/List;" se) (hus : (us.isRef = true)) (hse : (se.isRef = true)) :
    MetFree l mN42 (head1 (Jvm.Cond.code mN42 jdk_59_method_2_code 2 none :: ws) ({ frames := 4, cells := 1, slots := 2752, locals := 55 } : Room)) (fun as_ U => as_ = #[(.ref a), (.ref ms)] ∧ Z.Warmed39 U.vm ∧ U.heap = h0) (fun _ _ bl s _ => s.vm.MethodsKnown ∧ s.vm.FramesKnown bl) (fun _ U o U' => ∃ v L, o = .returned v ∧ QexcI0 Z a ms u0 u1 u2 u3 us se o0 h0 n0 v U'.heap L ∧ FrameEnd U o U' L ({ frames := 4, cells := 1, slots := 2752, locals := 55 } : Room).cells ({ frames := 4, cells := 1, slots := 2752, locals := 55 } : Room).slots) := by
  refine MetFree.of_bodySF (plainFor_of_name pn_java_lang_Exception) hisR ?_
  intro p e s m args below meth c s₁ Bd hml0 hP hK
  obtain ⟨rfl, hZ, hh⟩ := hP
  have hx := Bd.exec
  obtain ⟨hTK, hBelow⟩ := hK
  have hby := Bd.bytes
  have hml : c.maxLocals = 2 := hml0
  have hown : s.vm.findClass "java/lang/Exception" = some m.cls := findClass_of_methodNamed Bd.named
  have hnm := (name_of_methodNamed Bd.named Bd.method).1
  have X0 : Stand p l e ({ frames := 4, cells := 1, slots := 2752, locals := 55 } : Room) s m #[(.ref a), (.ref ms)] below meth c s₁ [] 0 0 := Stand.of_body Bd
  have e0 : s₁.heap = h0 := by rw [← hh, Bd.state]; rfl
  have N0 := Fr.nil n0
  have Z0 := own_z0 O0
  have pre0 : ∀ tg_, Steps p.tables e below (s₁.setTop (mkF m 0 #[.val (.ref a), .val (.ref ms)] [])) tg_ → Steps p.tables e below (s₁.setTop (entryFrame m #[(.ref a), (.ref ms)] 2)) tg_ := fun tg_ kt_ => castTop (ef_excI0 m a ms) kt_
  obtain ⟨_, _, ⟨T1, L1, k1, n1⟩, -, X1, ⟨Lc1, hQ1, l1, y1, z1⟩, st1⟩ := X0.specialBack hx (y := mN41) rfl hown (mvT hZ (hw _ w_155)) (mvT hZ (hw _ w_156)) (mvT hZ (hw _ w_160)) (by decide) (backOfKL (W := 0) (rmthInit l Z a0 hw [] a ms u0 u1 u2 u3 us se o0 h0 n0 O0 hl hp1 hp2 hp3 hp4 hp5 hp6 hp7 hp8 hp9 hp10 hp11 hus hse) hZ (hw _ w_160) (hw _ w_159) (by decide) (by decide) hTK hBelow) (g := (mkF m 2 #[.val (.ref a), .val (.ref ms)] [(.ref ms), (.ref a)])) rfl (by rw [hml]; rfl) (Steps.refl _) (a := a) (argsL := [(.ref ms)]) (rest := []) (lenOf pd__Ljava_lang_String__V rfl) rfl (by show 2 * 0 + _ ≤ _; exact Nat.le_of_eq rfl) (hb hby d24_2) (fun _ _ => ⟨rfl, e0, (by decide : 0 + 1 ≤ _), (by decide : 0 + 2752 ≤ _)⟩)
  dsimp only [Pt.U, Pt.locs, Pt.cells, Pt.slots] at X1 l1 y1 z1 st1 hQ1
  subst l1 y1 z1
  obtain ⟨rfl, N1q, Kc1, r1_1, r1_2⟩ := hQ1
  have N1 := Fr.app N0 N1q
  have O1 : Old Z n0 T1.heap := O0.keep Kc1 (allS hp3 all0)
  have K1 : Keep h0 T1.heap [a] := (Keep.refl h0 [a]).trans Kc1 (allS (Or.inl (List.mem_of_getElem? (i := 0) rfl)) all0)
  obtain ⟨fs, hr, hrun, hended, hW, hsame⟩ := X1.leave (v := none) (fun _ => rfl)
  refine ⟨_, _, pre0 _ ?_, hrun, hended, _, _, rfl, ?_, ⟨_, rfl⟩, hW, hsame.mono (by decide) (by decide)⟩
  · refine XS.aloadN X0.here hx rfl (hb hby d24_0) rfl rfl ?_
    refine XS.aloadN X0.here hx rfl (hb hby d24_1) rfl rfl ?_
    show Steps p.tables e below (s₁.setTop (mkF m 2 #[.val (.ref a), .val (.ref ms)] [(.ref ms), (.ref a)])) _
    refine st1.trans ?_
    show Steps p.tables e below (T1.setTop (mkF m 5 #[.val (.ref a), .val (.ref ms)] [])) _
    exact X1.returnOut hx Bd.returns (hb hby d24_5) hr
  · show QexcI0 Z a ms u0 u1 u2 u3 us se o0 h0 n0 _ T1.heap _
    exact ⟨rfl, N1, K1, r1_1, r1_2⟩
theorem d23_0 : decode jdk_58_method_2_code 0 = .ok (.aload_n 0, 1) := by decide +kernel
theorem d23_1 : decode jdk_58_method_2_code 1 = .ok (.aload_n 1, 1) := by decide +kernel
theorem w_149 : (Jvm.Cond.methodLink "java/lang/RuntimeException" (7 : Nat) ({ cls := "java/lang/Exception", name := "<init>", desc := "(Ljava/lang/String;)V" } : Jvm.MethodName)) ∈ tables_1 := List.mem_of_getElem? (i := 149) (by decide +kernel)
theorem w_154 : (Jvm.Cond.code ({ cls := "java/lang/Exception", name := "<init>", desc := "(Ljava/lang/String;)V" } : Jvm.MethodName) jdk_59_method_2_code (2 : Nat) (Option.none : Option Jvm.ClassFile.FieldType)) ∈ tables_1 := List.mem_of_getElem? (i := 154) (by decide +kernel)
theorem w_153 : (Jvm.Cond.initialized "java/lang/Exception") ∈ tables_1 := List.mem_of_getElem? (i := 153) (by decide +kernel)
theorem d23_2 : decode jdk_58_method_2_code 2 = .ok (.invokespecial 7, 3) := by decide +kernel
theorem w_150 : (Jvm.Cond.instanceMethod ({ cls := "java/lang/Exception", name := "<init>", desc := "(Ljava/lang/String;)V" } : Jvm.MethodName)) ∈ tables_1 := List.mem_of_getElem? (i := 150) (by decide +kernel)
theorem d23_5 : decode jdk_58_method_2_code 5 = .ok (.return_, 1) := by decide +kernel
abbrev mN43 : MethodName := ⟨"java/lang/RuntimeException", "<init>", "(Ljava/lang/String;)V"⟩
theorem ef_excI1 (m : MethodId) (x0 : Addr) (x1 : Addr) : entryFrame m #[(.ref x0), (.ref x1)] 2 = mkF m 0 #[.val (.ref x0), .val (.ref x1)] [] := by first | (simp [entryFrame, mkF, argsToLocals, Value.category]; done) | rfl
def QexcI1 (Z : State) (a : Addr) (ms : Addr) (u0 : Value) (u1 : Value) (u2 : Value) (u3 : Value) (us : Value) (se : Value) (o0 : Value) (h0 : Heap) (n0 : Nat) (v : Option Value) (h : Heap) (L : List Loc) : Prop := v = none ∧ Fr n0 L ∧ Keep h0 h [a] ∧ Exa Z h a "com/example/levy/levy/api/ApiException" ∧ Fld Z h a "com/example/levy/levy/api/ApiException" "errors" "Ljava/util/List;" o0
theorem pn_java_lang_RuntimeException : plainName "java/lang/RuntimeException" = true := by first | (simp [plainName, overriddenIn]; done) | decide +kernel
set_option maxRecDepth 65536 in
set_option maxHeartbeats 40000000 in
theorem rmexcI1 (l : Launch) (Z : State) (a0 : Array Value) (hw : ∀ d ∈ tables_1, d.before a0 Z = true) (ws : List Jvm.Cond) (a : Addr) (ms : Addr) (u0 : Value) (u1 : Value) (u2 : Value) (u3 : Value) (us : Value) (se : Value) (o0 : Value) (h0 : Heap) (n0 : Nat) (O0 : Old Z n0 h0) (hl : (l.stackTraces = true)) (hp1 : Exa Z h0 a "com/example/levy/levy/api/ApiException") (hp2 : Unt h0 a) (hp3 : n0 ≤ a) (hp4 : Fld Z h0 a "java/lang/Throwable" "cause" "Ljava/lang/Throwable;" u0) (hp5 : Fld Z h0 a "java/lang/Throwable" "stackTrace" "[Ljava/lang/StackTraceElement;" u1) (hp6 : Fld Z h0 a "java/lang/Throwable" "suppressedExceptions" "Ljava/util/List;" u2) (hp7 : Fld Z h0 a "java/lang/Throwable" "detailMessage" "Ljava/lang/String;" u3) (hp8 : Fld Z h0 a "java/lang/Throwable" "backtrace" "Ljava/lang/Object;" .null) (hp9 : Fld Z h0 a "com/example/levy/levy/api/ApiException" "errors" "Ljava/util/List;" o0) (hp10 : Sta Z Z.heap "java/lang/Throwable" "UNASSIGNED_STACK" "[Ljava/lang/StackTraceElement;" us) (hp11 : Sta Z Z.heap "java/lang/Throwable" "SUPPRESSED_SENTINEL" "Ljava/util/List;" se) (hus : (us.isRef = true)) (hse : (se.isRef = true)) :
    MetFree l mN43 (head1 (Jvm.Cond.code mN43 jdk_58_method_2_code 2 none :: ws) ({ frames := 5, cells := 1, slots := 2752, locals := 68 } : Room)) (fun as_ U => as_ = #[(.ref a), (.ref ms)] ∧ Z.Warmed39 U.vm ∧ U.heap = h0) (fun _ _ bl s _ => s.vm.MethodsKnown ∧ s.vm.FramesKnown bl) (fun _ U o U' => ∃ v L, o = .returned v ∧ QexcI1 Z a ms u0 u1 u2 u3 us se o0 h0 n0 v U'.heap L ∧ FrameEnd U o U' L ({ frames := 5, cells := 1, slots := 2752, locals := 68 } : Room).cells ({ frames := 5, cells := 1, slots := 2752, locals := 68 } : Room).slots) := by
  refine MetFree.of_bodySF (plainFor_of_name pn_java_lang_RuntimeException) hisR ?_
  intro p e s m args below meth c s₁ Bd hml0 hP hK
  obtain ⟨rfl, hZ, hh⟩ := hP
  have hx := Bd.exec
  obtain ⟨hTK, hBelow⟩ := hK
  have hby := Bd.bytes
  have hml : c.maxLocals = 2 := hml0
  have hown : s.vm.findClass "java/lang/RuntimeException" = some m.cls := findClass_of_methodNamed Bd.named
  have hnm := (name_of_methodNamed Bd.named Bd.method).1
  have X0 : Stand p l e ({ frames := 5, cells := 1, slots := 2752, locals := 68 } : Room) s m #[(.ref a), (.ref ms)] below meth c s₁ [] 0 0 := Stand.of_body Bd
  have e0 : s₁.heap = h0 := by rw [← hh, Bd.state]; rfl
  have N0 := Fr.nil n0
  have Z0 := own_z0 O0
  have pre0 : ∀ tg_, Steps p.tables e below (s₁.setTop (mkF m 0 #[.val (.ref a), .val (.ref ms)] [])) tg_ → Steps p.tables e below (s₁.setTop (entryFrame m #[(.ref a), (.ref ms)] 2)) tg_ := fun tg_ kt_ => castTop (ef_excI1 m a ms) kt_
  obtain ⟨_, _, ⟨T1, L1, k1, n1⟩, -, X1, ⟨Lc1, hQ1, l1, y1, z1⟩, st1⟩ := X0.specialBack hx (y := mN42) rfl hown (mvT hZ (hw _ w_149)) (mvT hZ (hw _ w_150)) (mvT hZ (hw _ w_154)) (by decide) (backOfKL (W := 0) (rmexcI0 l Z a0 hw [] a ms u0 u1 u2 u3 us se o0 h0 n0 O0 hl hp1 hp2 hp3 hp4 hp5 hp6 hp7 hp8 hp9 hp10 hp11 hus hse) hZ (hw _ w_154) (hw _ w_153) (by decide) (by decide) hTK hBelow) (g := (mkF m 2 #[.val (.ref a), .val (.ref ms)] [(.ref ms), (.ref a)])) rfl (by rw [hml]; rfl) (Steps.refl _) (a := a) (argsL := [(.ref ms)]) (rest := []) (lenOf pd__Ljava_lang_String__V rfl) rfl (by show 2 * 0 + _ ≤ _; exact Nat.le_of_eq rfl) (hb hby d23_2) (fun _ _ => ⟨rfl, e0, (by decide : 0 + 1 ≤ _), (by decide : 0 + 2752 ≤ _)⟩)
  dsimp only [Pt.U, Pt.locs, Pt.cells, Pt.slots] at X1 l1 y1 z1 st1 hQ1
  subst l1 y1 z1
  obtain ⟨rfl, N1q, Kc1, r1_1, r1_2⟩ := hQ1
  have N1 := Fr.app N0 N1q
  have O1 : Old Z n0 T1.heap := O0.keep Kc1 (allS hp3 all0)
  have K1 : Keep h0 T1.heap [a] := (Keep.refl h0 [a]).trans Kc1 (allS (Or.inl (List.mem_of_getElem? (i := 0) rfl)) all0)
  obtain ⟨fs, hr, hrun, hended, hW, hsame⟩ := X1.leave (v := none) (fun _ => rfl)
  refine ⟨_, _, pre0 _ ?_, hrun, hended, _, _, rfl, ?_, ⟨_, rfl⟩, hW, hsame.mono (by decide) (by decide)⟩
  · refine XS.aloadN X0.here hx rfl (hb hby d23_0) rfl rfl ?_
    refine XS.aloadN X0.here hx rfl (hb hby d23_1) rfl rfl ?_
    show Steps p.tables e below (s₁.setTop (mkF m 2 #[.val (.ref a), .val (.ref ms)] [(.ref ms), (.ref a)])) _
    refine st1.trans ?_
    show Steps p.tables e below (T1.setTop (mkF m 5 #[.val (.ref a), .val (.ref ms)] [])) _
    exact X1.returnOut hx Bd.returns (hb hby d23_5) hr
  · show QexcI1 Z a ms u0 u1 u2 u3 us se o0 h0 n0 _ T1.heap _
    exact ⟨rfl, N1, K1, r1_1, r1_2⟩
theorem d17_0 : decode prog_2_method_1_code 0 = .ok (.aload_n 0, 1) := by decide +kernel
theorem d17_1 : decode prog_2_method_1_code 1 = .ok (.aload_n 1, 1) := by decide +kernel
theorem d17_2 : decode prog_2_method_1_code 2 = .ok (.iconst 0, 1) := by decide +kernel
theorem w_115 : (Jvm.Cond.methodLink "com/example/levy/levy/api/ApiException" (1 : Nat) ({ cls := "java/util/List", name := "get", desc := "(I)Ljava/lang/Object;" } : Jvm.MethodName)) ∈ tables_1 := List.mem_of_getElem? (i := 115) (by decide +kernel)
theorem w_123 : (Jvm.Cond.code ({ cls := "java/util/ArrayList", name := "get", desc := "(I)Ljava/lang/Object;" } : Jvm.MethodName) jdk_38_method_20_code (2 : Nat) (Option.some (Jvm.ClassFile.FieldType.object "java/lang/Object"))) ∈ tables_1 := List.mem_of_getElem? (i := 123) (by decide +kernel)
theorem d17_3 : decode prog_2_method_1_code 3 = .ok (.invokeinterface 1 2, 5) := by decide +kernel
theorem w_118 : (Jvm.Cond.selects "java/util/ArrayList" ({ cls := "java/util/List", name := "get", desc := "(I)Ljava/lang/Object;" } : Jvm.MethodName) ({ cls := "java/util/ArrayList", name := "get", desc := "(I)Ljava/lang/Object;" } : Jvm.MethodName)) ∈ tables_1 := List.mem_of_getElem? (i := 118) (by decide +kernel)
abbrev mN44 : MethodName := ⟨"java/util/List", "get", "(I)Ljava/lang/Object;"⟩
theorem w_116 : (Jvm.Cond.declares ({ cls := "java/util/List", name := "get", desc := "(I)Ljava/lang/Object;" } : Jvm.MethodName)) ∈ tables_1 := List.mem_of_getElem? (i := 116) (by decide +kernel)
theorem w_117 : (Jvm.Cond.interfaceMethod "java/util/List" "java/util/List" "get" "(I)Ljava/lang/Object;") ∈ tables_1 := List.mem_of_getElem? (i := 117) (by decide +kernel)
theorem w_119 : (Jvm.Cond.instanceMethod ({ cls := "java/util/ArrayList", name := "get", desc := "(I)Ljava/lang/Object;" } : Jvm.MethodName)) ∈ tables_1 := List.mem_of_getElem? (i := 119) (by decide +kernel)
theorem w_120 : (Jvm.Cond.publicMethod ({ cls := "java/util/ArrayList", name := "get", desc := "(I)Ljava/lang/Object;" } : Jvm.MethodName)) ∈ tables_1 := List.mem_of_getElem? (i := 120) (by decide +kernel)
theorem w_121 : (Jvm.Cond.unhidden "java/util/ArrayList" "get" "(I)Ljava/lang/Object;") ∈ tables_1 := List.mem_of_getElem? (i := 121) (by decide +kernel)
theorem w_122 : (Jvm.Cond.castable "java/util/ArrayList" "java/util/List") ∈ tables_1 := List.mem_of_getElem? (i := 122) (by decide +kernel)
theorem w_137 : (Jvm.Cond.classLink "com/example/levy/levy/api/ApiException" (7 : Nat) "com/example/levy/levy/api/ApiError") ∈ tables_1 := List.mem_of_getElem? (i := 137) (by decide +kernel)
theorem d17_8 : decode prog_2_method_1_code 8 = .ok (.checkcast 7, 3) := by decide +kernel
theorem w_139 : (Jvm.Cond.methodLink "com/example/levy/levy/api/ApiException" (9 : Nat) ({ cls := "com/example/levy/levy/api/ApiError", name := "message", desc := "()Ljava/lang/String;" } : Jvm.MethodName)) ∈ tables_1 := List.mem_of_getElem? (i := 139) (by decide +kernel)
theorem w_143 : (Jvm.Cond.code ({ cls := "com/example/levy/levy/api/ApiError", name := "message", desc := "()Ljava/lang/String;" } : Jvm.MethodName) prog_1_method_4_code (1 : Nat) (Option.some (Jvm.ClassFile.FieldType.object "java/lang/String"))) ∈ tables_1 := List.mem_of_getElem? (i := 143) (by decide +kernel)
theorem w_3 : (Jvm.Cond.initialized "com/example/levy/levy/api/ApiError") ∈ tables_1 := List.mem_of_getElem? (i := 3) (by decide +kernel)
theorem pd___Ljava_lang_String_ : parseMethodDescriptor "()Ljava/lang/String;" = some ⟨[], some (.object "java/lang/String")⟩ := by decide +kernel
theorem d17_11 : decode prog_2_method_1_code 11 = .ok (.invokevirtual 9, 3) := by decide +kernel
theorem w_142 : (Jvm.Cond.selects "com/example/levy/levy/api/ApiError" ({ cls := "com/example/levy/levy/api/ApiError", name := "message", desc := "()Ljava/lang/String;" } : Jvm.MethodName) ({ cls := "com/example/levy/levy/api/ApiError", name := "message", desc := "()Ljava/lang/String;" } : Jvm.MethodName)) ∈ tables_1 := List.mem_of_getElem? (i := 142) (by decide +kernel)
theorem w_140 : (Jvm.Cond.declares ({ cls := "com/example/levy/levy/api/ApiError", name := "message", desc := "()Ljava/lang/String;" } : Jvm.MethodName)) ∈ tables_1 := List.mem_of_getElem? (i := 140) (by decide +kernel)
theorem w_141 : (Jvm.Cond.instanceMethod ({ cls := "com/example/levy/levy/api/ApiError", name := "message", desc := "()Ljava/lang/String;" } : Jvm.MethodName)) ∈ tables_1 := List.mem_of_getElem? (i := 141) (by decide +kernel)
theorem w_144 : (Jvm.Cond.methodLink "com/example/levy/levy/api/ApiException" (13 : Nat) ({ cls := "java/lang/RuntimeException", name := "<init>", desc := "(Ljava/lang/String;)V" } : Jvm.MethodName)) ∈ tables_1 := List.mem_of_getElem? (i := 144) (by decide +kernel)
theorem w_148 : (Jvm.Cond.code ({ cls := "java/lang/RuntimeException", name := "<init>", desc := "(Ljava/lang/String;)V" } : Jvm.MethodName) jdk_58_method_2_code (2 : Nat) (Option.none : Option Jvm.ClassFile.FieldType)) ∈ tables_1 := List.mem_of_getElem? (i := 148) (by decide +kernel)
theorem w_147 : (Jvm.Cond.initialized "java/lang/RuntimeException") ∈ tables_1 := List.mem_of_getElem? (i := 147) (by decide +kernel)
theorem d17_14 : decode prog_2_method_1_code 14 = .ok (.invokespecial 13, 3) := by decide +kernel
theorem w_145 : (Jvm.Cond.instanceMethod ({ cls := "java/lang/RuntimeException", name := "<init>", desc := "(Ljava/lang/String;)V" } : Jvm.MethodName)) ∈ tables_1 := List.mem_of_getElem? (i := 145) (by decide +kernel)
theorem d17_17 : decode prog_2_method_1_code 17 = .ok (.aload_n 0, 1) := by decide +kernel
theorem d17_18 : decode prog_2_method_1_code 18 = .ok (.aload_n 1, 1) := by decide +kernel
theorem w_197 : (Jvm.Cond.methodLink "com/example/levy/levy/api/ApiException" (19 : Nat) ({ cls := "java/util/List", name := "copyOf", desc := "(Ljava/util/Collection;)Ljava/util/List;" } : Jvm.MethodName)) ∈ tables_1 := List.mem_of_getElem? (i := 197) (by decide +kernel)
theorem w_108 : (Jvm.Cond.castable "com/example/levy/levy/api/ApiError" "java/lang/Object") ∈ tables_1 := List.mem_of_getElem? (i := 108) (by decide +kernel)
theorem w_200 : (Jvm.Cond.code ({ cls := "java/util/List", name := "copyOf", desc := "(Ljava/util/Collection;)Ljava/util/List;" } : Jvm.MethodName) jdk_40_method_48_code (1 : Nat) (Option.some (Jvm.ClassFile.FieldType.object "java/util/List"))) ∈ tables_1 := List.mem_of_getElem? (i := 200) (by decide +kernel)
theorem d17_19 : decode prog_2_method_1_code 19 = .ok (.invokestatic 19, 3) := by decide +kernel
theorem w_198 : (Jvm.Cond.static ({ cls := "java/util/List", name := "copyOf", desc := "(Ljava/util/Collection;)Ljava/util/List;" } : Jvm.MethodName)) ∈ tables_1 := List.mem_of_getElem? (i := 198) (by decide +kernel)
theorem w_281 : (Jvm.Cond.fieldLink "com/example/levy/levy/api/ApiException" (23 : Nat) "com/example/levy/levy/api/ApiException" "errors" "Ljava/util/List;") ∈ tables_1 := List.mem_of_getElem? (i := 281) (by decide +kernel)
theorem d17_22 : decode prog_2_method_1_code 22 = .ok (.putfield 23, 3) := by decide +kernel
theorem d17_25 : decode prog_2_method_1_code 25 = .ok (.return_, 1) := by decide +kernel
abbrev mN45 : MethodName := ⟨"com/example/levy/levy/api/ApiException", "<init>", "(Ljava/util/List;)V"⟩
theorem ef_axInit1 (m : MethodId) (x0 : Addr) (x1 : Addr) : entryFrame m #[(.ref x0), (.ref x1)] 2 = mkF m 0 #[.val (.ref x0), .val (.ref x1)] [] := by first | (simp [entryFrame, mkF, argsToLocals, Value.category]; done) | rfl
def QaxInit1 (Z : State) (a : Addr) (li : Addr) (y0 : Addr) (b : Addr) (kb : ClassId) (mr : Addr) (ms : Addr) (em : Addr) (u0 : Value) (u1 : Value) (u2 : Value) (u3 : Value) (us : Value) (se : Value) (o0 : Value) (h0 : Heap) (n0 : Nat) (v : Option Value) (h : Heap) (L : List Loc) : Prop := ∃ (r : Addr), v = none ∧ Fr n0 L ∧ Keep h0 h [a] ∧ Exa Z h a "com/example/levy/levy/api/ApiException" ∧ Fld Z h a "com/example/levy/levy/api/ApiException" "errors" "Ljava/util/List;" (.ref r) ∧ h0.size ≤ r ∧ Exa Z h r "java/util/ImmutableCollections$List12" ∧ Fld Z h r "java/util/ImmutableCollections$List12" "e0" "Ljava/lang/Object;" (.ref y0)
theorem pn_com_example_levy_levy_api_ApiException : plainName "com/example/levy/levy/api/ApiException" = true := by first | (simp [plainName, overriddenIn]; done) | decide +kernel
set_option maxRecDepth 65536 in
set_option maxHeartbeats 40000000 in
theorem rmaxInit1 (l : Launch) (Z : State) (a0 : Array Value) (hw : ∀ d ∈ tables_1, d.before a0 Z = true) (ws : List Jvm.Cond) (a : Addr) (li : Addr) (y0 : Addr) (b : Addr) (kb : ClassId) (mr : Addr) (ms : Addr) (em : Addr) (u0 : Value) (u1 : Value) (u2 : Value) (u3 : Value) (us : Value) (se : Value) (o0 : Value) (h0 : Heap) (n0 : Nat) (O0 : Old Z n0 h0) (hl : (l.stackTraces = true)) (hp1 : Exa Z h0 a "com/example/levy/levy/api/ApiException") (hp2 : Unt h0 a) (hp3 : n0 ≤ a) (hp4 : Fld Z h0 a "java/lang/Throwable" "cause" "Ljava/lang/Throwable;" u0) (hp5 : Fld Z h0 a "java/lang/Throwable" "stackTrace" "[Ljava/lang/StackTraceElement;" u1) (hp6 : Fld Z h0 a "java/lang/Throwable" "suppressedExceptions" "Ljava/util/List;" u2) (hp7 : Fld Z h0 a "java/lang/Throwable" "detailMessage" "Ljava/lang/String;" u3) (hp8 : Fld Z h0 a "java/lang/Throwable" "backtrace" "Ljava/lang/Object;" .null) (hp9 : Fld Z h0 a "com/example/levy/levy/api/ApiException" "errors" "Ljava/util/List;" o0) (hp10 : Sta Z Z.heap "java/lang/Throwable" "UNASSIGNED_STACK" "[Ljava/lang/StackTraceElement;" us) (hp11 : Sta Z Z.heap "java/lang/Throwable" "SUPPRESSED_SENTINEL" "Ljava/util/List;" se) (hus : (us.isRef = true)) (hse : (se.isRef = true)) (hp14 : Exa Z h0 li "java/util/ArrayList") (hp15 : Fld Z h0 li "java/util/ArrayList" "elementData" "[Ljava/lang/Object;" (.ref b)) (hp16 : Fld Z h0 li "java/util/ArrayList" "size" "I" (.int (1 : Int32))) (hp17 : Arv Z h0 b kb (.object "java/lang/Object") (10 : Int32) [(.ref y0), .null, .null, .null, .null, .null, .null, .null, .null, .null] .null) (mro : (own_Mr Z "[Ljava/lang/Object;" mr)) (hp19 : Exa Z h0 b "[Ljava/lang/Object;") (hp20 : Exa Z h0 y0 "com/example/levy/levy/api/ApiError") (hp21 : Sta Z Z.heap "java/util/ImmutableCollections" "EMPTY" "Ljava/lang/Object;" (.ref em)) (hp22 : Fld Z h0 y0 "com/example/levy/levy/api/ApiError" "message" "Ljava/lang/String;" (.ref ms)) :
    MetFree l mN45 (head1 (Jvm.Cond.code mN45 prog_2_method_1_code 2 none :: ws) ({ frames := 8, cells := 3, slots := 2755, locals := 117 } : Room)) (fun as_ U => as_ = #[(.ref a), (.ref li)] ∧ Z.Warmed39 U.vm ∧ U.heap = h0) (fun _ _ bl s _ => s.vm.MethodsKnown ∧ s.vm.FramesKnown bl) (fun _ U o U' => ∃ v L, o = .returned v ∧ QaxInit1 Z a li y0 b kb mr ms em u0 u1 u2 u3 us se o0 h0 n0 v U'.heap L ∧ FrameEnd U o U' L ({ frames := 8, cells := 3, slots := 2755, locals := 117 } : Room).cells ({ frames := 8, cells := 3, slots := 2755, locals := 117 } : Room).slots) := by
  refine MetFree.of_bodySF (plainFor_of_name pn_com_example_levy_levy_api_ApiException) hisR ?_
  intro p e s m args below meth c s₁ Bd hml0 hP hK
  obtain ⟨rfl, hZ, hh⟩ := hP
  have hx := Bd.exec
  obtain ⟨hTK, hBelow⟩ := hK
  have hby := Bd.bytes
  have hml : c.maxLocals = 2 := hml0
  have hown : s.vm.findClass "com/example/levy/levy/api/ApiException" = some m.cls := findClass_of_methodNamed Bd.named
  have hnm := (name_of_methodNamed Bd.named Bd.method).1
  have X0 : Stand p l e ({ frames := 8, cells := 3, slots := 2755, locals := 117 } : Room) s m #[(.ref a), (.ref li)] below meth c s₁ [] 0 0 := Stand.of_body Bd
  have e0 : s₁.heap = h0 := by rw [← hh, Bd.state]; rfl
  have N0 := Fr.nil n0
  have Z0 := own_z0 O0
  have pre0 : ∀ tg_, Steps p.tables e below (s₁.setTop (mkF m 0 #[.val (.ref a), .val (.ref li)] [])) tg_ → Steps p.tables e below (s₁.setTop (entryFrame m #[(.ref a), (.ref li)] 2)) tg_ := fun tg_ kt_ => castTop (ef_axInit1 m a li) kt_
  obtain ⟨cq1, kq1, q1a, q1b, q1c⟩ := isOf hZ e0 hp14
  obtain ⟨_, _, ⟨T1, L1, k1, n1⟩, -, X1, ⟨Lc1, hQ1, l1, y1, z1⟩, st1⟩ := X0.interfaceBack hx (xi := mN44) (y := mN19) hown (mvT hZ (hw _ w_115)) (mvT hZ (hw _ w_116)) (mvT hZ (hw _ w_117)) (mvT hZ (hw _ w_118)) (mvT hZ (hw _ w_119)) (mvT hZ (hw _ w_120)) (mvT hZ (hw _ w_121)) (mvT hZ (hw _ w_122)) (by decide) (backOf (W := 1) (rmalGet1 l Z a0 hw [] li y0 b kb h0 n0 O0 hp14 hp15 hp16 hp17) hZ (hw _ w_123) (hw _ w_56) (by decide) (by decide)) q1a q1b q1c (g := (mkF m 3 #[.val (.ref a), .val (.ref li)] [(.int (0 : Int32)), (.ref li), (.ref a)])) rfl (by rw [hml]; rfl) (Steps.refl _) (argsL := [(.int (0 : Int32))]) (rest := [(.ref a)]) (lenOf pd__I_Ljava_lang_Object_ rfl) rfl (by show 2 * 0 + _ ≤ _; exact Nat.le_of_eq rfl) (hb hby d17_3) (fun _ _ => ⟨rfl, e0, (by decide : 0 + 0 ≤ _), (by decide : 0 + 0 ≤ _)⟩)
  dsimp only [Pt.U, Pt.locs, Pt.cells, Pt.slots] at X1 l1 y1 z1 st1 hQ1
  subst l1 y1 z1
  obtain ⟨rfl, N1q, eh1⟩ := hQ1
  have N1 := Fr.app N0 N1q
  obtain ⟨T2, X2, e2, st2⟩ := castY X1 hx hZ hown (hw _ w_137) eh1 (Ins.self hp20) (g := (mkF m 8 #[.val (.ref a), .val (.ref li)] [(.ref y0), (.ref a)])) rfl rfl (hb hby d17_8)
  obtain ⟨cq3, kq3, q3a, q3b, q3c⟩ := isOf hZ e2 hp20
  obtain ⟨_, _, ⟨T3, L3, k3, n3⟩, -, X3, ⟨Lc3, hQ3, l3, y3, z3⟩, st3⟩ := X2.virtualBack hx (y := mN20) (z := mN20) hown (mvT hZ (hw _ w_139)) (mvT hZ (hw _ w_140)) (notFace_of_selects (args := #[]) (mvT hZ (hw _ w_142))) (mvT hZ (hw _ w_142)) (mvT hZ (hw _ w_141)) (by decide) (backOf (W := 1) (rmmessage l Z a0 hw [] y0 ms h0 n0 O0 hp22) hZ (hw _ w_143) (hw _ w_3) (by decide) (by decide)) q3a q3c (g := (mkF m 11 #[.val (.ref a), .val (.ref li)] [(.ref y0), (.ref a)])) rfl (by rw [hml]; rfl) (Steps.refl _) (argsL := []) (rest := [(.ref a)]) (lenOf pd___Ljava_lang_String_ rfl) rfl (by show 2 * 0 + _ ≤ _; exact Nat.le_of_eq rfl) (hb hby d17_11) (fun _ _ => ⟨rfl, e2, (by decide : 0 + 0 ≤ _), (by decide : 0 + 0 ≤ _)⟩)
  dsimp only [Pt.U, Pt.locs, Pt.cells, Pt.slots] at X3 l3 y3 z3 st3 hQ3
  subst l3 y3 z3
  obtain ⟨rfl, N3q, eh3⟩ := hQ3
  have N3 := Fr.app N1 N3q
  obtain ⟨_, _, ⟨T4, L4, k4, n4⟩, -, X4, ⟨Lc4, hQ4, l4, y4, z4⟩, st4⟩ := X3.specialBack hx (y := mN43) rfl hown (mvT hZ (hw _ w_144)) (mvT hZ (hw _ w_145)) (mvT hZ (hw _ w_148)) (by decide) (backOfKL (W := 0) (rmexcI1 l Z a0 hw [] a ms u0 u1 u2 u3 us se o0 h0 n0 O0 hl hp1 hp2 hp3 hp4 hp5 hp6 hp7 hp8 hp9 hp10 hp11 hus hse) hZ (hw _ w_148) (hw _ w_147) (by decide) (by decide) hTK hBelow) (g := (mkF m 14 #[.val (.ref a), .val (.ref li)] [(.ref ms), (.ref a)])) rfl (by rw [hml]; rfl) (Steps.refl _) (a := a) (argsL := [(.ref ms)]) (rest := []) (lenOf pd__Ljava_lang_String__V rfl) rfl (by show 2 * 0 + _ ≤ _; exact Nat.le_of_eq rfl) (hb hby d17_14) (fun _ _ => ⟨rfl, eh3, (by decide : 0 + 1 ≤ _), (by decide : 0 + 2752 ≤ _)⟩)
  dsimp only [Pt.U, Pt.locs, Pt.cells, Pt.slots] at X4 l4 y4 z4 st4 hQ4
  subst l4 y4 z4
  obtain ⟨rfl, N4q, Kc4, r4_1, r4_2⟩ := hQ4
  have N4 := Fr.app N3 N4q
  have O4 : Old Z n0 T4.heap := O0.keep Kc4 (allS hp3 all0)
  have K4 : Keep h0 T4.heap [a] := (Keep.refl h0 [a]).trans Kc4 (allS (Or.inl (List.mem_of_getElem? (i := 0) rfl)) all0)
  obtain ⟨_, _, ⟨T5, L5, k5, n5⟩, -, X5, ⟨Lc5, hQ5, l5, y5, z5⟩, st5⟩ := Jvm.LawKit.callS X4 hx (y := mN38) hown (mvT hZ (hw _ w_197)) (mvT hZ (hw _ w_198)) (mvT hZ (hw _ w_199)) (mvT hZ (hw _ w_200)) (by decide) (backOf (W := 1) (rmcopyOf1 l Z a0 hw [] li y0 b kb mr em T4.heap n0 O4 (hp14.keep Kc4) (hp15.keep Kc4 (ninS (ne_exa hp14 hp1 (by decide)) nin0)) (hp16.keep Kc4 (ninS (ne_exa hp14 hp1 (by decide)) nin0)) (hp17.keep Kc4 (ninS (ne_exa hp19 hp1 (by decide)) nin0)) mro (hp19.keep Kc4) (Ins.of_exa (hp20.keep Kc4) (hw _ w_108)) hp21) hZ (hw _ w_200) (hw _ w_199) (by decide) (by decide)) (g := (mkF m 19 #[.val (.ref a), .val (.ref li)] [(.ref li), (.ref a)])) rfl (by rw [hml]; rfl) (argsL := [(.ref li)]) (rest := [(.ref a)]) (lenOf pd__Ljava_util_Collection__Ljava_util_List_ rfl) rfl (by show 2 * 0 + _ ≤ _; exact Nat.le_of_eq rfl) (hb hby d17_19) (fun _ _ => ⟨rfl, rfl, (by decide : 1 + 2 ≤ _), (by decide : 2752 + 3 ≤ _)⟩)
  dsimp only [Pt.U, Pt.locs, Pt.cells, Pt.slots] at X5 l5 y5 z5 st5 hQ5
  subst l5 y5 z5
  obtain ⟨r_5, rfl, N5q, Kc5, r5_1, r5_2, r5_3⟩ := hQ5
  have N5 := Fr.app N4 N5q
  have sz6 : h0.size ≤ r_5 := Nat.le_trans K4.1 r5_1
  have gn6 : n0 ≤ r_5 := Nat.le_trans Z0 sz6
  have O5 : Old Z n0 T5.heap := O4.keep Kc5 all0
  have K5 : Keep h0 T5.heap [a] := K4.trans Kc5 all0
  obtain ⟨T8, h8, X8, e8, W8, st8⟩ := putF X5 hx hZ hown (host := "") (Or.inl (hw _ w_281)) Via.refl rfl (r4_2.keep Kc5 nin0) (r4_1.keep Kc5) (Or.inr ⟨(hw _ w_282), rfl, hnm⟩) (hw _ w_110) (ty := (.object "java/util/List")) (by decide) rfl rfl (g := (mkF m 22 #[.val (.ref a), .val (.ref li)] [(.ref r_5), (.ref a)])) rfl rfl (hb hby d17_22)
  have Fw8 := (r4_2.keep Kc5 nin0).same W8
  have N8 := Fr.snoc X8 N5 hp3
  have O8 : Old Z n0 h8 := O5.wr W8 hp3
  have K8 : Keep h0 h8 [a] := K5.wr W8 (Or.inl (List.mem_of_getElem? (i := 0) rfl))
  obtain ⟨fs, hr, hrun, hended, hW, hsame⟩ := X8.leave (v := none) (fun _ => rfl)
  refine ⟨_, _, pre0 _ ?_, hrun, hended, _, _, rfl, ?_, ⟨_, rfl⟩, hW, hsame.mono (by decide) (by decide)⟩
  · refine XS.aloadN X0.here hx rfl (hb hby d17_0) rfl rfl ?_
    refine XS.aloadN X0.here hx rfl (hb hby d17_1) rfl rfl ?_
    refine XS.iconst X0.here hx rfl (hb hby d17_2) ?_
    show Steps p.tables e below (s₁.setTop (mkF m 3 #[.val (.ref a), .val (.ref li)] [(.int (0 : Int32)), (.ref li), (.ref a)])) _
    refine st1.trans ?_
    show Steps p.tables e below (T1.setTop (mkF m 8 #[.val (.ref a), .val (.ref li)] [(.ref y0), (.ref a)])) _
    refine st2 _ ?_
    show Steps p.tables e below (T2.setTop (mkF m 11 #[.val (.ref a), .val (.ref li)] [(.ref y0), (.ref a)])) _
    refine st3.trans ?_
    show Steps p.tables e below (T3.setTop (mkF m 14 #[.val (.ref a), .val (.ref li)] [(.ref ms), (.ref a)])) _
    refine st4.trans ?_
    refine XS.aloadN X4.here hx rfl (hb hby d17_17) rfl rfl ?_
    refine XS.aloadN X4.here hx rfl (hb hby d17_18) rfl rfl ?_
    show Steps p.tables e below (T4.setTop (mkF m 19 #[.val (.ref a), .val (.ref li)] [(.ref li), (.ref a)])) _
    refine st5 _ ?_
    show Steps p.tables e below (T5.setTop (mkF m 22 #[.val (.ref a), .val (.ref li)] [(.ref r_5), (.ref a)])) _
    refine st8 _ ?_
    show Steps p.tables e below (T8.setTop (mkF m 25 #[.val (.ref a), .val (.ref li)] [])) _
    exact X8.returnOut hx Bd.returns (hb hby d17_25) hr
  · show QaxInit1 Z a li y0 b kb mr ms em u0 u1 u2 u3 us se o0 h0 n0 _ T8.heap _
    rw [e8]
    exact ⟨r_5, rfl, N8, K8, ((r4_1.keep Kc5).wr W8), Fw8, sz6, (r5_2.wr W8), (r5_3.other W8 (Or.inl (Ne.symm (Nat.ne_of_lt (Nat.lt_of_lt_of_le r4_1.lt r5_1)))))⟩
theorem ef_axInit2 (m : MethodId) (x0 : Addr) (x1 : Addr) : entryFrame m #[(.ref x0), (.ref x1)] 2 = mkF m 0 #[.val (.ref x0), .val (.ref x1)] [] := by first | (simp [entryFrame, mkF, argsToLocals, Value.category]; done) | rfl
def QaxInit2 (Z : State) (a : Addr) (li : Addr) (y0 : Addr) (y1 : Addr) (b : Addr) (kb : ClassId) (mr : Addr) (ms : Addr) (u0 : Value) (u1 : Value) (u2 : Value) (u3 : Value) (us : Value) (se : Value) (o0 : Value) (h0 : Heap) (n0 : Nat) (v : Option Value) (h : Heap) (L : List Loc) : Prop := ∃ (r : Addr), v = none ∧ Fr n0 L ∧ Keep h0 h [a] ∧ Exa Z h a "com/example/levy/levy/api/ApiException" ∧ Fld Z h a "com/example/levy/levy/api/ApiException" "errors" "Ljava/util/List;" (.ref r) ∧ h0.size ≤ r ∧ Exa Z h r "java/util/ImmutableCollections$List12" ∧ Fld Z h r "java/util/ImmutableCollections$List12" "e0" "Ljava/lang/Object;" (.ref y0)
set_option maxRecDepth 65536 in
set_option maxHeartbeats 40000000 in
theorem rmaxInit2 (l : Launch) (Z : State) (a0 : Array Value) (hw : ∀ d ∈ tables_1, d.before a0 Z = true) (ws : List Jvm.Cond) (a : Addr) (li : Addr) (y0 : Addr) (y1 : Addr) (b : Addr) (kb : ClassId) (mr : Addr) (ms : Addr) (u0 : Value) (u1 : Value) (u2 : Value) (u3 : Value) (us : Value) (se : Value) (o0 : Value) (h0 : Heap) (n0 : Nat) (O0 : Old Z n0 h0) (hl : (l.stackTraces = true)) (hp1 : Exa Z h0 a "com/example/levy/levy/api/ApiException") (hp2 : Unt h0 a) (hp3 : n0 ≤ a) (hp4 : Fld Z h0 a "java/lang/Throwable" "cause" "Ljava/lang/Throwable;" u0) (hp5 : Fld Z h0 a "java/lang/Throwable" "stackTrace" "[Ljava/lang/StackTraceElement;" u1) (hp6 : Fld Z h0 a "java/lang/Throwable" "suppressedExceptions" "Ljava/util/List;" u2) (hp7 : Fld Z h0 a "java/lang/Throwable" "detailMessage" "Ljava/lang/String;" u3) (hp8 : Fld Z h0 a "java/lang/Throwable" "backtrace" "Ljava/lang/Object;" .null) (hp9 : Fld Z h0 a "com/example/levy/levy/api/ApiException" "errors" "Ljava/util/List;" o0) (hp10 : Sta Z Z.heap "java/lang/Throwable" "UNASSIGNED_STACK" "[Ljava/lang/StackTraceElement;" us) (hp11 : Sta Z Z.heap "java/lang/Throwable" "SUPPRESSED_SENTINEL" "Ljava/util/List;" se) (hus : (us.isRef = true)) (hse : (se.isRef = true)) (hp14 : Exa Z h0 li "java/util/ArrayList") (hp15 : Fld Z h0 li "java/util/ArrayList" "elementData" "[Ljava/lang/Object;" (.ref b)) (hp16 : Fld Z h0 li "java/util/ArrayList" "size" "I" (.int (2 : Int32))) (hp17 : Arv Z h0 b kb (.object "java/lang/Object") (10 : Int32) [(.ref y0), (.ref y1), .null, .null, .null, .null, .null, .null, .null, .null] .null) (mro : (own_Mr Z "[Ljava/lang/Object;" mr)) (hp19 : Exa Z h0 b "[Ljava/lang/Object;") (hp20 : Exa Z h0 y0 "com/example/levy/levy/api/ApiError") (hp21 : Exa Z h0 y1 "com/example/levy/levy/api/ApiError") (hp22 : Fld Z h0 y0 "com/example/levy/levy/api/ApiError" "message" "Ljava/lang/String;" (.ref ms)) :
    MetFree l mN45 (head1 (Jvm.Cond.code mN45 prog_2_method_1_code 2 none :: ws) ({ frames := 8, cells := 3, slots := 2756, locals := 117 } : Room)) (fun as_ U => as_ = #[(.ref a), (.ref li)] ∧ Z.Warmed39 U.vm ∧ U.heap = h0) (fun _ _ bl s _ => s.vm.MethodsKnown ∧ s.vm.FramesKnown bl) (fun _ U o U' => ∃ v L, o = .returned v ∧ QaxInit2 Z a li y0 y1 b kb mr ms u0 u1 u2 u3 us se o0 h0 n0 v U'.heap L ∧ FrameEnd U o U' L ({ frames := 8, cells := 3, slots := 2756, locals := 117 } : Room).cells ({ frames := 8, cells := 3, slots := 2756, locals := 117 } : Room).slots) := by
  refine MetFree.of_bodySF (plainFor_of_name pn_com_example_levy_levy_api_ApiException) hisR ?_
  intro p e s m args below meth c s₁ Bd hml0 hP hK
  obtain ⟨rfl, hZ, hh⟩ := hP
  have hx := Bd.exec
  obtain ⟨hTK, hBelow⟩ := hK
  have hby := Bd.bytes
  have hml : c.maxLocals = 2 := hml0
  have hown : s.vm.findClass "com/example/levy/levy/api/ApiException" = some m.cls := findClass_of_methodNamed Bd.named
  have hnm := (name_of_methodNamed Bd.named Bd.method).1
  have X0 : Stand p l e ({ frames := 8, cells := 3, slots := 2756, locals := 117 } : Room) s m #[(.ref a), (.ref li)] below meth c s₁ [] 0 0 := Stand.of_body Bd
  have e0 : s₁.heap = h0 := by rw [← hh, Bd.state]; rfl
  have N0 := Fr.nil n0
  have Z0 := own_z0 O0
  have pre0 : ∀ tg_, Steps p.tables e below (s₁.setTop (mkF m 0 #[.val (.ref a), .val (.ref li)] [])) tg_ → Steps p.tables e below (s₁.setTop (entryFrame m #[(.ref a), (.ref li)] 2)) tg_ := fun tg_ kt_ => castTop (ef_axInit2 m a li) kt_
  obtain ⟨cq1, kq1, q1a, q1b, q1c⟩ := isOf hZ e0 hp14
  obtain ⟨_, _, ⟨T1, L1, k1, n1⟩, -, X1, ⟨Lc1, hQ1, l1, y1, z1⟩, st1⟩ := X0.interfaceBack hx (xi := mN44) (y := mN19) hown (mvT hZ (hw _ w_115)) (mvT hZ (hw _ w_116)) (mvT hZ (hw _ w_117)) (mvT hZ (hw _ w_118)) (mvT hZ (hw _ w_119)) (mvT hZ (hw _ w_120)) (mvT hZ (hw _ w_121)) (mvT hZ (hw _ w_122)) (by decide) (backOf (W := 1) (rmalGet2 l Z a0 hw [] li y0 y1 b kb h0 n0 O0 hp14 hp15 hp16 hp17) hZ (hw _ w_123) (hw _ w_56) (by decide) (by decide)) q1a q1b q1c (g := (mkF m 3 #[.val (.ref a), .val (.ref li)] [(.int (0 : Int32)), (.ref li), (.ref a)])) rfl (by rw [hml]; rfl) (Steps.refl _) (argsL := [(.int (0 : Int32))]) (rest := [(.ref a)]) (lenOf pd__I_Ljava_lang_Object_ rfl) rfl (by show 2 * 0 + _ ≤ _; exact Nat.le_of_eq rfl) (hb hby d17_3) (fun _ _ => ⟨rfl, e0, (by decide : 0 + 0 ≤ _), (by decide : 0 + 0 ≤ _)⟩)
  dsimp only [Pt.U, Pt.locs, Pt.cells, Pt.slots] at X1 l1 y1 z1 st1 hQ1
  subst l1 y1 z1
  obtain ⟨rfl, N1q, eh1⟩ := hQ1
  have N1 := Fr.app N0 N1q
  obtain ⟨T2, X2, e2, st2⟩ := castY X1 hx hZ hown (hw _ w_137) eh1 (Ins.self hp20) (g := (mkF m 8 #[.val (.ref a), .val (.ref li)] [(.ref y0), (.ref a)])) rfl rfl (hb hby d17_8)
  obtain ⟨cq3, kq3, q3a, q3b, q3c⟩ := isOf hZ e2 hp20
  obtain ⟨_, _, ⟨T3, L3, k3, n3⟩, -, X3, ⟨Lc3, hQ3, l3, y3, z3⟩, st3⟩ := X2.virtualBack hx (y := mN20) (z := mN20) hown (mvT hZ (hw _ w_139)) (mvT hZ (hw _ w_140)) (notFace_of_selects (args := #[]) (mvT hZ (hw _ w_142))) (mvT hZ (hw _ w_142)) (mvT hZ (hw _ w_141)) (by decide) (backOf (W := 1) (rmmessage l Z a0 hw [] y0 ms h0 n0 O0 hp22) hZ (hw _ w_143) (hw _ w_3) (by decide) (by decide)) q3a q3c (g := (mkF m 11 #[.val (.ref a), .val (.ref li)] [(.ref y0), (.ref a)])) rfl (by rw [hml]; rfl) (Steps.refl _) (argsL := []) (rest := [(.ref a)]) (lenOf pd___Ljava_lang_String_ rfl) rfl (by show 2 * 0 + _ ≤ _; exact Nat.le_of_eq rfl) (hb hby d17_11) (fun _ _ => ⟨rfl, e2, (by decide : 0 + 0 ≤ _), (by decide : 0 + 0 ≤ _)⟩)
  dsimp only [Pt.U, Pt.locs, Pt.cells, Pt.slots] at X3 l3 y3 z3 st3 hQ3
  subst l3 y3 z3
  obtain ⟨rfl, N3q, eh3⟩ := hQ3
  have N3 := Fr.app N1 N3q
  obtain ⟨_, _, ⟨T4, L4, k4, n4⟩, -, X4, ⟨Lc4, hQ4, l4, y4, z4⟩, st4⟩ := X3.specialBack hx (y := mN43) rfl hown (mvT hZ (hw _ w_144)) (mvT hZ (hw _ w_145)) (mvT hZ (hw _ w_148)) (by decide) (backOfKL (W := 0) (rmexcI1 l Z a0 hw [] a ms u0 u1 u2 u3 us se o0 h0 n0 O0 hl hp1 hp2 hp3 hp4 hp5 hp6 hp7 hp8 hp9 hp10 hp11 hus hse) hZ (hw _ w_148) (hw _ w_147) (by decide) (by decide) hTK hBelow) (g := (mkF m 14 #[.val (.ref a), .val (.ref li)] [(.ref ms), (.ref a)])) rfl (by rw [hml]; rfl) (Steps.refl _) (a := a) (argsL := [(.ref ms)]) (rest := []) (lenOf pd__Ljava_lang_String__V rfl) rfl (by show 2 * 0 + _ ≤ _; exact Nat.le_of_eq rfl) (hb hby d17_14) (fun _ _ => ⟨rfl, eh3, (by decide : 0 + 1 ≤ _), (by decide : 0 + 2752 ≤ _)⟩)
  dsimp only [Pt.U, Pt.locs, Pt.cells, Pt.slots] at X4 l4 y4 z4 st4 hQ4
  subst l4 y4 z4
  obtain ⟨rfl, N4q, Kc4, r4_1, r4_2⟩ := hQ4
  have N4 := Fr.app N3 N4q
  have O4 : Old Z n0 T4.heap := O0.keep Kc4 (allS hp3 all0)
  have K4 : Keep h0 T4.heap [a] := (Keep.refl h0 [a]).trans Kc4 (allS (Or.inl (List.mem_of_getElem? (i := 0) rfl)) all0)
  obtain ⟨_, _, ⟨T5, L5, k5, n5⟩, -, X5, ⟨Lc5, hQ5, l5, y5, z5⟩, st5⟩ := Jvm.LawKit.callS X4 hx (y := mN38) hown (mvT hZ (hw _ w_197)) (mvT hZ (hw _ w_198)) (mvT hZ (hw _ w_199)) (mvT hZ (hw _ w_200)) (by decide) (backOf (W := 1) (rmcopyOf2 l Z a0 hw [] li y0 y1 b kb mr T4.heap n0 O4 (hp14.keep Kc4) (hp15.keep Kc4 (ninS (ne_exa hp14 hp1 (by decide)) nin0)) (hp16.keep Kc4 (ninS (ne_exa hp14 hp1 (by decide)) nin0)) (hp17.keep Kc4 (ninS (ne_exa hp19 hp1 (by decide)) nin0)) mro (hp19.keep Kc4) (Ins.of_exa (hp20.keep Kc4) (hw _ w_108)) (Ins.of_exa (hp21.keep Kc4) (hw _ w_108))) hZ (hw _ w_200) (hw _ w_199) (by decide) (by decide)) (g := (mkF m 19 #[.val (.ref a), .val (.ref li)] [(.ref li), (.ref a)])) rfl (by rw [hml]; rfl) (argsL := [(.ref li)]) (rest := [(.ref a)]) (lenOf pd__Ljava_util_Collection__Ljava_util_List_ rfl) rfl (by show 2 * 0 + _ ≤ _; exact Nat.le_of_eq rfl) (hb hby d17_19) (fun _ _ => ⟨rfl, rfl, (by decide : 1 + 2 ≤ _), (by decide : 2752 + 4 ≤ _)⟩)
  dsimp only [Pt.U, Pt.locs, Pt.cells, Pt.slots] at X5 l5 y5 z5 st5 hQ5
  subst l5 y5 z5
  obtain ⟨r_5, rfl, N5q, Kc5, r5_1, r5_2, r5_3⟩ := hQ5
  have N5 := Fr.app N4 N5q
  have sz6 : h0.size ≤ r_5 := Nat.le_trans K4.1 r5_1
  have gn6 : n0 ≤ r_5 := Nat.le_trans Z0 sz6
  have O5 : Old Z n0 T5.heap := O4.keep Kc5 all0
  have K5 : Keep h0 T5.heap [a] := K4.trans Kc5 all0
  obtain ⟨T8, h8, X8, e8, W8, st8⟩ := putF X5 hx hZ hown (host := "") (Or.inl (hw _ w_281)) Via.refl rfl (r4_2.keep Kc5 nin0) (r4_1.keep Kc5) (Or.inr ⟨(hw _ w_282), rfl, hnm⟩) (hw _ w_110) (ty := (.object "java/util/List")) (by decide) rfl rfl (g := (mkF m 22 #[.val (.ref a), .val (.ref li)] [(.ref r_5), (.ref a)])) rfl rfl (hb hby d17_22)
  have Fw8 := (r4_2.keep Kc5 nin0).same W8
  have N8 := Fr.snoc X8 N5 hp3
  have O8 : Old Z n0 h8 := O5.wr W8 hp3
  have K8 : Keep h0 h8 [a] := K5.wr W8 (Or.inl (List.mem_of_getElem? (i := 0) rfl))
  obtain ⟨fs, hr, hrun, hended, hW, hsame⟩ := X8.leave (v := none) (fun _ => rfl)
  refine ⟨_, _, pre0 _ ?_, hrun, hended, _, _, rfl, ?_, ⟨_, rfl⟩, hW, hsame.mono (by decide) (by decide)⟩
  · refine XS.aloadN X0.here hx rfl (hb hby d17_0) rfl rfl ?_
    refine XS.aloadN X0.here hx rfl (hb hby d17_1) rfl rfl ?_
    refine XS.iconst X0.here hx rfl (hb hby d17_2) ?_
    show Steps p.tables e below (s₁.setTop (mkF m 3 #[.val (.ref a), .val (.ref li)] [(.int (0 : Int32)), (.ref li), (.ref a)])) _
    refine st1.trans ?_
    show Steps p.tables e below (T1.setTop (mkF m 8 #[.val (.ref a), .val (.ref li)] [(.ref y0), (.ref a)])) _
    refine st2 _ ?_
    show Steps p.tables e below (T2.setTop (mkF m 11 #[.val (.ref a), .val (.ref li)] [(.ref y0), (.ref a)])) _
    refine st3.trans ?_
    show Steps p.tables e below (T3.setTop (mkF m 14 #[.val (.ref a), .val (.ref li)] [(.ref ms), (.ref a)])) _
    refine st4.trans ?_
    refine XS.aloadN X4.here hx rfl (hb hby d17_17) rfl rfl ?_
    refine XS.aloadN X4.here hx rfl (hb hby d17_18) rfl rfl ?_
    show Steps p.tables e below (T4.setTop (mkF m 19 #[.val (.ref a), .val (.ref li)] [(.ref li), (.ref a)])) _
    refine st5 _ ?_
    show Steps p.tables e below (T5.setTop (mkF m 22 #[.val (.ref a), .val (.ref li)] [(.ref r_5), (.ref a)])) _
    refine st8 _ ?_
    show Steps p.tables e below (T8.setTop (mkF m 25 #[.val (.ref a), .val (.ref li)] [])) _
    exact X8.returnOut hx Bd.returns (hb hby d17_25) hr
  · show QaxInit2 Z a li y0 y1 b kb mr ms u0 u1 u2 u3 us se o0 h0 n0 _ T8.heap _
    rw [e8]
    exact ⟨r_5, rfl, N8, K8, ((r4_1.keep Kc5).wr W8), Fw8, sz6, (r5_2.wr W8), (r5_3.other W8 (Or.inl (Ne.symm (Nat.ne_of_lt (Nat.lt_of_lt_of_le r4_1.lt r5_1)))))⟩
theorem ef_axInit3 (m : MethodId) (x0 : Addr) (x1 : Addr) : entryFrame m #[(.ref x0), (.ref x1)] 2 = mkF m 0 #[.val (.ref x0), .val (.ref x1)] [] := by first | (simp [entryFrame, mkF, argsToLocals, Value.category]; done) | rfl
def QaxInit3 (Z : State) (a : Addr) (li : Addr) (y0 : Addr) (y1 : Addr) (y2 : Addr) (b : Addr) (kb : ClassId) (mr : Addr) (ms : Addr) (u0 : Value) (u1 : Value) (u2 : Value) (u3 : Value) (us : Value) (se : Value) (o0 : Value) (h0 : Heap) (n0 : Nat) (v : Option Value) (h : Heap) (L : List Loc) : Prop := ∃ (r : Addr), ∃ (q : Addr), ∃ (kq : ClassId), v = none ∧ Fr n0 L ∧ Keep h0 h [a] ∧ Exa Z h a "com/example/levy/levy/api/ApiException" ∧ Fld Z h a "com/example/levy/levy/api/ApiException" "errors" "Ljava/util/List;" (.ref r) ∧ h0.size ≤ r ∧ Exa Z h r "java/util/ImmutableCollections$ListN" ∧ Fld Z h r "java/util/ImmutableCollections$ListN" "elements" "[Ljava/lang/Object;" (.ref q) ∧ Arv Z h q kq (.object "java/lang/Object") (3 : Int32) [(.ref y0), (.ref y1), (.ref y2)] .null
set_option maxRecDepth 65536 in
set_option maxHeartbeats 40000000 in
theorem rmaxInit3 (l : Launch) (Z : State) (a0 : Array Value) (hw : ∀ d ∈ tables_1, d.before a0 Z = true) (ws : List Jvm.Cond) (a : Addr) (li : Addr) (y0 : Addr) (y1 : Addr) (y2 : Addr) (b : Addr) (kb : ClassId) (mr : Addr) (ms : Addr) (u0 : Value) (u1 : Value) (u2 : Value) (u3 : Value) (us : Value) (se : Value) (o0 : Value) (h0 : Heap) (n0 : Nat) (O0 : Old Z n0 h0) (hl : (l.stackTraces = true)) (hp1 : Exa Z h0 a "com/example/levy/levy/api/ApiException") (hp2 : Unt h0 a) (hp3 : n0 ≤ a) (hp4 : Fld Z h0 a "java/lang/Throwable" "cause" "Ljava/lang/Throwable;" u0) (hp5 : Fld Z h0 a "java/lang/Throwable" "stackTrace" "[Ljava/lang/StackTraceElement;" u1) (hp6 : Fld Z h0 a "java/lang/Throwable" "suppressedExceptions" "Ljava/util/List;" u2) (hp7 : Fld Z h0 a "java/lang/Throwable" "detailMessage" "Ljava/lang/String;" u3) (hp8 : Fld Z h0 a "java/lang/Throwable" "backtrace" "Ljava/lang/Object;" .null) (hp9 : Fld Z h0 a "com/example/levy/levy/api/ApiException" "errors" "Ljava/util/List;" o0) (hp10 : Sta Z Z.heap "java/lang/Throwable" "UNASSIGNED_STACK" "[Ljava/lang/StackTraceElement;" us) (hp11 : Sta Z Z.heap "java/lang/Throwable" "SUPPRESSED_SENTINEL" "Ljava/util/List;" se) (hus : (us.isRef = true)) (hse : (se.isRef = true)) (hp14 : Exa Z h0 li "java/util/ArrayList") (hp15 : Fld Z h0 li "java/util/ArrayList" "elementData" "[Ljava/lang/Object;" (.ref b)) (hp16 : Fld Z h0 li "java/util/ArrayList" "size" "I" (.int (3 : Int32))) (hp17 : Arv Z h0 b kb (.object "java/lang/Object") (10 : Int32) [(.ref y0), (.ref y1), (.ref y2), .null, .null, .null, .null, .null, .null, .null] .null) (mro : (own_Mr Z "[Ljava/lang/Object;" mr)) (hp19 : Exa Z h0 b "[Ljava/lang/Object;") (hp20 : Exa Z h0 y0 "com/example/levy/levy/api/ApiError") (hp21 : Exa Z h0 y1 "com/example/levy/levy/api/ApiError") (hp22 : Exa Z h0 y2 "com/example/levy/levy/api/ApiError") (hp23 : Fld Z h0 y0 "com/example/levy/levy/api/ApiError" "message" "Ljava/lang/String;" (.ref ms)) :
    MetFree l mN45 (head1 (Jvm.Cond.code mN45 prog_2_method_1_code 2 none :: ws) ({ frames := 9, cells := 4, slots := 2760, locals := 117 } : Room)) (fun as_ U => as_ = #[(.ref a), (.ref li)] ∧ Z.Warmed39 U.vm ∧ U.heap = h0) (fun _ _ bl s _ => s.vm.MethodsKnown ∧ s.vm.FramesKnown bl) (fun _ U o U' => ∃ v L, o = .returned v ∧ QaxInit3 Z a li y0 y1 y2 b kb mr ms u0 u1 u2 u3 us se o0 h0 n0 v U'.heap L ∧ FrameEnd U o U' L ({ frames := 9, cells := 4, slots := 2760, locals := 117 } : Room).cells ({ frames := 9, cells := 4, slots := 2760, locals := 117 } : Room).slots) := by
  refine MetFree.of_bodySF (plainFor_of_name pn_com_example_levy_levy_api_ApiException) hisR ?_
  intro p e s m args below meth c s₁ Bd hml0 hP hK
  obtain ⟨rfl, hZ, hh⟩ := hP
  have hx := Bd.exec
  obtain ⟨hTK, hBelow⟩ := hK
  have hby := Bd.bytes
  have hml : c.maxLocals = 2 := hml0
  have hown : s.vm.findClass "com/example/levy/levy/api/ApiException" = some m.cls := findClass_of_methodNamed Bd.named
  have hnm := (name_of_methodNamed Bd.named Bd.method).1
  have X0 : Stand p l e ({ frames := 9, cells := 4, slots := 2760, locals := 117 } : Room) s m #[(.ref a), (.ref li)] below meth c s₁ [] 0 0 := Stand.of_body Bd
  have e0 : s₁.heap = h0 := by rw [← hh, Bd.state]; rfl
  have N0 := Fr.nil n0
  have Z0 := own_z0 O0
  have pre0 : ∀ tg_, Steps p.tables e below (s₁.setTop (mkF m 0 #[.val (.ref a), .val (.ref li)] [])) tg_ → Steps p.tables e below (s₁.setTop (entryFrame m #[(.ref a), (.ref li)] 2)) tg_ := fun tg_ kt_ => castTop (ef_axInit3 m a li) kt_
  obtain ⟨cq1, kq1, q1a, q1b, q1c⟩ := isOf hZ e0 hp14
  obtain ⟨_, _, ⟨T1, L1, k1, n1⟩, -, X1, ⟨Lc1, hQ1, l1, y1, z1⟩, st1⟩ := X0.interfaceBack hx (xi := mN44) (y := mN19) hown (mvT hZ (hw _ w_115)) (mvT hZ (hw _ w_116)) (mvT hZ (hw _ w_117)) (mvT hZ (hw _ w_118)) (mvT hZ (hw _ w_119)) (mvT hZ (hw _ w_120)) (mvT hZ (hw _ w_121)) (mvT hZ (hw _ w_122)) (by decide) (backOf (W := 1) (rmalGet3 l Z a0 hw [] li y0 y1 y2 b kb h0 n0 O0 hp14 hp15 hp16 hp17) hZ (hw _ w_123) (hw _ w_56) (by decide) (by decide)) q1a q1b q1c (g := (mkF m 3 #[.val (.ref a), .val (.ref li)] [(.int (0 : Int32)), (.ref li), (.ref a)])) rfl (by rw [hml]; rfl) (Steps.refl _) (argsL := [(.int (0 : Int32))]) (rest := [(.ref a)]) (lenOf pd__I_Ljava_lang_Object_ rfl) rfl (by show 2 * 0 + _ ≤ _; exact Nat.le_of_eq rfl) (hb hby d17_3) (fun _ _ => ⟨rfl, e0, (by decide : 0 + 0 ≤ _), (by decide : 0 + 0 ≤ _)⟩)
  dsimp only [Pt.U, Pt.locs, Pt.cells, Pt.slots] at X1 l1 y1 z1 st1 hQ1
  subst l1 y1 z1
  obtain ⟨rfl, N1q, eh1⟩ := hQ1
  have N1 := Fr.app N0 N1q
  obtain ⟨T2, X2, e2, st2⟩ := castY X1 hx hZ hown (hw _ w_137) eh1 (Ins.self hp20) (g := (mkF m 8 #[.val (.ref a), .val (.ref li)] [(.ref y0), (.ref a)])) rfl rfl (hb hby d17_8)
  obtain ⟨cq3, kq3, q3a, q3b, q3c⟩ := isOf hZ e2 hp20
  obtain ⟨_, _, ⟨T3, L3, k3, n3⟩, -, X3, ⟨Lc3, hQ3, l3, y3, z3⟩, st3⟩ := X2.virtualBack hx (y := mN20) (z := mN20) hown (mvT hZ (hw _ w_139)) (mvT hZ (hw _ w_140)) (notFace_of_selects (args := #[]) (mvT hZ (hw _ w_142))) (mvT hZ (hw _ w_142)) (mvT hZ (hw _ w_141)) (by decide) (backOf (W := 1) (rmmessage l Z a0 hw [] y0 ms h0 n0 O0 hp23) hZ (hw _ w_143) (hw _ w_3) (by decide) (by decide)) q3a q3c (g := (mkF m 11 #[.val (.ref a), .val (.ref li)] [(.ref y0), (.ref a)])) rfl (by rw [hml]; rfl) (Steps.refl _) (argsL := []) (rest := [(.ref a)]) (lenOf pd___Ljava_lang_String_ rfl) rfl (by show 2 * 0 + _ ≤ _; exact Nat.le_of_eq rfl) (hb hby d17_11) (fun _ _ => ⟨rfl, e2, (by decide : 0 + 0 ≤ _), (by decide : 0 + 0 ≤ _)⟩)
  dsimp only [Pt.U, Pt.locs, Pt.cells, Pt.slots] at X3 l3 y3 z3 st3 hQ3
  subst l3 y3 z3
  obtain ⟨rfl, N3q, eh3⟩ := hQ3
  have N3 := Fr.app N1 N3q
  obtain ⟨_, _, ⟨T4, L4, k4, n4⟩, -, X4, ⟨Lc4, hQ4, l4, y4, z4⟩, st4⟩ := X3.specialBack hx (y := mN43) rfl hown (mvT hZ (hw _ w_144)) (mvT hZ (hw _ w_145)) (mvT hZ (hw _ w_148)) (by decide) (backOfKL (W := 0) (rmexcI1 l Z a0 hw [] a ms u0 u1 u2 u3 us se o0 h0 n0 O0 hl hp1 hp2 hp3 hp4 hp5 hp6 hp7 hp8 hp9 hp10 hp11 hus hse) hZ (hw _ w_148) (hw _ w_147) (by decide) (by decide) hTK hBelow) (g := (mkF m 14 #[.val (.ref a), .val (.ref li)] [(.ref ms), (.ref a)])) rfl (by rw [hml]; rfl) (Steps.refl _) (a := a) (argsL := [(.ref ms)]) (rest := []) (lenOf pd__Ljava_lang_String__V rfl) rfl (by show 2 * 0 + _ ≤ _; exact Nat.le_of_eq rfl) (hb hby d17_14) (fun _ _ => ⟨rfl, eh3, (by decide : 0 + 1 ≤ _), (by decide : 0 + 2752 ≤ _)⟩)
  dsimp only [Pt.U, Pt.locs, Pt.cells, Pt.slots] at X4 l4 y4 z4 st4 hQ4
  subst l4 y4 z4
  obtain ⟨rfl, N4q, Kc4, r4_1, r4_2⟩ := hQ4
  have N4 := Fr.app N3 N4q
  have O4 : Old Z n0 T4.heap := O0.keep Kc4 (allS hp3 all0)
  have K4 : Keep h0 T4.heap [a] := (Keep.refl h0 [a]).trans Kc4 (allS (Or.inl (List.mem_of_getElem? (i := 0) rfl)) all0)
  obtain ⟨_, _, ⟨T5, L5, k5, n5⟩, -, X5, ⟨Lc5, hQ5, l5, y5, z5⟩, st5⟩ := Jvm.LawKit.callS X4 hx (y := mN38) hown (mvT hZ (hw _ w_197)) (mvT hZ (hw _ w_198)) (mvT hZ (hw _ w_199)) (mvT hZ (hw _ w_200)) (by decide) (backOf (W := 1) (rmcopyOf3 l Z a0 hw [] li y0 y1 y2 b kb mr T4.heap n0 O4 (hp14.keep Kc4) (hp15.keep Kc4 (ninS (ne_exa hp14 hp1 (by decide)) nin0)) (hp16.keep Kc4 (ninS (ne_exa hp14 hp1 (by decide)) nin0)) (hp17.keep Kc4 (ninS (ne_exa hp19 hp1 (by decide)) nin0)) mro (hp19.keep Kc4) (Ins.of_exa (hp20.keep Kc4) (hw _ w_108)) (Ins.of_exa (hp21.keep Kc4) (hw _ w_108)) (Ins.of_exa (hp22.keep Kc4) (hw _ w_108))) hZ (hw _ w_200) (hw _ w_199) (by decide) (by decide)) (g := (mkF m 19 #[.val (.ref a), .val (.ref li)] [(.ref li), (.ref a)])) rfl (by rw [hml]; rfl) (argsL := [(.ref li)]) (rest := [(.ref a)]) (lenOf pd__Ljava_util_Collection__Ljava_util_List_ rfl) rfl (by show 2 * 0 + _ ≤ _; exact Nat.le_of_eq rfl) (hb hby d17_19) (fun _ _ => ⟨rfl, rfl, (by decide : 1 + 3 ≤ _), (by decide : 2752 + 8 ≤ _)⟩)
  dsimp only [Pt.U, Pt.locs, Pt.cells, Pt.slots] at X5 l5 y5 z5 st5 hQ5
  subst l5 y5 z5
  obtain ⟨r_5, q_5, kq_5, rfl, N5q, Kc5, r5_1, r5_2, r5_3, r5_4⟩ := hQ5
  have N5 := Fr.app N4 N5q
  have sz6 : h0.size ≤ r_5 := Nat.le_trans K4.1 r5_1
  have gn6 : n0 ≤ r_5 := Nat.le_trans Z0 sz6
  have O5 : Old Z n0 T5.heap := O4.keep Kc5 all0
  have K5 : Keep h0 T5.heap [a] := K4.trans Kc5 all0
  obtain ⟨T8, h8, X8, e8, W8, st8⟩ := putF X5 hx hZ hown (host := "") (Or.inl (hw _ w_281)) Via.refl rfl (r4_2.keep Kc5 nin0) (r4_1.keep Kc5) (Or.inr ⟨(hw _ w_282), rfl, hnm⟩) (hw _ w_110) (ty := (.object "java/util/List")) (by decide) rfl rfl (g := (mkF m 22 #[.val (.ref a), .val (.ref li)] [(.ref r_5), (.ref a)])) rfl rfl (hb hby d17_22)
  have Fw8 := (r4_2.keep Kc5 nin0).same W8
  have N8 := Fr.snoc X8 N5 hp3
  have O8 : Old Z n0 h8 := O5.wr W8 hp3
  have K8 : Keep h0 h8 [a] := K5.wr W8 (Or.inl (List.mem_of_getElem? (i := 0) rfl))
  obtain ⟨fs, hr, hrun, hended, hW, hsame⟩ := X8.leave (v := none) (fun _ => rfl)
  refine ⟨_, _, pre0 _ ?_, hrun, hended, _, _, rfl, ?_, ⟨_, rfl⟩, hW, hsame.mono (by decide) (by decide)⟩
  · refine XS.aloadN X0.here hx rfl (hb hby d17_0) rfl rfl ?_
    refine XS.aloadN X0.here hx rfl (hb hby d17_1) rfl rfl ?_
    refine XS.iconst X0.here hx rfl (hb hby d17_2) ?_
    show Steps p.tables e below (s₁.setTop (mkF m 3 #[.val (.ref a), .val (.ref li)] [(.int (0 : Int32)), (.ref li), (.ref a)])) _
    refine st1.trans ?_
    show Steps p.tables e below (T1.setTop (mkF m 8 #[.val (.ref a), .val (.ref li)] [(.ref y0), (.ref a)])) _
    refine st2 _ ?_
    show Steps p.tables e below (T2.setTop (mkF m 11 #[.val (.ref a), .val (.ref li)] [(.ref y0), (.ref a)])) _
    refine st3.trans ?_
    show Steps p.tables e below (T3.setTop (mkF m 14 #[.val (.ref a), .val (.ref li)] [(.ref ms), (.ref a)])) _
    refine st4.trans ?_
    refine XS.aloadN X4.here hx rfl (hb hby d17_17) rfl rfl ?_
    refine XS.aloadN X4.here hx rfl (hb hby d17_18) rfl rfl ?_
    show Steps p.tables e below (T4.setTop (mkF m 19 #[.val (.ref a), .val (.ref li)] [(.ref li), (.ref a)])) _
    refine st5 _ ?_
    show Steps p.tables e below (T5.setTop (mkF m 22 #[.val (.ref a), .val (.ref li)] [(.ref r_5), (.ref a)])) _
    refine st8 _ ?_
    show Steps p.tables e below (T8.setTop (mkF m 25 #[.val (.ref a), .val (.ref li)] [])) _
    exact X8.returnOut hx Bd.returns (hb hby d17_25) hr
  · show QaxInit3 Z a li y0 y1 y2 b kb mr ms u0 u1 u2 u3 us se o0 h0 n0 _ T8.heap _
    rw [e8]
    exact ⟨r_5, q_5, kq_5, rfl, N8, K8, ((r4_1.keep Kc5).wr W8), Fw8, sz6, (r5_2.wr W8), (r5_3.other W8 (Or.inl (Ne.symm (Nat.ne_of_lt (Nat.lt_of_lt_of_le r4_1.lt r5_1))))), (r5_4.other W8 (Ne.symm (own_neArv (r4_1.keep Kc5) (hw _ w_110) r5_4)))⟩
theorem d41_0 : decode jdk_44_method_5_code 0 = .ok (.iload_n 1, 1) := by decide +kernel
theorem d41_1 : decode jdk_44_method_5_code 1 = .ok (.ifCond .ne 8, 3) := by decide +kernel
theorem d41_4 : decode jdk_44_method_5_code 4 = .ok (.aload_n 0, 1) := by decide +kernel
theorem d41_5 : decode jdk_44_method_5_code 5 = .ok (.getfield 13, 3) := by decide +kernel
theorem d41_8 : decode jdk_44_method_5_code 8 = .ok (.areturn, 1) := by decide +kernel
abbrev mN46 : MethodName := ⟨"java/util/ImmutableCollections$List12", "get", "(I)Ljava/lang/Object;"⟩
theorem ef_l12get (m : MethodId) (x0 : Addr) (x1 : Int32) : entryFrame m #[(.ref x0), (.int x1)] 2 = mkF m 0 #[.val (.ref x0), .val (.int x1)] [] := by first | (simp [entryFrame, mkF, argsToLocals, Value.category]; done) | rfl
def Ql12get (Z : State) (a : Addr) (xo : Addr) (h0 : Heap) (n0 : Nat) (v : Option Value) (h : Heap) (L : List Loc) : Prop := v = some (.ref xo) ∧ Fr n0 L ∧ h = h0
set_option maxRecDepth 65536 in
set_option maxHeartbeats 40000000 in
theorem rml12get (l : Launch) (Z : State) (a0 : Array Value) (hw : ∀ d ∈ tables_1, d.before a0 Z = true) (ws : List Jvm.Cond) (a : Addr) (xo : Addr) (h0 : Heap) (n0 : Nat) (O0 : Old Z n0 h0) (hp0 : Fld Z h0 a "java/util/ImmutableCollections$List12" "e0" "Ljava/lang/Object;" (.ref xo)) :
    MetFree l mN46 (head1 (Jvm.Cond.code mN46 jdk_44_method_5_code 2 (some (.object "java/lang/Object")) :: ws) ({ frames := 0, cells := 0, slots := 0, locals := 0 } : Room)) (fun as_ U => as_ = #[(.ref a), (.int (0 : Int32))] ∧ Z.Warmed39 U.vm ∧ U.heap = h0) (fun _ _ _ _ _ => True) (fun _ U o U' => ∃ v L, o = .returned v ∧ Ql12get Z a xo h0 n0 v U'.heap L ∧ FrameEnd U o U' L ({ frames := 0, cells := 0, slots := 0, locals := 0 } : Room).cells ({ frames := 0, cells := 0, slots := 0, locals := 0 } : Room).slots) := by
  refine MetFree.of_bodySF (plainFor_of_name pn_java_util_ImmutableCollections_List12) hisR ?_
  intro p e s m args below meth c s₁ Bd hml0 hP hK
  obtain ⟨rfl, hZ, hh⟩ := hP
  have hx := Bd.exec
  have hby := Bd.bytes
  have hml : c.maxLocals = 2 := hml0
  have hown : s.vm.findClass "java/util/ImmutableCollections$List12" = some m.cls := findClass_of_methodNamed Bd.named
  have hnm := (name_of_methodNamed Bd.named Bd.method).1
  have X0 : Stand p l e ({ frames := 0, cells := 0, slots := 0, locals := 0 } : Room) s m #[(.ref a), (.int (0 : Int32))] below meth c s₁ [] 0 0 := Stand.of_body Bd
  have e0 : s₁.heap = h0 := by rw [← hh, Bd.state]; rfl
  have N0 := Fr.nil n0
  have Z0 := own_z0 O0
  have pre0 : ∀ tg_, Steps p.tables e below (s₁.setTop (mkF m 0 #[.val (.ref a), .val (.int (0 : Int32))] [])) tg_ → Steps p.tables e below (s₁.setTop (entryFrame m #[(.ref a), (.int (0 : Int32))] 2)) tg_ := fun tg_ kt_ => castTop (ef_l12get m a (0 : Int32)) kt_
  obtain ⟨T1, X1, e1, st1⟩ := getF X0 hx hZ hown (host := "") (Or.inl (hw _ w_277)) Via.refl e0 hp0 (g := (mkF m 5 #[.val (.ref a), .val (.int (0 : Int32))] [(.ref a)])) rfl rfl (hb hby d41_5)
  obtain ⟨fs, hr, hrun, hended, hW, hsame⟩ := X1.leave (v := some (.ref xo)) (fun h => by rw [Bd.returns] at h; cases h)
  refine ⟨_, _, pre0 _ ?_, hrun, hended, _, _, rfl, ?_, ⟨_, rfl⟩, hW, hsame.mono (by decide) (by decide)⟩
  · refine XS.iloadN X0.here hx rfl (hb hby d41_0) rfl ?_
    refine XS.ifNo X0.here hx rfl (hb hby d41_1) rfl ((if0 _ _).trans (teq (by decide : (0 : Int32) = (0 : Int32))).2) ?_
    refine XS.aloadN X0.here hx rfl (hb hby d41_4) rfl rfl ?_
    show Steps p.tables e below (s₁.setTop (mkF m 5 #[.val (.ref a), .val (.int (0 : Int32))] [(.ref a)])) _
    refine st1 _ ?_
    show Steps p.tables e below (T1.setTop (mkF m 8 #[.val (.ref a), .val (.int (0 : Int32))] [(.ref xo)])) _
    jvm_step X1.here [X1.here.top, hx, (hb hby d41_8), X1.method', Bd.returns, Value.isRef, FieldType.isReference]
    first | (intro acts; rw [hr _ acts rfl rfl rfl]) | rw [hr _ _ rfl rfl rfl]
    exact Steps.refl _
  · show Ql12get Z a xo h0 n0 _ T1.heap _
    rw [e1]
    exact ⟨rfl, N0, rfl⟩
theorem d48_0 : decode jdk_45_method_4_code 0 = .ok (.aload_n 0, 1) := by decide +kernel
theorem d48_1 : decode jdk_45_method_4_code 1 = .ok (.getfield 7, 3) := by decide +kernel
theorem d48_4 : decode jdk_45_method_4_code 4 = .ok (.iload_n 1, 1) := by decide +kernel
theorem d48_5 : decode jdk_45_method_4_code 5 = .ok (.aaload, 1) := by decide +kernel
theorem d48_6 : decode jdk_45_method_4_code 6 = .ok (.areturn, 1) := by decide +kernel
abbrev mN47 : MethodName := ⟨"java/util/ImmutableCollections$ListN", "get", "(I)Ljava/lang/Object;"⟩
theorem ef_lnget (m : MethodId) (x0 : Addr) (x1 : Int32) : entryFrame m #[(.ref x0), (.int x1)] 2 = mkF m 0 #[.val (.ref x0), .val (.int x1)] [] := by first | (simp [entryFrame, mkF, argsToLocals, Value.category]; done) | rfl
def Qlnget (Z : State) (a : Addr) (y0 : Addr) (y1 : Addr) (y2 : Addr) (q : Addr) (kq : ClassId) (h0 : Heap) (n0 : Nat) (v : Option Value) (h : Heap) (L : List Loc) : Prop := v = some (.ref y0) ∧ Fr n0 L ∧ h = h0
set_option maxRecDepth 65536 in
set_option maxHeartbeats 40000000 in
theorem rmlnget (l : Launch) (Z : State) (a0 : Array Value) (hw : ∀ d ∈ tables_1, d.before a0 Z = true) (ws : List Jvm.Cond) (a : Addr) (y0 : Addr) (y1 : Addr) (y2 : Addr) (q : Addr) (kq : ClassId) (h0 : Heap) (n0 : Nat) (O0 : Old Z n0 h0) (hp0 : Fld Z h0 a "java/util/ImmutableCollections$ListN" "elements" "[Ljava/lang/Object;" (.ref q)) (hp1 : Arv Z h0 q kq (.object "java/lang/Object") (3 : Int32) [(.ref y0), (.ref y1), (.ref y2)] .null) :
    MetFree l mN47 (head1 (Jvm.Cond.code mN47 jdk_45_method_4_code 2 (some (.object "java/lang/Object")) :: ws) ({ frames := 0, cells := 0, slots := 0, locals := 0 } : Room)) (fun as_ U => as_ = #[(.ref a), (.int (0 : Int32))] ∧ Z.Warmed39 U.vm ∧ U.heap = h0) (fun _ _ _ _ _ => True) (fun _ U o U' => ∃ v L, o = .returned v ∧ Qlnget Z a y0 y1 y2 q kq h0 n0 v U'.heap L ∧ FrameEnd U o U' L ({ frames := 0, cells := 0, slots := 0, locals := 0 } : Room).cells ({ frames := 0, cells := 0, slots := 0, locals := 0 } : Room).slots) := by
  refine MetFree.of_bodySF (plainFor_of_name pn_java_util_ImmutableCollections_ListN) hisR ?_
  intro p e s m args below meth c s₁ Bd hml0 hP hK
  obtain ⟨rfl, hZ, hh⟩ := hP
  have hx := Bd.exec
  have hby := Bd.bytes
  have hml : c.maxLocals = 2 := hml0
  have hown : s.vm.findClass "java/util/ImmutableCollections$ListN" = some m.cls := findClass_of_methodNamed Bd.named
  have hnm := (name_of_methodNamed Bd.named Bd.method).1
  have X0 : Stand p l e ({ frames := 0, cells := 0, slots := 0, locals := 0 } : Room) s m #[(.ref a), (.int (0 : Int32))] below meth c s₁ [] 0 0 := Stand.of_body Bd
  have e0 : s₁.heap = h0 := by rw [← hh, Bd.state]; rfl
  have N0 := Fr.nil n0
  have Z0 := own_z0 O0
  have pre0 : ∀ tg_, Steps p.tables e below (s₁.setTop (mkF m 0 #[.val (.ref a), .val (.int (0 : Int32))] [])) tg_ → Steps p.tables e below (s₁.setTop (entryFrame m #[(.ref a), (.int (0 : Int32))] 2)) tg_ := fun tg_ kt_ => castTop (ef_lnget m a (0 : Int32)) kt_
  obtain ⟨T1, X1, e1, st1⟩ := getF X0 hx hZ hown (host := "") (Or.inl (hw _ w_334)) Via.refl e0 hp0 (g := (mkF m 1 #[.val (.ref a), .val (.int (0 : Int32))] [(.ref a)])) rfl rfl (hb hby d48_1)
  obtain ⟨cl2, Ar2, -, S2, Ng2, H2, G2⟩ := id hp1
  have hin2 : ¬ ((0 : Int32) < 0 ∨ cl2.slots.size ≤ ((0 : Int32)).toNatClampNeg) := inb_of S2 ⟨by decide, by decide⟩
  have hat2 : cl2.slots[((0 : Int32)).toNatClampNeg]? = some (.ref y0) := H2.at hin2 rfl
  obtain ⟨fs, hr, hrun, hended, hW, hsame⟩ := X1.leave (v := some (.ref y0)) (fun h => by rw [Bd.returns] at h; cases h)
  refine ⟨_, _, pre0 _ ?_, hrun, hended, _, _, rfl, ?_, ⟨_, rfl⟩, hW, hsame.mono (by decide) (by decide)⟩
  · refine XS.aloadN X0.here hx rfl (hb hby d48_0) rfl rfl ?_
    show Steps p.tables e below (s₁.setTop (mkF m 1 #[.val (.ref a), .val (.int (0 : Int32))] [(.ref a)])) _
    refine st1 _ ?_
    refine XS.iloadN X1.here hx rfl (hb hby d48_4) rfl ?_
    refine X1.aaload hx (j := (0 : Int32)) (v := (.ref y0)) (by rw [e1]; exact Ar2.1) (State.isArrayOf_alike hZ.alike Ar2.2.1) rfl Ar2.2.2 hin2 hat2 (g := (mkF m 5 #[.val (.ref a), .val (.int (0 : Int32))] [(.int (0 : Int32)), (.ref q)])) rfl rfl (hb hby d48_5) _ ?_
    show Steps p.tables e below (T1.setTop (mkF m 6 #[.val (.ref a), .val (.int (0 : Int32))] [(.ref y0)])) _
    jvm_step X1.here [X1.here.top, hx, (hb hby d48_6), X1.method', Bd.returns, Value.isRef, FieldType.isReference]
    first | (intro acts; rw [hr _ acts rfl rfl rfl]) | rw [hr _ _ rfl rfl rfl]
    exact Steps.refl _
  · show Qlnget Z a y0 y1 y2 q kq h0 n0 _ T1.heap _
    rw [e1]
    exact ⟨rfl, N0, rfl⟩
theorem d40_0 : decode prog_2_method_6_code 0 = .ok (.aload_n 0, 1) := by decide +kernel
theorem d40_1 : decode prog_2_method_6_code 1 = .ok (.getfield 23, 3) := by decide +kernel
theorem d40_4 : decode prog_2_method_6_code 4 = .ok (.iconst 0, 1) := by decide +kernel
theorem w_293 : (Jvm.Cond.code ({ cls := "java/util/ImmutableCollections$List12", name := "get", desc := "(I)Ljava/lang/Object;" } : Jvm.MethodName) jdk_44_method_5_code (2 : Nat) (Option.some (Jvm.ClassFile.FieldType.object "java/lang/Object"))) ∈ tables_1 := List.mem_of_getElem? (i := 293) (by decide +kernel)
theorem d40_5 : decode prog_2_method_6_code 5 = .ok (.invokeinterface 1 2, 5) := by decide +kernel
theorem w_288 : (Jvm.Cond.selects "java/util/ImmutableCollections$List12" ({ cls := "java/util/List", name := "get", desc := "(I)Ljava/lang/Object;" } : Jvm.MethodName) ({ cls := "java/util/ImmutableCollections$List12", name := "get", desc := "(I)Ljava/lang/Object;" } : Jvm.MethodName)) ∈ tables_1 := List.mem_of_getElem? (i := 288) (by decide +kernel)
theorem w_289 : (Jvm.Cond.instanceMethod ({ cls := "java/util/ImmutableCollections$List12", name := "get", desc := "(I)Ljava/lang/Object;" } : Jvm.MethodName)) ∈ tables_1 := List.mem_of_getElem? (i := 289) (by decide +kernel)
theorem w_290 : (Jvm.Cond.publicMethod ({ cls := "java/util/ImmutableCollections$List12", name := "get", desc := "(I)Ljava/lang/Object;" } : Jvm.MethodName)) ∈ tables_1 := List.mem_of_getElem? (i := 290) (by decide +kernel)
theorem w_291 : (Jvm.Cond.unhidden "java/util/ImmutableCollections$List12" "get" "(I)Ljava/lang/Object;") ∈ tables_1 := List.mem_of_getElem? (i := 291) (by decide +kernel)
theorem w_292 : (Jvm.Cond.castable "java/util/ImmutableCollections$List12" "java/util/List") ∈ tables_1 := List.mem_of_getElem? (i := 292) (by decide +kernel)
theorem d40_10 : decode prog_2_method_6_code 10 = .ok (.checkcast 7, 3) := by decide +kernel
theorem w_294 : (Jvm.Cond.methodLink "com/example/levy/levy/api/ApiException" (51 : Nat) ({ cls := "com/example/levy/levy/api/ApiError", name := "type", desc := "()Lcom/example/levy/levy/api/ErrorType;" } : Jvm.MethodName)) ∈ tables_1 := List.mem_of_getElem? (i := 294) (by decide +kernel)
theorem w_298 : (Jvm.Cond.code ({ cls := "com/example/levy/levy/api/ApiError", name := "type", desc := "()Lcom/example/levy/levy/api/ErrorType;" } : Jvm.MethodName) prog_1_method_2_code (1 : Nat) (Option.some (Jvm.ClassFile.FieldType.object "com/example/levy/levy/api/ErrorType"))) ∈ tables_1 := List.mem_of_getElem? (i := 298) (by decide +kernel)
theorem pd___Lcom_example_levy_levy_api_ErrorType_ : parseMethodDescriptor "()Lcom/example/levy/levy/api/ErrorType;" = some ⟨[], some (.object "com/example/levy/levy/api/ErrorType")⟩ := by decide +kernel
theorem d40_13 : decode prog_2_method_6_code 13 = .ok (.invokevirtual 51, 3) := by decide +kernel
theorem w_297 : (Jvm.Cond.selects "com/example/levy/levy/api/ApiError" ({ cls := "com/example/levy/levy/api/ApiError", name := "type", desc := "()Lcom/example/levy/levy/api/ErrorType;" } : Jvm.MethodName) ({ cls := "com/example/levy/levy/api/ApiError", name := "type", desc := "()Lcom/example/levy/levy/api/ErrorType;" } : Jvm.MethodName)) ∈ tables_1 := List.mem_of_getElem? (i := 297) (by decide +kernel)
theorem w_295 : (Jvm.Cond.declares ({ cls := "com/example/levy/levy/api/ApiError", name := "type", desc := "()Lcom/example/levy/levy/api/ErrorType;" } : Jvm.MethodName)) ∈ tables_1 := List.mem_of_getElem? (i := 295) (by decide +kernel)
theorem w_296 : (Jvm.Cond.instanceMethod ({ cls := "com/example/levy/levy/api/ApiError", name := "type", desc := "()Lcom/example/levy/levy/api/ErrorType;" } : Jvm.MethodName)) ∈ tables_1 := List.mem_of_getElem? (i := 296) (by decide +kernel)
theorem w_299 : (Jvm.Cond.methodLink "com/example/levy/levy/api/ApiException" (55 : Nat) ({ cls := "com/example/levy/levy/api/ErrorType", name := "status", desc := "()I" } : Jvm.MethodName)) ∈ tables_1 := List.mem_of_getElem? (i := 299) (by decide +kernel)
theorem w_303 : (Jvm.Cond.code ({ cls := "com/example/levy/levy/api/ErrorType", name := "status", desc := "()I" } : Jvm.MethodName) prog_7_method_5_code (1 : Nat) (Option.some Jvm.ClassFile.FieldType.int)) ∈ tables_1 := List.mem_of_getElem? (i := 303) (by decide +kernel)
theorem w_9 : (Jvm.Cond.initialized "com/example/levy/levy/api/ErrorType") ∈ tables_1 := List.mem_of_getElem? (i := 9) (by decide +kernel)
theorem pd___I : parseMethodDescriptor "()I" = some ⟨[], some .int⟩ := by decide +kernel
theorem d40_16 : decode prog_2_method_6_code 16 = .ok (.invokevirtual 55, 3) := by decide +kernel
theorem w_302 : (Jvm.Cond.selects "com/example/levy/levy/api/ErrorType" ({ cls := "com/example/levy/levy/api/ErrorType", name := "status", desc := "()I" } : Jvm.MethodName) ({ cls := "com/example/levy/levy/api/ErrorType", name := "status", desc := "()I" } : Jvm.MethodName)) ∈ tables_1 := List.mem_of_getElem? (i := 302) (by decide +kernel)
theorem w_300 : (Jvm.Cond.declares ({ cls := "com/example/levy/levy/api/ErrorType", name := "status", desc := "()I" } : Jvm.MethodName)) ∈ tables_1 := List.mem_of_getElem? (i := 300) (by decide +kernel)
theorem w_301 : (Jvm.Cond.instanceMethod ({ cls := "com/example/levy/levy/api/ErrorType", name := "status", desc := "()I" } : Jvm.MethodName)) ∈ tables_1 := List.mem_of_getElem? (i := 301) (by decide +kernel)
theorem d40_19 : decode prog_2_method_6_code 19 = .ok (.ireturn, 1) := by decide +kernel
abbrev mN48 : MethodName := ⟨"com/example/levy/levy/api/ApiException", "status", "()I"⟩
theorem ef_statusA (m : MethodId) (x0 : Addr) : entryFrame m #[(.ref x0)] 1 = mkF m 0 #[.val (.ref x0)] [] := by first | (simp [entryFrame, mkF, argsToLocals, Value.category]; done) | rfl
def QstatusA (Z : State) (a : Addr) (r : Addr) (y0 : Addr) (ty : Addr) (sv : Int32) (h0 : Heap) (n0 : Nat) (v : Option Value) (h : Heap) (L : List Loc) : Prop := v = some (.int sv) ∧ Fr n0 L ∧ h = h0
set_option maxRecDepth 65536 in
set_option maxHeartbeats 40000000 in
theorem rmstatusA (l : Launch) (Z : State) (a0 : Array Value) (hw : ∀ d ∈ tables_1, d.before a0 Z = true) (ws : List Jvm.Cond) (a : Addr) (r : Addr) (y0 : Addr) (ty : Addr) (sv : Int32) (h0 : Heap) (n0 : Nat) (O0 : Old Z n0 h0) (hp0 : Fld Z h0 a "com/example/levy/levy/api/ApiException" "errors" "Ljava/util/List;" (.ref r)) (hp1 : Exa Z h0 r "java/util/ImmutableCollections$List12") (hp2 : Fld Z h0 r "java/util/ImmutableCollections$List12" "e0" "Ljava/lang/Object;" (.ref y0)) (hp3 : Exa Z h0 y0 "com/example/levy/levy/api/ApiError") (hp4 : Fld Z h0 y0 "com/example/levy/levy/api/ApiError" "type" "Lcom/example/levy/levy/api/ErrorType;" (.ref ty)) (hp5 : Exa Z Z.heap ty "com/example/levy/levy/api/ErrorType") (hp6 : Fld Z Z.heap ty "com/example/levy/levy/api/ErrorType" "status" "I" (.int sv)) :
    MetFree l mN48 (head1 (Jvm.Cond.code mN48 prog_2_method_6_code 1 (some .int) :: ws) ({ frames := 1, cells := 0, slots := 0, locals := 13 } : Room)) (fun as_ U => as_ = #[(.ref a)] ∧ Z.Warmed39 U.vm ∧ U.heap = h0) (fun _ _ _ _ _ => True) (fun _ U o U' => ∃ v L, o = .returned v ∧ QstatusA Z a r y0 ty sv h0 n0 v U'.heap L ∧ FrameEnd U o U' L ({ frames := 1, cells := 0, slots := 0, locals := 13 } : Room).cells ({ frames := 1, cells := 0, slots := 0, locals := 13 } : Room).slots) := by
  refine MetFree.of_bodySF (plainFor_of_name pn_com_example_levy_levy_api_ApiException) hisR ?_
  intro p e s m args below meth c s₁ Bd hml0 hP hK
  obtain ⟨rfl, hZ, hh⟩ := hP
  have hx := Bd.exec
  have hby := Bd.bytes
  have hml : c.maxLocals = 1 := hml0
  have hown : s.vm.findClass "com/example/levy/levy/api/ApiException" = some m.cls := findClass_of_methodNamed Bd.named
  have hnm := (name_of_methodNamed Bd.named Bd.method).1
  have X0 : Stand p l e ({ frames := 1, cells := 0, slots := 0, locals := 13 } : Room) s m #[(.ref a)] below meth c s₁ [] 0 0 := Stand.of_body Bd
  have e0 : s₁.heap = h0 := by rw [← hh, Bd.state]; rfl
  have N0 := Fr.nil n0
  have Z0 := own_z0 O0
  have pre0 : ∀ tg_, Steps p.tables e below (s₁.setTop (mkF m 0 #[.val (.ref a)] [])) tg_ → Steps p.tables e below (s₁.setTop (entryFrame m #[(.ref a)] 1)) tg_ := fun tg_ kt_ => castTop (ef_statusA m a) kt_
  obtain ⟨T1, X1, e1, st1⟩ := getF X0 hx hZ hown (host := "") (Or.inl (hw _ w_281)) Via.refl e0 hp0 (g := (mkF m 1 #[.val (.ref a)] [(.ref a)])) rfl rfl (hb hby d40_1)
  obtain ⟨cq2, kq2, q2a, q2b, q2c⟩ := isOf hZ e1 hp1
  obtain ⟨_, _, ⟨T2, L2, k2, n2⟩, -, X2, ⟨Lc2, hQ2, l2, y2, z2⟩, st2⟩ := X1.interfaceBack hx (xi := mN44) (y := mN46) hown (mvT hZ (hw _ w_115)) (mvT hZ (hw _ w_116)) (mvT hZ (hw _ w_117)) (mvT hZ (hw _ w_288)) (mvT hZ (hw _ w_289)) (mvT hZ (hw _ w_290)) (mvT hZ (hw _ w_291)) (mvT hZ (hw _ w_292)) (by decide) (backOf (W := 0) (rml12get l Z a0 hw [] r y0 h0 n0 O0 hp2) hZ (hw _ w_293) (hw _ w_255) (by decide) (by decide)) q2a q2b q2c (g := (mkF m 5 #[.val (.ref a)] [(.int (0 : Int32)), (.ref r)])) rfl (by rw [hml]; rfl) (Steps.refl _) (argsL := [(.int (0 : Int32))]) (rest := []) (lenOf pd__I_Ljava_lang_Object_ rfl) rfl (by show 2 * 0 + _ ≤ _; exact Nat.le_of_eq rfl) (hb hby d40_5) (fun _ _ => ⟨rfl, e1, (by decide : 0 + 0 ≤ _), (by decide : 0 + 0 ≤ _)⟩)
  dsimp only [Pt.U, Pt.locs, Pt.cells, Pt.slots] at X2 l2 y2 z2 st2 hQ2
  subst l2 y2 z2
  obtain ⟨rfl, N2q, eh2⟩ := hQ2
  have N2 := Fr.app N0 N2q
  obtain ⟨T3, X3, e3, st3⟩ := castY X2 hx hZ hown (hw _ w_137) eh2 (Ins.self hp3) (g := (mkF m 10 #[.val (.ref a)] [(.ref y0)])) rfl rfl (hb hby d40_10)
  obtain ⟨cq4, kq4, q4a, q4b, q4c⟩ := isOf hZ e3 hp3
  obtain ⟨_, _, ⟨T4, L4, k4, n4⟩, -, X4, ⟨Lc4, hQ4, l4, y4, z4⟩, st4⟩ := X3.virtualBack hx (y := mN21) (z := mN21) hown (mvT hZ (hw _ w_294)) (mvT hZ (hw _ w_295)) (notFace_of_selects (args := #[]) (mvT hZ (hw _ w_297))) (mvT hZ (hw _ w_297)) (mvT hZ (hw _ w_296)) (by decide) (backOf (W := 0) (rmatype l Z a0 hw [] y0 ty h0 n0 O0 hp4) hZ (hw _ w_298) (hw _ w_3) (by decide) (by decide)) q4a q4c (g := (mkF m 13 #[.val (.ref a)] [(.ref y0)])) rfl (by rw [hml]; rfl) (Steps.refl _) (argsL := []) (rest := []) (lenOf pd___Lcom_example_levy_levy_api_ErrorType_ rfl) rfl (by show 2 * 0 + _ ≤ _; exact Nat.le_of_eq rfl) (hb hby d40_13) (fun _ _ => ⟨rfl, e3, (by decide : 0 + 0 ≤ _), (by decide : 0 + 0 ≤ _)⟩)
  dsimp only [Pt.U, Pt.locs, Pt.cells, Pt.slots] at X4 l4 y4 z4 st4 hQ4
  subst l4 y4 z4
  obtain ⟨rfl, N4q, eh4⟩ := hQ4
  have N4 := Fr.app N2 N4q
  obtain ⟨cq5, kq5, q5a, q5b, q5c⟩ := isOf hZ eh4 (hp5.ext O0.2)
  obtain ⟨_, _, ⟨T5, L5, k5, n5⟩, -, X5, ⟨Lc5, hQ5, l5, y5, z5⟩, st5⟩ := X4.virtualBack hx (y := mN22) (z := mN22) hown (mvT hZ (hw _ w_299)) (mvT hZ (hw _ w_300)) (notFace_of_selects (args := #[]) (mvT hZ (hw _ w_302))) (mvT hZ (hw _ w_302)) (mvT hZ (hw _ w_301)) (by decide) (backOf (W := 0) (rmestatus l Z a0 hw [] ty sv h0 n0 O0 (hp6.ext O0.2)) hZ (hw _ w_303) (hw _ w_9) (by decide) (by decide)) q5a q5c (g := (mkF m 16 #[.val (.ref a)] [(.ref ty)])) rfl (by rw [hml]; rfl) (Steps.refl _) (argsL := []) (rest := []) (lenOf pd___I rfl) rfl (by show 2 * 0 + _ ≤ _; exact Nat.le_of_eq rfl) (hb hby d40_16) (fun _ _ => ⟨rfl, eh4, (by decide : 0 + 0 ≤ _), (by decide : 0 + 0 ≤ _)⟩)
  dsimp only [Pt.U, Pt.locs, Pt.cells, Pt.slots] at X5 l5 y5 z5 st5 hQ5
  subst l5 y5 z5
  obtain ⟨rfl, N5q, eh5⟩ := hQ5
  have N5 := Fr.app N4 N5q
  obtain ⟨fs, hr, hrun, hended, hW, hsame⟩ := X5.leave (v := some (.int sv)) (fun h => by rw [Bd.returns] at h; cases h)
  refine ⟨_, _, pre0 _ ?_, hrun, hended, _, _, rfl, ?_, ⟨_, rfl⟩, hW, hsame.mono (by decide) (by decide)⟩
  · refine XS.aloadN X0.here hx rfl (hb hby d40_0) rfl rfl ?_
    show Steps p.tables e below (s₁.setTop (mkF m 1 #[.val (.ref a)] [(.ref a)])) _
    refine st1 _ ?_
    refine XS.iconst X1.here hx rfl (hb hby d40_4) ?_
    show Steps p.tables e below (T1.setTop (mkF m 5 #[.val (.ref a)] [(.int (0 : Int32)), (.ref r)])) _
    refine st2.trans ?_
    show Steps p.tables e below (T2.setTop (mkF m 10 #[.val (.ref a)] [(.ref y0)])) _
    refine st3 _ ?_
    show Steps p.tables e below (T3.setTop (mkF m 13 #[.val (.ref a)] [(.ref y0)])) _
    refine st4.trans ?_
    show Steps p.tables e below (T4.setTop (mkF m 16 #[.val (.ref a)] [(.ref ty)])) _
    refine st5.trans ?_
    show Steps p.tables e below (T5.setTop (mkF m 19 #[.val (.ref a)] [(.int sv)])) _
    exact retI X5 hx Bd.returns (hb hby d40_19) hr
  · show QstatusA Z a r y0 ty sv h0 n0 _ T5.heap _
    rw [eh5]
    exact ⟨rfl, N5, rfl⟩
theorem w_343 : (Jvm.Cond.code ({ cls := "java/util/ImmutableCollections$ListN", name := "get", desc := "(I)Ljava/lang/Object;" } : Jvm.MethodName) jdk_45_method_4_code (2 : Nat) (Option.some (Jvm.ClassFile.FieldType.object "java/lang/Object"))) ∈ tables_1 := List.mem_of_getElem? (i := 343) (by decide +kernel)
theorem w_338 : (Jvm.Cond.selects "java/util/ImmutableCollections$ListN" ({ cls := "java/util/List", name := "get", desc := "(I)Ljava/lang/Object;" } : Jvm.MethodName) ({ cls := "java/util/ImmutableCollections$ListN", name := "get", desc := "(I)Ljava/lang/Object;" } : Jvm.MethodName)) ∈ tables_1 := List.mem_of_getElem? (i := 338) (by decide +kernel)
theorem w_339 : (Jvm.Cond.instanceMethod ({ cls := "java/util/ImmutableCollections$ListN", name := "get", desc := "(I)Ljava/lang/Object;" } : Jvm.MethodName)) ∈ tables_1 := List.mem_of_getElem? (i := 339) (by decide +kernel)
theorem w_340 : (Jvm.Cond.publicMethod ({ cls := "java/util/ImmutableCollections$ListN", name := "get", desc := "(I)Ljava/lang/Object;" } : Jvm.MethodName)) ∈ tables_1 := List.mem_of_getElem? (i := 340) (by decide +kernel)
theorem w_341 : (Jvm.Cond.unhidden "java/util/ImmutableCollections$ListN" "get" "(I)Ljava/lang/Object;") ∈ tables_1 := List.mem_of_getElem? (i := 341) (by decide +kernel)
theorem w_342 : (Jvm.Cond.castable "java/util/ImmutableCollections$ListN" "java/util/List") ∈ tables_1 := List.mem_of_getElem? (i := 342) (by decide +kernel)
theorem ef_statusB (m : MethodId) (x0 : Addr) : entryFrame m #[(.ref x0)] 1 = mkF m 0 #[.val (.ref x0)] [] := by first | (simp [entryFrame, mkF, argsToLocals, Value.category]; done) | rfl
def QstatusB (Z : State) (a : Addr) (r : Addr) (y0 : Addr) (y1 : Addr) (y2 : Addr) (q : Addr) (kq : ClassId) (ty : Addr) (sv : Int32) (h0 : Heap) (n0 : Nat) (v : Option Value) (h : Heap) (L : List Loc) : Prop := v = some (.int sv) ∧ Fr n0 L ∧ h = h0
set_option maxRecDepth 65536 in
set_option maxHeartbeats 40000000 in
theorem rmstatusB (l : Launch) (Z : State) (a0 : Array Value) (hw : ∀ d ∈ tables_1, d.before a0 Z = true) (ws : List Jvm.Cond) (a : Addr) (r : Addr) (y0 : Addr) (y1 : Addr) (y2 : Addr) (q : Addr) (kq : ClassId) (ty : Addr) (sv : Int32) (h0 : Heap) (n0 : Nat) (O0 : Old Z n0 h0) (hp0 : Fld Z h0 a "com/example/levy/levy/api/ApiException" "errors" "Ljava/util/List;" (.ref r)) (hp1 : Exa Z h0 r "java/util/ImmutableCollections$ListN") (hp2 : Fld Z h0 r "java/util/ImmutableCollections$ListN" "elements" "[Ljava/lang/Object;" (.ref q)) (hp3 : Arv Z h0 q kq (.object "java/lang/Object") (3 : Int32) [(.ref y0), (.ref y1), (.ref y2)] .null) (hp4 : Exa Z h0 y0 "com/example/levy/levy/api/ApiError") (hp5 : Fld Z h0 y0 "com/example/levy/levy/api/ApiError" "type" "Lcom/example/levy/levy/api/ErrorType;" (.ref ty)) (hp6 : Exa Z Z.heap ty "com/example/levy/levy/api/ErrorType") (hp7 : Fld Z Z.heap ty "com/example/levy/levy/api/ErrorType" "status" "I" (.int sv)) :
    MetFree l mN48 (head1 (Jvm.Cond.code mN48 prog_2_method_6_code 1 (some .int) :: ws) ({ frames := 1, cells := 0, slots := 0, locals := 13 } : Room)) (fun as_ U => as_ = #[(.ref a)] ∧ Z.Warmed39 U.vm ∧ U.heap = h0) (fun _ _ _ _ _ => True) (fun _ U o U' => ∃ v L, o = .returned v ∧ QstatusB Z a r y0 y1 y2 q kq ty sv h0 n0 v U'.heap L ∧ FrameEnd U o U' L ({ frames := 1, cells := 0, slots := 0, locals := 13 } : Room).cells ({ frames := 1, cells := 0, slots := 0, locals := 13 } : Room).slots) := by
  refine MetFree.of_bodySF (plainFor_of_name pn_com_example_levy_levy_api_ApiException) hisR ?_
  intro p e s m args below meth c s₁ Bd hml0 hP hK
  obtain ⟨rfl, hZ, hh⟩ := hP
  have hx := Bd.exec
  have hby := Bd.bytes
  have hml : c.maxLocals = 1 := hml0
  have hown : s.vm.findClass "com/example/levy/levy/api/ApiException" = some m.cls := findClass_of_methodNamed Bd.named
  have hnm := (name_of_methodNamed Bd.named Bd.method).1
  have X0 : Stand p l e ({ frames := 1, cells := 0, slots := 0, locals := 13 } : Room) s m #[(.ref a)] below meth c s₁ [] 0 0 := Stand.of_body Bd
  have e0 : s₁.heap = h0 := by rw [← hh, Bd.state]; rfl
  have N0 := Fr.nil n0
  have Z0 := own_z0 O0
  have pre0 : ∀ tg_, Steps p.tables e below (s₁.setTop (mkF m 0 #[.val (.ref a)] [])) tg_ → Steps p.tables e below (s₁.setTop (entryFrame m #[(.ref a)] 1)) tg_ := fun tg_ kt_ => castTop (ef_statusB m a) kt_
  obtain ⟨T1, X1, e1, st1⟩ := getF X0 hx hZ hown (host := "") (Or.inl (hw _ w_281)) Via.refl e0 hp0 (g := (mkF m 1 #[.val (.ref a)] [(.ref a)])) rfl rfl (hb hby d40_1)
  obtain ⟨cq2, kq2, q2a, q2b, q2c⟩ := isOf hZ e1 hp1
  obtain ⟨_, _, ⟨T2, L2, k2, n2⟩, -, X2, ⟨Lc2, hQ2, l2, y2, z2⟩, st2⟩ := X1.interfaceBack hx (xi := mN44) (y := mN47) hown (mvT hZ (hw _ w_115)) (mvT hZ (hw _ w_116)) (mvT hZ (hw _ w_117)) (mvT hZ (hw _ w_338)) (mvT hZ (hw _ w_339)) (mvT hZ (hw _ w_340)) (mvT hZ (hw _ w_341)) (mvT hZ (hw _ w_342)) (by decide) (backOf (W := 0) (rmlnget l Z a0 hw [] r y0 y1 y2 q kq h0 n0 O0 hp2 hp3) hZ (hw _ w_343) (hw _ w_325) (by decide) (by decide)) q2a q2b q2c (g := (mkF m 5 #[.val (.ref a)] [(.int (0 : Int32)), (.ref r)])) rfl (by rw [hml]; rfl) (Steps.refl _) (argsL := [(.int (0 : Int32))]) (rest := []) (lenOf pd__I_Ljava_lang_Object_ rfl) rfl (by show 2 * 0 + _ ≤ _; exact Nat.le_of_eq rfl) (hb hby d40_5) (fun _ _ => ⟨rfl, e1, (by decide : 0 + 0 ≤ _), (by decide : 0 + 0 ≤ _)⟩)
  dsimp only [Pt.U, Pt.locs, Pt.cells, Pt.slots] at X2 l2 y2 z2 st2 hQ2
  subst l2 y2 z2
  obtain ⟨rfl, N2q, eh2⟩ := hQ2
  have N2 := Fr.app N0 N2q
  obtain ⟨T3, X3, e3, st3⟩ := castY X2 hx hZ hown (hw _ w_137) eh2 (Ins.self hp4) (g := (mkF m 10 #[.val (.ref a)] [(.ref y0)])) rfl rfl (hb hby d40_10)
  obtain ⟨cq4, kq4, q4a, q4b, q4c⟩ := isOf hZ e3 hp4
  obtain ⟨_, _, ⟨T4, L4, k4, n4⟩, -, X4, ⟨Lc4, hQ4, l4, y4, z4⟩, st4⟩ := X3.virtualBack hx (y := mN21) (z := mN21) hown (mvT hZ (hw _ w_294)) (mvT hZ (hw _ w_295)) (notFace_of_selects (args := #[]) (mvT hZ (hw _ w_297))) (mvT hZ (hw _ w_297)) (mvT hZ (hw _ w_296)) (by decide) (backOf (W := 0) (rmatype l Z a0 hw [] y0 ty h0 n0 O0 hp5) hZ (hw _ w_298) (hw _ w_3) (by decide) (by decide)) q4a q4c (g := (mkF m 13 #[.val (.ref a)] [(.ref y0)])) rfl (by rw [hml]; rfl) (Steps.refl _) (argsL := []) (rest := []) (lenOf pd___Lcom_example_levy_levy_api_ErrorType_ rfl) rfl (by show 2 * 0 + _ ≤ _; exact Nat.le_of_eq rfl) (hb hby d40_13) (fun _ _ => ⟨rfl, e3, (by decide : 0 + 0 ≤ _), (by decide : 0 + 0 ≤ _)⟩)
  dsimp only [Pt.U, Pt.locs, Pt.cells, Pt.slots] at X4 l4 y4 z4 st4 hQ4
  subst l4 y4 z4
  obtain ⟨rfl, N4q, eh4⟩ := hQ4
  have N4 := Fr.app N2 N4q
  obtain ⟨cq5, kq5, q5a, q5b, q5c⟩ := isOf hZ eh4 (hp6.ext O0.2)
  obtain ⟨_, _, ⟨T5, L5, k5, n5⟩, -, X5, ⟨Lc5, hQ5, l5, y5, z5⟩, st5⟩ := X4.virtualBack hx (y := mN22) (z := mN22) hown (mvT hZ (hw _ w_299)) (mvT hZ (hw _ w_300)) (notFace_of_selects (args := #[]) (mvT hZ (hw _ w_302))) (mvT hZ (hw _ w_302)) (mvT hZ (hw _ w_301)) (by decide) (backOf (W := 0) (rmestatus l Z a0 hw [] ty sv h0 n0 O0 (hp7.ext O0.2)) hZ (hw _ w_303) (hw _ w_9) (by decide) (by decide)) q5a q5c (g := (mkF m 16 #[.val (.ref a)] [(.ref ty)])) rfl (by rw [hml]; rfl) (Steps.refl _) (argsL := []) (rest := []) (lenOf pd___I rfl) rfl (by show 2 * 0 + _ ≤ _; exact Nat.le_of_eq rfl) (hb hby d40_16) (fun _ _ => ⟨rfl, eh4, (by decide : 0 + 0 ≤ _), (by decide : 0 + 0 ≤ _)⟩)
  dsimp only [Pt.U, Pt.locs, Pt.cells, Pt.slots] at X5 l5 y5 z5 st5 hQ5
  subst l5 y5 z5
  obtain ⟨rfl, N5q, eh5⟩ := hQ5
  have N5 := Fr.app N4 N5q
  obtain ⟨fs, hr, hrun, hended, hW, hsame⟩ := X5.leave (v := some (.int sv)) (fun h => by rw [Bd.returns] at h; cases h)
  refine ⟨_, _, pre0 _ ?_, hrun, hended, _, _, rfl, ?_, ⟨_, rfl⟩, hW, hsame.mono (by decide) (by decide)⟩
  · refine XS.aloadN X0.here hx rfl (hb hby d40_0) rfl rfl ?_
    show Steps p.tables e below (s₁.setTop (mkF m 1 #[.val (.ref a)] [(.ref a)])) _
    refine st1 _ ?_
    refine XS.iconst X1.here hx rfl (hb hby d40_4) ?_
    show Steps p.tables e below (T1.setTop (mkF m 5 #[.val (.ref a)] [(.int (0 : Int32)), (.ref r)])) _
    refine st2.trans ?_
    show Steps p.tables e below (T2.setTop (mkF m 10 #[.val (.ref a)] [(.ref y0)])) _
    refine st3 _ ?_
    show Steps p.tables e below (T3.setTop (mkF m 13 #[.val (.ref a)] [(.ref y0)])) _
    refine st4.trans ?_
    show Steps p.tables e below (T4.setTop (mkF m 16 #[.val (.ref a)] [(.ref ty)])) _
    refine st5.trans ?_
    show Steps p.tables e below (T5.setTop (mkF m 19 #[.val (.ref a)] [(.int sv)])) _
    exact retI X5 hx Bd.returns (hb hby d40_19) hr
  · show QstatusB Z a r y0 y1 y2 q kq ty sv h0 n0 _ T5.heap _
    rw [eh5]
    exact ⟨rfl, N5, rfl⟩
theorem w_0 : (Jvm.Cond.constant "com/example/levy/levy/api/ApiExceptionStatusPinLaw" (61 : Nat) (2147483647 : Int32)) ∈ tables_1 := List.mem_of_getElem? (i := 0) (by decide +kernel)
theorem w_1 : (Jvm.Cond.classLink "com/example/levy/levy/api/ApiExceptionStatusPinLaw" (62 : Nat) "com/example/levy/levy/api/ApiError") ∈ tables_1 := List.mem_of_getElem? (i := 1) (by decide +kernel)
theorem w_4 : (Jvm.Cond.methodLink "com/example/levy/levy/api/ApiExceptionStatusPinLaw" (64 : Nat) ({ cls := "com/example/levy/levy/api/ApiExceptionStatusPinLaw", name := "type", desc := "(I)Lcom/example/levy/levy/api/ErrorType;" } : Jvm.MethodName)) ∈ tables_1 := List.mem_of_getElem? (i := 4) (by decide +kernel)
theorem w_7 : (Jvm.Cond.code ({ cls := "com/example/levy/levy/api/ApiExceptionStatusPinLaw", name := "type", desc := "(I)Lcom/example/levy/levy/api/ErrorType;" } : Jvm.MethodName) method_2_code (1 : Nat) (Option.some (Jvm.ClassFile.FieldType.object "com/example/levy/levy/api/ErrorType"))) ∈ tables_1 := List.mem_of_getElem? (i := 7) (by decide +kernel)
theorem w_6 : (Jvm.Cond.initialized "com/example/levy/levy/api/ApiExceptionStatusPinLaw") ∈ tables_1 := List.mem_of_getElem? (i := 6) (by decide +kernel)
theorem pd__I_Lcom_example_levy_levy_api_ErrorType_ : parseMethodDescriptor "(I)Lcom/example/levy/levy/api/ErrorType;" = some ⟨[.int], some (.object "com/example/levy/levy/api/ErrorType")⟩ := by decide +kernel
theorem w_5 : (Jvm.Cond.static ({ cls := "com/example/levy/levy/api/ApiExceptionStatusPinLaw", name := "type", desc := "(I)Lcom/example/levy/levy/api/ErrorType;" } : Jvm.MethodName)) ∈ tables_1 := List.mem_of_getElem? (i := 5) (by decide +kernel)
theorem w_11 : (Jvm.Cond.methodLink "com/example/levy/levy/api/ApiExceptionStatusPinLaw" (70 : Nat) ({ cls := "com/example/levy/levy/api/ApiExceptionStatusPinLaw", name := "name", desc := "(I)Ljava/lang/String;" } : Jvm.MethodName)) ∈ tables_1 := List.mem_of_getElem? (i := 11) (by decide +kernel)
theorem w_13 : (Jvm.Cond.code ({ cls := "com/example/levy/levy/api/ApiExceptionStatusPinLaw", name := "name", desc := "(I)Ljava/lang/String;" } : Jvm.MethodName) method_4_code (1 : Nat) (Option.some (Jvm.ClassFile.FieldType.object "java/lang/String"))) ∈ tables_1 := List.mem_of_getElem? (i := 13) (by decide +kernel)
theorem pd__I_Ljava_lang_String_ : parseMethodDescriptor "(I)Ljava/lang/String;" = some ⟨[.int], some (.object "java/lang/String")⟩ := by decide +kernel
theorem w_12 : (Jvm.Cond.static ({ cls := "com/example/levy/levy/api/ApiExceptionStatusPinLaw", name := "name", desc := "(I)Ljava/lang/String;" } : Jvm.MethodName)) ∈ tables_1 := List.mem_of_getElem? (i := 12) (by decide +kernel)
theorem w_40 : (Jvm.Cond.methodLink "com/example/levy/levy/api/ApiExceptionStatusPinLaw" (74 : Nat) ({ cls := "com/example/levy/levy/api/ApiError", name := "<init>", desc := "(Lcom/example/levy/levy/api/ErrorType;Ljava/lang/String;Ljava/lang/String;)V" } : Jvm.MethodName)) ∈ tables_1 := List.mem_of_getElem? (i := 40) (by decide +kernel)
theorem w_42 : (Jvm.Cond.code ({ cls := "com/example/levy/levy/api/ApiError", name := "<init>", desc := "(Lcom/example/levy/levy/api/ErrorType;Ljava/lang/String;Ljava/lang/String;)V" } : Jvm.MethodName) prog_1_method_1_code (4 : Nat) (Option.none : Option Jvm.ClassFile.FieldType)) ∈ tables_1 := List.mem_of_getElem? (i := 42) (by decide +kernel)
theorem pd__Lcom_example_levy_levy_api_ErrorType_Ljava_lang_String_Ljava_lang_String__V : parseMethodDescriptor "(Lcom/example/levy/levy/api/ErrorType;Ljava/lang/String;Ljava/lang/String;)V" = some ⟨[(.object "com/example/levy/levy/api/ErrorType"), (.object "java/lang/String"), (.object "java/lang/String")], none⟩ := by decide +kernel
theorem w_41 : (Jvm.Cond.instanceMethod ({ cls := "com/example/levy/levy/api/ApiError", name := "<init>", desc := "(Lcom/example/levy/levy/api/ErrorType;Ljava/lang/String;Ljava/lang/String;)V" } : Jvm.MethodName)) ∈ tables_1 := List.mem_of_getElem? (i := 41) (by decide +kernel)
theorem w_54 : (Jvm.Cond.classLink "com/example/levy/levy/api/ApiExceptionStatusPinLaw" (77 : Nat) "java/util/ArrayList") ∈ tables_1 := List.mem_of_getElem? (i := 54) (by decide +kernel)
theorem w_57 : (Jvm.Cond.methodLink "com/example/levy/levy/api/ApiExceptionStatusPinLaw" (79 : Nat) ({ cls := "java/util/ArrayList", name := "<init>", desc := "()V" } : Jvm.MethodName)) ∈ tables_1 := List.mem_of_getElem? (i := 57) (by decide +kernel)
theorem w_59 : (Jvm.Cond.code ({ cls := "java/util/ArrayList", name := "<init>", desc := "()V" } : Jvm.MethodName) jdk_38_method_2_code (1 : Nat) (Option.none : Option Jvm.ClassFile.FieldType)) ∈ tables_1 := List.mem_of_getElem? (i := 59) (by decide +kernel)
theorem w_58 : (Jvm.Cond.instanceMethod ({ cls := "java/util/ArrayList", name := "<init>", desc := "()V" } : Jvm.MethodName)) ∈ tables_1 := List.mem_of_getElem? (i := 58) (by decide +kernel)
theorem w_78 : (Jvm.Cond.methodLink "com/example/levy/levy/api/ApiExceptionStatusPinLaw" (80 : Nat) ({ cls := "java/util/ArrayList", name := "add", desc := "(Ljava/lang/Object;)Z" } : Jvm.MethodName)) ∈ tables_1 := List.mem_of_getElem? (i := 78) (by decide +kernel)
theorem w_82 : (Jvm.Cond.code ({ cls := "java/util/ArrayList", name := "add", desc := "(Ljava/lang/Object;)Z" } : Jvm.MethodName) jdk_38_method_25_code (2 : Nat) (Option.some Jvm.ClassFile.FieldType.boolean)) ∈ tables_1 := List.mem_of_getElem? (i := 82) (by decide +kernel)
theorem pd__Ljava_lang_Object__Z : parseMethodDescriptor "(Ljava/lang/Object;)Z" = some ⟨[(.object "java/lang/Object")], some .boolean⟩ := by decide +kernel
theorem w_81 : (Jvm.Cond.selects "java/util/ArrayList" ({ cls := "java/util/ArrayList", name := "add", desc := "(Ljava/lang/Object;)Z" } : Jvm.MethodName) ({ cls := "java/util/ArrayList", name := "add", desc := "(Ljava/lang/Object;)Z" } : Jvm.MethodName)) ∈ tables_1 := List.mem_of_getElem? (i := 81) (by decide +kernel)
theorem w_79 : (Jvm.Cond.declares ({ cls := "java/util/ArrayList", name := "add", desc := "(Ljava/lang/Object;)Z" } : Jvm.MethodName)) ∈ tables_1 := List.mem_of_getElem? (i := 79) (by decide +kernel)
theorem w_80 : (Jvm.Cond.instanceMethod ({ cls := "java/util/ArrayList", name := "add", desc := "(Ljava/lang/Object;)Z" } : Jvm.MethodName)) ∈ tables_1 := List.mem_of_getElem? (i := 80) (by decide +kernel)
theorem w_109 : (Jvm.Cond.classLink "com/example/levy/levy/api/ApiExceptionStatusPinLaw" (84 : Nat) "com/example/levy/levy/api/ApiException") ∈ tables_1 := List.mem_of_getElem? (i := 109) (by decide +kernel)
theorem w_111 : (Jvm.Cond.initialized "com/example/levy/levy/api/ApiException") ∈ tables_1 := List.mem_of_getElem? (i := 111) (by decide +kernel)
theorem w_112 : (Jvm.Cond.methodLink "com/example/levy/levy/api/ApiExceptionStatusPinLaw" (86 : Nat) ({ cls := "com/example/levy/levy/api/ApiException", name := "<init>", desc := "(Ljava/util/List;)V" } : Jvm.MethodName)) ∈ tables_1 := List.mem_of_getElem? (i := 112) (by decide +kernel)
theorem w_114 : (Jvm.Cond.code ({ cls := "com/example/levy/levy/api/ApiException", name := "<init>", desc := "(Ljava/util/List;)V" } : Jvm.MethodName) prog_2_method_1_code (2 : Nat) (Option.none : Option Jvm.ClassFile.FieldType)) ∈ tables_1 := List.mem_of_getElem? (i := 114) (by decide +kernel)
theorem pd__Ljava_util_List__V : parseMethodDescriptor "(Ljava/util/List;)V" = some ⟨[(.object "java/util/List")], none⟩ := by decide +kernel
theorem w_113 : (Jvm.Cond.instanceMethod ({ cls := "com/example/levy/levy/api/ApiException", name := "<init>", desc := "(Ljava/util/List;)V" } : Jvm.MethodName)) ∈ tables_1 := List.mem_of_getElem? (i := 113) (by decide +kernel)
theorem w_283 : (Jvm.Cond.methodLink "com/example/levy/levy/api/ApiExceptionStatusPinLaw" (89 : Nat) ({ cls := "com/example/levy/levy/api/ApiException", name := "status", desc := "()I" } : Jvm.MethodName)) ∈ tables_1 := List.mem_of_getElem? (i := 283) (by decide +kernel)
theorem w_287 : (Jvm.Cond.code ({ cls := "com/example/levy/levy/api/ApiException", name := "status", desc := "()I" } : Jvm.MethodName) prog_2_method_6_code (1 : Nat) (Option.some Jvm.ClassFile.FieldType.int)) ∈ tables_1 := List.mem_of_getElem? (i := 287) (by decide +kernel)
theorem w_286 : (Jvm.Cond.selects "com/example/levy/levy/api/ApiException" ({ cls := "com/example/levy/levy/api/ApiException", name := "status", desc := "()I" } : Jvm.MethodName) ({ cls := "com/example/levy/levy/api/ApiException", name := "status", desc := "()I" } : Jvm.MethodName)) ∈ tables_1 := List.mem_of_getElem? (i := 286) (by decide +kernel)
theorem w_284 : (Jvm.Cond.declares ({ cls := "com/example/levy/levy/api/ApiException", name := "status", desc := "()I" } : Jvm.MethodName)) ∈ tables_1 := List.mem_of_getElem? (i := 284) (by decide +kernel)
theorem w_285 : (Jvm.Cond.instanceMethod ({ cls := "com/example/levy/levy/api/ApiException", name := "status", desc := "()I" } : Jvm.MethodName)) ∈ tables_1 := List.mem_of_getElem? (i := 285) (by decide +kernel)
theorem w_306 : (Jvm.Cond.methodLink "com/example/levy/levy/api/ApiExceptionStatusPinLaw" (93 : Nat) ({ cls := "com/example/levy/levy/api/ApiExceptionStatusPinLaw", name := "expected", desc := "(I)I" } : Jvm.MethodName)) ∈ tables_1 := List.mem_of_getElem? (i := 306) (by decide +kernel)
theorem w_308 : (Jvm.Cond.code ({ cls := "com/example/levy/levy/api/ApiExceptionStatusPinLaw", name := "expected", desc := "(I)I" } : Jvm.MethodName) method_3_code (1 : Nat) (Option.some Jvm.ClassFile.FieldType.int)) ∈ tables_1 := List.mem_of_getElem? (i := 308) (by decide +kernel)
theorem pd__I_I : parseMethodDescriptor "(I)I" = some ⟨[.int], some .int⟩ := by decide +kernel
theorem w_307 : (Jvm.Cond.static ({ cls := "com/example/levy/levy/api/ApiExceptionStatusPinLaw", name := "expected", desc := "(I)I" } : Jvm.MethodName)) ∈ tables_1 := List.mem_of_getElem? (i := 307) (by decide +kernel)
theorem ef_law (m : MethodId) (x0 : Int32) (x1 : Int32) (x2 : Int32) (x3 : Int32) (x4 : Int32) : entryFrame m #[(.int x0), (.int x1), (.int x2), (.int x3), (.int x4)] maxLocals = mkF m 0 #[.val (.int x0), .val (.int x1), .val (.int x2), .val (.int x3), .val (.int x4), .unset, .unset, .unset, .unset, .unset, .unset, .unset, .unset, .unset] [] := by first | (simp [entryFrame, mkF, argsToLocals, Value.category, maxLocals]; done) | rfl
def Qlaw (Z : State) (p0 : Int32) (p1 : Int32) (p2 : Int32) (p3 : Int32) (p4 : Int32) (mr : Addr) (cz : Int32) (dd : Addr) (kd : ClassId) (em : Addr) (us : Value) (se : Value) (tINVALID_JSON : Addr) (tINVALID_PARAMETER : Addr) (tINVALID_REQUEST : Addr) (tUNAUTHORIZED : Addr) (tCARD_DECLINED : Addr) (tSANDBOX_ONLY : Addr) (tNOT_FOUND : Addr) (tMETHOD_NOT_ALLOWED : Addr) (tINVALID_STATE : Addr) (tREQUEST_IN_PROGRESS : Addr) (tREQUEST_TOO_LARGE : Addr) (tNO_PROCESSOR : Addr) (tIDEMPOTENCY_KEY_REUSED : Addr) (tWEBHOOKS_NOT_CONFIGURED : Addr) (tINTERNAL_ERROR : Addr) (h0 : Heap) (n0 : Nat) (v : Option Value) (h : Heap) (L : List Loc) : Prop := v = some (.int (1 : Int32)) ∧ Fr n0 L ∧ Keep h0 h []
set_option maxRecDepth 65536 in
set_option maxHeartbeats 40000000 in
theorem rmlaw (l : Launch) (Z : State) (a0 : Array Value) (hw : ∀ d ∈ tables_1, d.before a0 Z = true) (ws : List Jvm.Cond) (p0 : Int32) (p1 : Int32) (p2 : Int32) (p3 : Int32) (p4 : Int32) (mr : Addr) (cz : Int32) (dd : Addr) (kd : ClassId) (em : Addr) (us : Value) (se : Value) (tINVALID_JSON : Addr) (tINVALID_PARAMETER : Addr) (tINVALID_REQUEST : Addr) (tUNAUTHORIZED : Addr) (tCARD_DECLINED : Addr) (tSANDBOX_ONLY : Addr) (tNOT_FOUND : Addr) (tMETHOD_NOT_ALLOWED : Addr) (tINVALID_STATE : Addr) (tREQUEST_IN_PROGRESS : Addr) (tREQUEST_TOO_LARGE : Addr) (tNO_PROCESSOR : Addr) (tIDEMPOTENCY_KEY_REUSED : Addr) (tWEBHOOKS_NOT_CONFIGURED : Addr) (tINTERNAL_ERROR : Addr) (h0 : Heap) (n0 : Nat) (O0 : Old Z n0 h0) (hl : (l.stackTraces = true)) (hp1 : Sta Z Z.heap "java/lang/Throwable" "UNASSIGNED_STACK" "[Ljava/lang/StackTraceElement;" us) (hp2 : Sta Z Z.heap "java/lang/Throwable" "SUPPRESSED_SENTINEL" "Ljava/util/List;" se) (hus : (us.isRef = true)) (hse : (se.isRef = true)) (mro : (own_Mr Z "[Ljava/lang/Object;" mr)) (hp6 : Sta Z Z.heap "java/lang/String" "COMPACT_STRINGS" "Z" (.int cz)) (hcz : (¬ (cz = (0 : Int32)))) (hp8 : Sta Z Z.heap "java/util/ArrayList" "DEFAULTCAPACITY_EMPTY_ELEMENTDATA" "[Ljava/lang/Object;" (.ref dd)) (hp9 : Arv Z Z.heap dd kd (.object "java/lang/Object") (0 : Int32) [] .null) (hp10 : Sta Z Z.heap "java/util/ImmutableCollections" "EMPTY" "Ljava/lang/Object;" (.ref em)) (hp11 : Sta Z Z.heap "com/example/levy/levy/api/ErrorType" "INVALID_JSON" "Lcom/example/levy/levy/api/ErrorType;" (.ref tINVALID_JSON)) (hp12 : Exa Z Z.heap tINVALID_JSON "com/example/levy/levy/api/ErrorType") (hp13 : Fld Z Z.heap tINVALID_JSON "com/example/levy/levy/api/ErrorType" "status" "I" (.int (400 : Int32))) (hp14 : Sta Z Z.heap "com/example/levy/levy/api/ErrorType" "INVALID_PARAMETER" "Lcom/example/levy/levy/api/ErrorType;" (.ref tINVALID_PARAMETER)) (hp15 : Exa Z Z.heap tINVALID_PARAMETER "com/example/levy/levy/api/ErrorType") (hp16 : Fld Z Z.heap tINVALID_PARAMETER "com/example/levy/levy/api/ErrorType" "status" "I" (.int (400 : Int32))) (hp17 : Sta Z Z.heap "com/example/levy/levy/api/ErrorType" "INVALID_REQUEST" "Lcom/example/levy/levy/api/ErrorType;" (.ref tINVALID_REQUEST)) (hp18 : Exa Z Z.heap tINVALID_REQUEST "com/example/levy/levy/api/ErrorType") (hp19 : Fld Z Z.heap tINVALID_REQUEST "com/example/levy/levy/api/ErrorType" "status" "I" (.int (400 : Int32))) (hp20 : Sta Z Z.heap "com/example/levy/levy/api/ErrorType" "UNAUTHORIZED" "Lcom/example/levy/levy/api/ErrorType;" (.ref tUNAUTHORIZED)) (hp21 : Exa Z Z.heap tUNAUTHORIZED "com/example/levy/levy/api/ErrorType") (hp22 : Fld Z Z.heap tUNAUTHORIZED "com/example/levy/levy/api/ErrorType" "status" "I" (.int (401 : Int32))) (hp23 : Sta Z Z.heap "com/example/levy/levy/api/ErrorType" "CARD_DECLINED" "Lcom/example/levy/levy/api/ErrorType;" (.ref tCARD_DECLINED)) (hp24 : Exa Z Z.heap tCARD_DECLINED "com/example/levy/levy/api/ErrorType") (hp25 : Fld Z Z.heap tCARD_DECLINED "com/example/levy/levy/api/ErrorType" "status" "I" (.int (402 : Int32))) (hp26 : Sta Z Z.heap "com/example/levy/levy/api/ErrorType" "SANDBOX_ONLY" "Lcom/example/levy/levy/api/ErrorType;" (.ref tSANDBOX_ONLY)) (hp27 : Exa Z Z.heap tSANDBOX_ONLY "com/example/levy/levy/api/ErrorType") (hp28 : Fld Z Z.heap tSANDBOX_ONLY "com/example/levy/levy/api/ErrorType" "status" "I" (.int (403 : Int32))) (hp29 : Sta Z Z.heap "com/example/levy/levy/api/ErrorType" "NOT_FOUND" "Lcom/example/levy/levy/api/ErrorType;" (.ref tNOT_FOUND)) (hp30 : Exa Z Z.heap tNOT_FOUND "com/example/levy/levy/api/ErrorType") (hp31 : Fld Z Z.heap tNOT_FOUND "com/example/levy/levy/api/ErrorType" "status" "I" (.int (404 : Int32))) (hp32 : Sta Z Z.heap "com/example/levy/levy/api/ErrorType" "METHOD_NOT_ALLOWED" "Lcom/example/levy/levy/api/ErrorType;" (.ref tMETHOD_NOT_ALLOWED)) (hp33 : Exa Z Z.heap tMETHOD_NOT_ALLOWED "com/example/levy/levy/api/ErrorType") (hp34 : Fld Z Z.heap tMETHOD_NOT_ALLOWED "com/example/levy/levy/api/ErrorType" "status" "I" (.int (405 : Int32))) (hp35 : Sta Z Z.heap "com/example/levy/levy/api/ErrorType" "INVALID_STATE" "Lcom/example/levy/levy/api/ErrorType;" (.ref tINVALID_STATE)) (hp36 : Exa Z Z.heap tINVALID_STATE "com/example/levy/levy/api/ErrorType") (hp37 : Fld Z Z.heap tINVALID_STATE "com/example/levy/levy/api/ErrorType" "status" "I" (.int (409 : Int32))) (hp38 : Sta Z Z.heap "com/example/levy/levy/api/ErrorType" "REQUEST_IN_PROGRESS" "Lcom/example/levy/levy/api/ErrorType;" (.ref tREQUEST_IN_PROGRESS)) (hp39 : Exa Z Z.heap tREQUEST_IN_PROGRESS "com/example/levy/levy/api/ErrorType") (hp40 : Fld Z Z.heap tREQUEST_IN_PROGRESS "com/example/levy/levy/api/ErrorType" "status" "I" (.int (409 : Int32))) (hp41 : Sta Z Z.heap "com/example/levy/levy/api/ErrorType" "REQUEST_TOO_LARGE" "Lcom/example/levy/levy/api/ErrorType;" (.ref tREQUEST_TOO_LARGE)) (hp42 : Exa Z Z.heap tREQUEST_TOO_LARGE "com/example/levy/levy/api/ErrorType") (hp43 : Fld Z Z.heap tREQUEST_TOO_LARGE "com/example/levy/levy/api/ErrorType" "status" "I" (.int (413 : Int32))) (hp44 : Sta Z Z.heap "com/example/levy/levy/api/ErrorType" "NO_PROCESSOR" "Lcom/example/levy/levy/api/ErrorType;" (.ref tNO_PROCESSOR)) (hp45 : Exa Z Z.heap tNO_PROCESSOR "com/example/levy/levy/api/ErrorType") (hp46 : Fld Z Z.heap tNO_PROCESSOR "com/example/levy/levy/api/ErrorType" "status" "I" (.int (422 : Int32))) (hp47 : Sta Z Z.heap "com/example/levy/levy/api/ErrorType" "IDEMPOTENCY_KEY_REUSED" "Lcom/example/levy/levy/api/ErrorType;" (.ref tIDEMPOTENCY_KEY_REUSED)) (hp48 : Exa Z Z.heap tIDEMPOTENCY_KEY_REUSED "com/example/levy/levy/api/ErrorType") (hp49 : Fld Z Z.heap tIDEMPOTENCY_KEY_REUSED "com/example/levy/levy/api/ErrorType" "status" "I" (.int (422 : Int32))) (hp50 : Sta Z Z.heap "com/example/levy/levy/api/ErrorType" "WEBHOOKS_NOT_CONFIGURED" "Lcom/example/levy/levy/api/ErrorType;" (.ref tWEBHOOKS_NOT_CONFIGURED)) (hp51 : Exa Z Z.heap tWEBHOOKS_NOT_CONFIGURED "com/example/levy/levy/api/ErrorType") (hp52 : Fld Z Z.heap tWEBHOOKS_NOT_CONFIGURED "com/example/levy/levy/api/ErrorType" "status" "I" (.int (400 : Int32))) (hp53 : Sta Z Z.heap "com/example/levy/levy/api/ErrorType" "INTERNAL_ERROR" "Lcom/example/levy/levy/api/ErrorType;" (.ref tINTERNAL_ERROR)) (hp54 : Exa Z Z.heap tINTERNAL_ERROR "com/example/levy/levy/api/ErrorType") (hp55 : Fld Z Z.heap tINTERNAL_ERROR "com/example/levy/levy/api/ErrorType" "status" "I" (.int (500 : Int32))) :
    MetFree l x (head1 (Jvm.Cond.code x code maxLocals ret :: ws) room_1) (fun as_ U => as_ = #[(.int p0), (.int p1), (.int p2), (.int p3), (.int p4)] ∧ Z.Warmed39 U.vm ∧ U.heap = h0) (fun _ _ _ s _ => framesKnown s = true ∧ tablesKnown s = true) (fun _ U o U' => ∃ v L, o = .returned v ∧ Qlaw Z p0 p1 p2 p3 p4 mr cz dd kd em us se tINVALID_JSON tINVALID_PARAMETER tINVALID_REQUEST tUNAUTHORIZED tCARD_DECLINED tSANDBOX_ONLY tNOT_FOUND tMETHOD_NOT_ALLOWED tINVALID_STATE tREQUEST_IN_PROGRESS tREQUEST_TOO_LARGE tNO_PROCESSOR tIDEMPOTENCY_KEY_REUSED tWEBHOOKS_NOT_CONFIGURED tINTERNAL_ERROR h0 n0 v U'.heap L ∧ FrameEnd U o U' L room_1.cells room_1.slots) := by
  refine MetFree.of_bodySF (plainFor_of_name pn_com_example_levy_levy_api_ApiExceptionStatusPinLaw) hisR ?_
  intro p e s m args below meth c s₁ Bd hml0 hP hK
  obtain ⟨rfl, hZ, hh⟩ := hP
  have hx := Bd.exec
  have hby := Bd.bytes
  have hml : c.maxLocals = 14 := hml0
  have hown : s.vm.findClass "com/example/levy/levy/api/ApiExceptionStatusPinLaw" = some m.cls := findClass_of_methodNamed Bd.named
  have hnm := (name_of_methodNamed Bd.named Bd.method).1
  have X0 : Stand p l e room_1 s m #[(.int p0), (.int p1), (.int p2), (.int p3), (.int p4)] below meth c s₁ [] 0 0 := Stand.of_body Bd
  have e0 : s₁.heap = h0 := by rw [← hh, Bd.state]; rfl
  have hTK := own_tk hK.2
  have hBelow := own_fk X0.frames hK.1
  have N0 := Fr.nil n0
  have Z0 := own_z0 O0
  have pre0 : ∀ tg_, Steps p.tables e below (s₁.setTop (mkF m 0 #[.val (.int p0), .val (.int p1), .val (.int p2), .val (.int p3), .val (.int p4), .unset, .unset, .unset, .unset, .unset, .unset, .unset, .unset, .unset] [])) tg_ → Steps p.tables e below (s₁.setTop (entryFrame m #[(.int p0), (.int p1), (.int p2), (.int p3), (.int p4)] maxLocals)) tg_ := fun tg_ kt_ => castTop (ef_law m p0 p1 p2 p3 p4) kt_
  have pre1 : ∀ tg_, Steps p.tables e below (s₁.setTop (mkF m 7 #[.val (.int p0), .val (.int p1), .val (.int p2), .val (.int p3), .val (.int p4), .unset, .unset, .unset, .unset, .unset, .unset, .unset, .unset, .unset] [(.int ((p0 &&& (2147483647 : Int32)) - (p0 &&& (2147483647 : Int32)) / (15 : Int32) * (15 : Int32)))])) tg_ → Steps p.tables e below (s₁.setTop (entryFrame m #[(.int p0), (.int p1), (.int p2), (.int p3), (.int p4)] maxLocals)) tg_ := by
    intro tg_ kt_
    refine pre0 tg_ ?_
    refine XS.iloadN X0.here hx rfl (hb hby at_0) rfl ?_
    refine X0.ldcInt hx hown (mvT hZ (hw _ w_0)) (g := (mkF m 1 #[.val (.int p0), .val (.int p1), .val (.int p2), .val (.int p3), .val (.int p4), .unset, .unset, .unset, .unset, .unset, .unset, .unset, .unset, .unset] [(.int p0)])) rfl (hb hby at_1) _ ?_
    refine XS.iand X0.here hx rfl (hb hby at_3) rfl ?_
    show Steps p.tables e below (s₁.setTop (mkF m 4 #[.val (.int p0), .val (.int p1), .val (.int p2), .val (.int p3), .val (.int p4), .unset, .unset, .unset, .unset, .unset, .unset, .unset, .unset, .unset] [(.int (p0 &&& (2147483647 : Int32)))])) _
    refine XS.bipush X0.here hx rfl (hb hby at_4) ?_
    refine XS.irem X0.here hx rfl (hb hby at_6) rfl (by decide) ?_
    exact kt_
  obtain ⟨k0, hg_k0⟩ : ∃ z, z = ((p0 &&& (2147483647 : Int32)) - (p0 &&& (2147483647 : Int32)) / (15 : Int32) * (15 : Int32)) := ⟨_, rfl⟩
  rw [← hg_k0] at pre1
  have pre2 : ∀ tg_, Steps p.tables e below (s₁.setTop (mkF m 16 #[.val (.int p0), .val (.int p1), .val (.int p2), .val (.int p3), .val (.int p4), .val (.int k0), .unset, .unset, .unset, .unset, .unset, .unset, .unset, .unset] [(.int ((p1 &&& (2147483647 : Int32)) - (p1 &&& (2147483647 : Int32)) / (15 : Int32) * (15 : Int32)))])) tg_ → Steps p.tables e below (s₁.setTop (entryFrame m #[(.int p0), (.int p1), (.int p2), (.int p3), (.int p4)] maxLocals)) tg_ := by
    intro tg_ kt_
    refine pre1 tg_ ?_
    refine XS.istore X0.here hx rfl (hb hby at_7) rfl (l' := #[.val (.int p0), .val (.int p1), .val (.int p2), .val (.int p3), .val (.int p4), .val (.int k0), .unset, .unset, .unset, .unset, .unset, .unset, .unset, .unset]) rfl ?_
    refine XS.iloadN X0.here hx rfl (hb hby at_9) rfl ?_
    show Steps p.tables e below (s₁.setTop (mkF m 10 #[.val (.int p0), .val (.int p1), .val (.int p2), .val (.int p3), .val (.int p4), .val (.int k0), .unset, .unset, .unset, .unset, .unset, .unset, .unset, .unset] [(.int p1)])) _
    refine X0.ldcInt hx hown (mvT hZ (hw _ w_0)) (g := (mkF m 10 #[.val (.int p0), .val (.int p1), .val (.int p2), .val (.int p3), .val (.int p4), .val (.int k0), .unset, .unset, .unset, .unset, .unset, .unset, .unset, .unset] [(.int p1)])) rfl (hb hby at_10) _ ?_
    refine XS.iand X0.here hx rfl (hb hby at_12) rfl ?_
    refine XS.bipush X0.here hx rfl (hb hby at_13) ?_
    refine XS.irem X0.here hx rfl (hb hby at_15) rfl (by decide) ?_
    exact kt_
  obtain ⟨k1, hg_k1⟩ : ∃ z, z = ((p1 &&& (2147483647 : Int32)) - (p1 &&& (2147483647 : Int32)) / (15 : Int32) * (15 : Int32)) := ⟨_, rfl⟩
  rw [← hg_k1] at pre2
  have pre3 : ∀ tg_, Steps p.tables e below (s₁.setTop (mkF m 25 #[.val (.int p0), .val (.int p1), .val (.int p2), .val (.int p3), .val (.int p4), .val (.int k0), .val (.int k1), .unset, .unset, .unset, .unset, .unset, .unset, .unset] [(.int ((p2 &&& (2147483647 : Int32)) - (p2 &&& (2147483647 : Int32)) / (15 : Int32) * (15 : Int32)))])) tg_ → Steps p.tables e below (s₁.setTop (entryFrame m #[(.int p0), (.int p1), (.int p2), (.int p3), (.int p4)] maxLocals)) tg_ := by
    intro tg_ kt_
    refine pre2 tg_ ?_
    show Steps p.tables e below (s₁.setTop (mkF m 16 #[.val (.int p0), .val (.int p1), .val (.int p2), .val (.int p3), .val (.int p4), .val (.int k0), .unset, .unset, .unset, .unset, .unset, .unset, .unset, .unset] [(.int k1)])) _
    refine XS.istore X0.here hx rfl (hb hby at_16) rfl (l' := #[.val (.int p0), .val (.int p1), .val (.int p2), .val (.int p3), .val (.int p4), .val (.int k0), .val (.int k1), .unset, .unset, .unset, .unset, .unset, .unset, .unset]) rfl ?_
    refine XS.iloadN X0.here hx rfl (hb hby at_18) rfl ?_
    refine X0.ldcInt hx hown (mvT hZ (hw _ w_0)) (g := (mkF m 19 #[.val (.int p0), .val (.int p1), .val (.int p2), .val (.int p3), .val (.int p4), .val (.int k0), .val (.int k1), .unset, .unset, .unset, .unset, .unset, .unset, .unset] [(.int p2)])) rfl (hb hby at_19) _ ?_
    refine XS.iand X0.here hx rfl (hb hby at_21) rfl ?_
    show Steps p.tables e below (s₁.setTop (mkF m 22 #[.val (.int p0), .val (.int p1), .val (.int p2), .val (.int p3), .val (.int p4), .val (.int k0), .val (.int k1), .unset, .unset, .unset, .unset, .unset, .unset, .unset] [(.int (p2 &&& (2147483647 : Int32)))])) _
    refine XS.bipush X0.here hx rfl (hb hby at_22) ?_
    refine XS.irem X0.here hx rfl (hb hby at_24) rfl (by decide) ?_
    exact kt_
  obtain ⟨k2, hg_k2⟩ : ∃ z, z = ((p2 &&& (2147483647 : Int32)) - (p2 &&& (2147483647 : Int32)) / (15 : Int32) * (15 : Int32)) := ⟨_, rfl⟩
  rw [← hg_k2] at pre3
  have pre4 : ∀ tg_, Steps p.tables e below (s₁.setTop (mkF m 35 #[.val (.int p0), .val (.int p1), .val (.int p2), .val (.int p3), .val (.int p4), .val (.int k0), .val (.int k1), .val (.int k2), .unset, .unset, .unset, .unset, .unset, .unset] [(.int (((p3 &&& (2147483647 : Int32)) - (p3 &&& (2147483647 : Int32)) / (3 : Int32) * (3 : Int32)) + (1 : Int32)))])) tg_ → Steps p.tables e below (s₁.setTop (entryFrame m #[(.int p0), (.int p1), (.int p2), (.int p3), (.int p4)] maxLocals)) tg_ := by
    intro tg_ kt_
    refine pre3 tg_ ?_
    refine XS.istore X0.here hx rfl (hb hby at_25) rfl (l' := #[.val (.int p0), .val (.int p1), .val (.int p2), .val (.int p3), .val (.int p4), .val (.int k0), .val (.int k1), .val (.int k2), .unset, .unset, .unset, .unset, .unset, .unset]) rfl ?_
    refine XS.iloadN X0.here hx rfl (hb hby at_27) rfl ?_
    show Steps p.tables e below (s₁.setTop (mkF m 28 #[.val (.int p0), .val (.int p1), .val (.int p2), .val (.int p3), .val (.int p4), .val (.int k0), .val (.int k1), .val (.int k2), .unset, .unset, .unset, .unset, .unset, .unset] [(.int p3)])) _
    refine X0.ldcInt hx hown (mvT hZ (hw _ w_0)) (g := (mkF m 28 #[.val (.int p0), .val (.int p1), .val (.int p2), .val (.int p3), .val (.int p4), .val (.int k0), .val (.int k1), .val (.int k2), .unset, .unset, .unset, .unset, .unset, .unset] [(.int p3)])) rfl (hb hby at_28) _ ?_
    refine XS.iand X0.here hx rfl (hb hby at_30) rfl ?_
    refine XS.iconst X0.here hx rfl (hb hby at_31) ?_
    refine XS.irem X0.here hx rfl (hb hby at_32) rfl (by decide) ?_
    show Steps p.tables e below (s₁.setTop (mkF m 33 #[.val (.int p0), .val (.int p1), .val (.int p2), .val (.int p3), .val (.int p4), .val (.int k0), .val (.int k1), .val (.int k2), .unset, .unset, .unset, .unset, .unset, .unset] [(.int ((p3 &&& (2147483647 : Int32)) - (p3 &&& (2147483647 : Int32)) / (3 : Int32) * (3 : Int32)))])) _
    refine XS.iconst X0.here hx rfl (hb hby at_33) ?_
    refine XS.iadd X0.here hx rfl (hb hby at_34) rfl ?_
    exact kt_
  obtain ⟨nn, hg_nn⟩ : ∃ z, z = (((p3 &&& (2147483647 : Int32)) - (p3 &&& (2147483647 : Int32)) / (3 : Int32) * (3 : Int32)) + (1 : Int32)) := ⟨_, rfl⟩
  rw [← hg_nn] at pre4
  obtain ⟨T5, h5, X5, e5, E5, A5, D5, U5, st5⟩ := newO X0 hx hZ hown (hw _ w_1) (hw _ w_2) (hw _ w_3) e0 (g := (mkF m 37 #[.val (.int p0), .val (.int p1), .val (.int p2), .val (.int p3), .val (.int p4), .val (.int k0), .val (.int k1), .val (.int k2), .val (.int nn), .unset, .unset, .unset, .unset, .unset] [])) rfl (hb hby at_37) (by decide) (by decide)
  obtain ⟨b5, g5⟩ : ∃ z, z = h0.size := ⟨_, rfl⟩
  rw [← g5] at A5 D5 U5 st5
  have Un5 : Unt h5 b5 := U5
  have sz5 : h0.size ≤ b5 := Nat.le_trans (Keep.refl h0 []).1 (Nat.le_of_eq g5.symm)
  have gn5 : n0 ≤ b5 := Nat.le_trans Z0 sz5
  have O5 : Old Z n0 h5 := O0.ext E5
  have K5 : Keep h0 h5 [] := (Keep.refl h0 []).ext E5
  have F5_45 : Fld Z h5 b5 "com/example/levy/levy/api/ApiError" "type" "Lcom/example/levy/levy/api/ErrorType;" .null := D5 (Or.inr (hw _ w_45)) (ty := (.object "com/example/levy/levy/api/ErrorType")) (by decide)
  have F5_47 : Fld Z h5 b5 "com/example/levy/levy/api/ApiError" "parameterName" "Ljava/lang/String;" .null := D5 (Or.inr (hw _ w_47)) (ty := (.object "java/lang/String")) (by decide)
  have F5_49 : Fld Z h5 b5 "com/example/levy/levy/api/ApiError" "message" "Ljava/lang/String;" .null := D5 (Or.inr (hw _ w_49)) (ty := (.object "java/lang/String")) (by decide)
  obtain ⟨_, _, ⟨T7, L7, k7, n7⟩, -, X7, ⟨Lc7, hQ7, l7, y7, z7⟩, st7⟩ := Jvm.LawKit.callS X5 hx (y := mN0) hown (mvT hZ (hw _ w_4)) (mvT hZ (hw _ w_5)) (mvT hZ (hw _ w_6)) (mvT hZ (hw _ w_7)) (by decide) (backOf (W := 2) (rmtype l Z a0 hw [] k0 tINVALID_JSON tINVALID_PARAMETER tINVALID_REQUEST tUNAUTHORIZED tCARD_DECLINED tSANDBOX_ONLY tNOT_FOUND tMETHOD_NOT_ALLOWED tINVALID_STATE tREQUEST_IN_PROGRESS tREQUEST_TOO_LARGE tNO_PROCESSOR tIDEMPOTENCY_KEY_REUSED tWEBHOOKS_NOT_CONFIGURED tINTERNAL_ERROR h5 n0 O5 (by rw [hg_k0]; exact own_k15 _) hp11 hp12 hp13 hp14 hp15 hp16 hp17 hp18 hp19 hp20 hp21 hp22 hp23 hp24 hp25 hp26 hp27 hp28 hp29 hp30 hp31 hp32 hp33 hp34 hp35 hp36 hp37 hp38 hp39 hp40 hp41 hp42 hp43 hp44 hp45 hp46 hp47 hp48 hp49 hp50 hp51 hp52 hp53 hp54 hp55) hZ (hw _ w_7) (hw _ w_6) (by decide) (by decide)) (g := (mkF m 43 #[.val (.int p0), .val (.int p1), .val (.int p2), .val (.int p3), .val (.int p4), .val (.int k0), .val (.int k1), .val (.int k2), .val (.int nn), .unset, .unset, .unset, .unset, .unset] [(.int k0), (.ref b5), (.ref b5)])) rfl (by rw [hml]; rfl) (argsL := [(.int k0)]) (rest := [(.ref b5), (.ref b5)]) (lenOf pd__I_Lcom_example_levy_levy_api_ErrorType_ rfl) rfl (by show 2 * 0 + _ ≤ _; exact Nat.le_of_eq rfl) (hb hby at_43) (fun _ _ => ⟨rfl, e5, (by decide : 1 + 0 ≤ _), (by decide : 3 + 0 ≤ _)⟩)
  dsimp only [Pt.U, Pt.locs, Pt.cells, Pt.slots] at X7 l7 y7 z7 st7 hQ7
  subst l7 y7 z7
  obtain ⟨r_7, rfl, N7q, eh7, r7_0, r7_1⟩ := hQ7
  have N7 := Fr.app N0 N7q
  obtain ⟨_, _, ⟨T8, L8, k8, n8⟩, -, X8, ⟨Lc8, hQ8, l8, y8, z8⟩, st8⟩ := Jvm.LawKit.callS X7 hx (y := mN6) hown (mvT hZ (hw _ w_11)) (mvT hZ (hw _ w_12)) (mvT hZ (hw _ w_6)) (mvT hZ (hw _ w_13)) (by decide) (backOf (W := 3) (rmname l Z a0 hw [] p4 cz h5 n0 O5 hp6 hcz) hZ (hw _ w_13) (hw _ w_6) (by decide) (by decide)) (g := (mkF m 48 #[.val (.int p0), .val (.int p1), .val (.int p2), .val (.int p3), .val (.int p4), .val (.int k0), .val (.int k1), .val (.int k2), .val (.int nn), .unset, .unset, .unset, .unset, .unset] [(.int p4), (.ref r_7), (.ref b5), (.ref b5)])) rfl (by rw [hml]; rfl) (argsL := [(.int p4)]) (rest := [(.ref r_7), (.ref b5), (.ref b5)]) (lenOf pd__I_Ljava_lang_String_ rfl) rfl (by show 2 * 0 + _ ≤ _; exact Nat.le_of_eq rfl) (hb hby at_48) (fun _ _ => ⟨rfl, eh7, (by decide : 1 + 2 ≤ _), (by decide : 3 + 5 ≤ _)⟩)
  dsimp only [Pt.U, Pt.locs, Pt.cells, Pt.slots] at X8 l8 y8 z8 st8 hQ8
  subst l8 y8 z8
  obtain ⟨wv_8, rfl, N8q, Kc8, r8_1⟩ := hQ8
  have N8 := Fr.app N7 N8q
  have O8 : Old Z n0 T8.heap := O5.keep Kc8 all0
  have K8 : Keep h0 T8.heap [] := K5.trans Kc8 all0
  have pre9 : ∀ tg_, Steps p.tables e below (T8.setTop (mkF m 61 #[.val (.int p0), .val (.int p1), .val (.int p2), .val (.int p3), .val (.int p4), .val (.int k0), .val (.int k1), .val (.int k2), .val (.int nn), .unset, .unset, .unset, .unset, .unset] [(.int ((((p4.toUInt32 >>> ((9 : Int32) &&& 31).toUInt32).toInt32) &&& (255 : Int32)).toUInt32.toUInt16.toUInt32.toInt32)), wv_8, (.ref r_7), (.ref b5), (.ref b5)])) tg_ → Steps p.tables e below (s₁.setTop (entryFrame m #[(.int p0), (.int p1), (.int p2), (.int p3), (.int p4)] maxLocals)) tg_ := by
    intro tg_ kt_
    refine pre4 tg_ ?_
    refine XS.istore X0.here hx rfl (hb hby at_35) rfl (l' := #[.val (.int p0), .val (.int p1), .val (.int p2), .val (.int p3), .val (.int p4), .val (.int k0), .val (.int k1), .val (.int k2), .val (.int nn), .unset, .unset, .unset, .unset, .unset]) rfl ?_
    show Steps p.tables e below (s₁.setTop (mkF m 37 #[.val (.int p0), .val (.int p1), .val (.int p2), .val (.int p3), .val (.int p4), .val (.int k0), .val (.int k1), .val (.int k2), .val (.int nn), .unset, .unset, .unset, .unset, .unset] [])) _
    refine st5 _ ?_
    refine XS.dup X5.here hx rfl (hb hby at_40) rfl rfl ?_
    refine XS.iload X5.here hx rfl (hb hby at_41) rfl ?_
    show Steps p.tables e below (T5.setTop (mkF m 43 #[.val (.int p0), .val (.int p1), .val (.int p2), .val (.int p3), .val (.int p4), .val (.int k0), .val (.int k1), .val (.int k2), .val (.int nn), .unset, .unset, .unset, .unset, .unset] [(.int k0), (.ref b5), (.ref b5)])) _
    refine st7 _ ?_
    refine XS.iload X7.here hx rfl (hb hby at_46) rfl ?_
    show Steps p.tables e below (T7.setTop (mkF m 48 #[.val (.int p0), .val (.int p1), .val (.int p2), .val (.int p3), .val (.int p4), .val (.int k0), .val (.int k1), .val (.int k2), .val (.int nn), .unset, .unset, .unset, .unset, .unset] [(.int p4), (.ref r_7), (.ref b5), (.ref b5)])) _
    refine st8 _ ?_
    refine XS.iload X8.here hx rfl (hb hby at_51) rfl ?_
    refine XS.bipush X8.here hx rfl (hb hby at_53) ?_
    refine XS.iushr X8.here hx rfl (hb hby at_55) rfl ?_
    show Steps p.tables e below (T8.setTop (mkF m 56 #[.val (.int p0), .val (.int p1), .val (.int p2), .val (.int p3), .val (.int p4), .val (.int k0), .val (.int k1), .val (.int k2), .val (.int nn), .unset, .unset, .unset, .unset, .unset] [(.int ((p4.toUInt32 >>> ((9 : Int32) &&& 31).toUInt32).toInt32)), wv_8, (.ref r_7), (.ref b5), (.ref b5)])) _
    refine XS.sipush X8.here hx rfl (hb hby at_56) ?_
    refine XS.iand X8.here hx rfl (hb hby at_59) rfl ?_
    refine XS.i2c X8.here hx rfl (hb hby at_60) rfl ?_
    exact kt_
  obtain ⟨c0, hg_c0⟩ : ∃ z, z = ((((p4.toUInt32 >>> ((9 : Int32) &&& 31).toUInt32).toInt32) &&& (255 : Int32)).toUInt32.toUInt16.toUInt32.toInt32) := ⟨_, rfl⟩
  rw [← hg_c0] at pre9
  obtain ⟨_, _, ⟨T10, L10, k10, n10⟩, -, X10, ⟨Lc10, hQ10, l10, y10, z10⟩, st10⟩ := Jvm.LawKit.callS X8 hx (y := mN5) hown (mvT hZ (hw _ w_14)) (mvT hZ (hw _ w_15)) (mvT hZ (hw _ w_16)) (mvT hZ (hw _ w_17)) (by decide) (backOf (W := 4) (rmvalueOfC l Z a0 hw [] c0 cz T8.heap n0 O8 hp6 hcz (by rw [hg_c0]; exact own_ch _)) hZ (hw _ w_17) (hw _ w_16) (by decide) (by decide)) (g := (mkF m 61 #[.val (.int p0), .val (.int p1), .val (.int p2), .val (.int p3), .val (.int p4), .val (.int k0), .val (.int k1), .val (.int k2), .val (.int nn), .unset, .unset, .unset, .unset, .unset] [(.int c0), wv_8, (.ref r_7), (.ref b5), (.ref b5)])) rfl (by rw [hml]; rfl) (argsL := [(.int c0)]) (rest := [wv_8, (.ref r_7), (.ref b5), (.ref b5)]) (lenOf pd__C_Ljava_lang_String_ rfl) rfl (by show 2 * 0 + (List.map (fun v : Value => v.category) _).sum ≤ _; simp only [List.map, own_catR r8_1]; exact Nat.le_of_eq rfl) (hb hby at_61) (fun _ _ => ⟨rfl, rfl, (by decide : 3 + 2 ≤ _), (by decide : 8 + 5 ≤ _)⟩)
  dsimp only [Pt.U, Pt.locs, Pt.cells, Pt.slots] at X10 l10 y10 z10 st10 hQ10
  subst l10 y10 z10
  obtain ⟨r_10, t_10, kt_10, rfl, N10q, Kc10, r10_1, r10_2, r10_3, r10_4, r10_5, r10_6⟩ := hQ10
  have N10 := Fr.app N8 N10q
  have sz11 : h0.size ≤ r_10 := Nat.le_trans K8.1 r10_1
  have gn11 : n0 ≤ r_10 := Nat.le_trans Z0 sz11
  have sz13 : h0.size ≤ t_10 := Nat.le_trans K8.1 r10_2
  have gn13 : n0 ≤ t_10 := Nat.le_trans Z0 sz13
  have O10 : Old Z n0 T10.heap := O8.keep Kc10 all0
  have K10 : Keep h0 T10.heap [] := K8.trans Kc10 all0
  obtain ⟨_, _, ⟨T15, L15, k15, n15⟩, -, X15, ⟨Lc15, hQ15, l15, y15, z15⟩, st15⟩ := X10.specialBack hx (y := mN7) rfl hown (mvT hZ (hw _ w_40)) (mvT hZ (hw _ w_41)) (mvT hZ (hw _ w_42)) (by decide) (backOf (W := 1) (rmaeInit l Z a0 hw [] b5 r_7 wv_8 r_10 .null .null .null T10.heap n0 O10 ((A5.keep Kc8).keep Kc10) gn5 r8_1 ((F5_45.keep Kc8 nin0).keep Kc10 nin0) ((F5_47.keep Kc8 nin0).keep Kc10 nin0) ((F5_49.keep Kc8 nin0).keep Kc10 nin0)) hZ (hw _ w_42) (hw _ w_3) (by decide) (by decide)) (g := (mkF m 64 #[.val (.int p0), .val (.int p1), .val (.int p2), .val (.int p3), .val (.int p4), .val (.int k0), .val (.int k1), .val (.int k2), .val (.int nn), .unset, .unset, .unset, .unset, .unset] [(.ref r_10), wv_8, (.ref r_7), (.ref b5), (.ref b5)])) rfl (by rw [hml]; rfl) (Steps.refl _) (a := b5) (argsL := [(.ref r_7), wv_8, (.ref r_10)]) (rest := [(.ref b5)]) (lenOf pd__Lcom_example_levy_levy_api_ErrorType_Ljava_lang_String_Ljava_lang_String__V rfl) rfl (by show 2 * 0 + _ ≤ _; exact Nat.le_of_eq rfl) (hb hby at_64) (fun _ _ => ⟨rfl, rfl, (by decide : 5 + 0 ≤ _), (by decide : 13 + 0 ≤ _)⟩)
  dsimp only [Pt.U, Pt.locs, Pt.cells, Pt.slots] at X15 l15 y15 z15 st15 hQ15
  subst l15 y15 z15
  obtain ⟨rfl, N15q, Kc15, r15_1, r15_2, r15_3⟩ := hQ15
  have N15 := Fr.app N10 N15q
  have O15 : Old Z n0 T15.heap := O10.keep Kc15 (allS gn5 all0)
  have K15 : Keep h0 T15.heap [] := K10.trans Kc15 (allS (Or.inr sz5) all0)
  obtain ⟨T16, h16, X16, e16, E16, A16, D16, U16, st16⟩ := newO X15 hx hZ hown (hw _ w_1) (hw _ w_2) (hw _ w_3) rfl (g := (mkF m 69 #[.val (.int p0), .val (.int p1), .val (.int p2), .val (.int p3), .val (.int p4), .val (.int k0), .val (.int k1), .val (.int k2), .val (.int nn), .val (.ref b5), .unset, .unset, .unset, .unset] [])) rfl (hb hby at_69) (by decide) (by decide)
  obtain ⟨b16, g16⟩ : ∃ z, z = T15.heap.size := ⟨_, rfl⟩
  rw [← g16] at A16 D16 U16 st16
  have Un16 : Unt h16 b16 := U16
  have sz16 : h0.size ≤ b16 := Nat.le_trans K15.1 (Nat.le_of_eq g16.symm)
  have gn16 : n0 ≤ b16 := Nat.le_trans Z0 sz16
  have O16 : Old Z n0 h16 := O15.ext E16
  have K16 : Keep h0 h16 [] := K15.ext E16
  have F16_45 : Fld Z h16 b16 "com/example/levy/levy/api/ApiError" "type" "Lcom/example/levy/levy/api/ErrorType;" .null := D16 (Or.inr (hw _ w_45)) (ty := (.object "com/example/levy/levy/api/ErrorType")) (by decide)
  have F16_47 : Fld Z h16 b16 "com/example/levy/levy/api/ApiError" "parameterName" "Ljava/lang/String;" .null := D16 (Or.inr (hw _ w_47)) (ty := (.object "java/lang/String")) (by decide)
  have F16_49 : Fld Z h16 b16 "com/example/levy/levy/api/ApiError" "message" "Ljava/lang/String;" .null := D16 (Or.inr (hw _ w_49)) (ty := (.object "java/lang/String")) (by decide)
  obtain ⟨_, _, ⟨T18, L18, k18, n18⟩, -, X18, ⟨Lc18, hQ18, l18, y18, z18⟩, st18⟩ := Jvm.LawKit.callS X16 hx (y := mN0) hown (mvT hZ (hw _ w_4)) (mvT hZ (hw _ w_5)) (mvT hZ (hw _ w_6)) (mvT hZ (hw _ w_7)) (by decide) (backOf (W := 2) (rmtype l Z a0 hw [] k1 tINVALID_JSON tINVALID_PARAMETER tINVALID_REQUEST tUNAUTHORIZED tCARD_DECLINED tSANDBOX_ONLY tNOT_FOUND tMETHOD_NOT_ALLOWED tINVALID_STATE tREQUEST_IN_PROGRESS tREQUEST_TOO_LARGE tNO_PROCESSOR tIDEMPOTENCY_KEY_REUSED tWEBHOOKS_NOT_CONFIGURED tINTERNAL_ERROR h16 n0 O16 (by rw [hg_k1]; exact own_k15 _) hp11 hp12 hp13 hp14 hp15 hp16 hp17 hp18 hp19 hp20 hp21 hp22 hp23 hp24 hp25 hp26 hp27 hp28 hp29 hp30 hp31 hp32 hp33 hp34 hp35 hp36 hp37 hp38 hp39 hp40 hp41 hp42 hp43 hp44 hp45 hp46 hp47 hp48 hp49 hp50 hp51 hp52 hp53 hp54 hp55) hZ (hw _ w_7) (hw _ w_6) (by decide) (by decide)) (g := (mkF m 75 #[.val (.int p0), .val (.int p1), .val (.int p2), .val (.int p3), .val (.int p4), .val (.int k0), .val (.int k1), .val (.int k2), .val (.int nn), .val (.ref b5), .unset, .unset, .unset, .unset] [(.int k1), (.ref b16), (.ref b16)])) rfl (by rw [hml]; rfl) (argsL := [(.int k1)]) (rest := [(.ref b16), (.ref b16)]) (lenOf pd__I_Lcom_example_levy_levy_api_ErrorType_ rfl) rfl (by show 2 * 0 + _ ≤ _; exact Nat.le_of_eq rfl) (hb hby at_75) (fun _ _ => ⟨rfl, e16, (by decide : 6 + 0 ≤ _), (by decide : 16 + 0 ≤ _)⟩)
  dsimp only [Pt.U, Pt.locs, Pt.cells, Pt.slots] at X18 l18 y18 z18 st18 hQ18
  subst l18 y18 z18
  obtain ⟨r_18, rfl, N18q, eh18, r18_0, r18_1⟩ := hQ18
  have N18 := Fr.app N15 N18q
  have pre19 : ∀ tg_, Steps p.tables e below (T18.setTop (mkF m 83 #[.val (.int p0), .val (.int p1), .val (.int p2), .val (.int p3), .val (.int p4), .val (.int k0), .val (.int k1), .val (.int k2), .val (.int nn), .val (.ref b5), .unset, .unset, .unset, .unset] [(.int ((p4.toUInt32 >>> ((17 : Int32) &&& 31).toUInt32).toInt32)), (.ref r_18), (.ref b16), (.ref b16)])) tg_ → Steps p.tables e below (s₁.setTop (entryFrame m #[(.int p0), (.int p1), (.int p2), (.int p3), (.int p4)] maxLocals)) tg_ := by
    intro tg_ kt_
    refine pre9 tg_ ?_
    show Steps p.tables e below (T8.setTop (mkF m 61 #[.val (.int p0), .val (.int p1), .val (.int p2), .val (.int p3), .val (.int p4), .val (.int k0), .val (.int k1), .val (.int k2), .val (.int nn), .unset, .unset, .unset, .unset, .unset] [(.int c0), wv_8, (.ref r_7), (.ref b5), (.ref b5)])) _
    refine st10 _ ?_
    show Steps p.tables e below (T10.setTop (mkF m 64 #[.val (.int p0), .val (.int p1), .val (.int p2), .val (.int p3), .val (.int p4), .val (.int k0), .val (.int k1), .val (.int k2), .val (.int nn), .unset, .unset, .unset, .unset, .unset] [(.ref r_10), wv_8, (.ref r_7), (.ref b5), (.ref b5)])) _
    refine st15.trans ?_
    refine XS.astore X15.here hx rfl (hb hby at_67) rfl rfl (l' := #[.val (.int p0), .val (.int p1), .val (.int p2), .val (.int p3), .val (.int p4), .val (.int k0), .val (.int k1), .val (.int k2), .val (.int nn), .val (.ref b5), .unset, .unset, .unset, .unset]) rfl ?_
    show Steps p.tables e below (T15.setTop (mkF m 69 #[.val (.int p0), .val (.int p1), .val (.int p2), .val (.int p3), .val (.int p4), .val (.int k0), .val (.int k1), .val (.int k2), .val (.int nn), .val (.ref b5), .unset, .unset, .unset, .unset] [])) _
    refine st16 _ ?_
    refine XS.dup X16.here hx rfl (hb hby at_72) rfl rfl ?_
    refine XS.iload X16.here hx rfl (hb hby at_73) rfl ?_
    show Steps p.tables e below (T16.setTop (mkF m 75 #[.val (.int p0), .val (.int p1), .val (.int p2), .val (.int p3), .val (.int p4), .val (.int k0), .val (.int k1), .val (.int k2), .val (.int nn), .val (.ref b5), .unset, .unset, .unset, .unset] [(.int k1), (.ref b16), (.ref b16)])) _
    refine st18 _ ?_
    refine XS.iload X18.here hx rfl (hb hby at_78) rfl ?_
    refine XS.bipush X18.here hx rfl (hb hby at_80) ?_
    refine XS.iushr X18.here hx rfl (hb hby at_82) rfl ?_
    exact kt_
  obtain ⟨m1, hg_m1⟩ : ∃ z, z = ((p4.toUInt32 >>> ((17 : Int32) &&& 31).toUInt32).toInt32) := ⟨_, rfl⟩
  rw [← hg_m1] at pre19
  obtain ⟨_, _, ⟨T20, L20, k20, n20⟩, -, X20, ⟨Lc20, hQ20, l20, y20, z20⟩, st20⟩ := Jvm.LawKit.callS X18 hx (y := mN6) hown (mvT hZ (hw _ w_11)) (mvT hZ (hw _ w_12)) (mvT hZ (hw _ w_6)) (mvT hZ (hw _ w_13)) (by decide) (backOf (W := 3) (rmname l Z a0 hw [] m1 cz h16 n0 O16 hp6 hcz) hZ (hw _ w_13) (hw _ w_6) (by decide) (by decide)) (g := (mkF m 83 #[.val (.int p0), .val (.int p1), .val (.int p2), .val (.int p3), .val (.int p4), .val (.int k0), .val (.int k1), .val (.int k2), .val (.int nn), .val (.ref b5), .unset, .unset, .unset, .unset] [(.int m1), (.ref r_18), (.ref b16), (.ref b16)])) rfl (by rw [hml]; rfl) (argsL := [(.int m1)]) (rest := [(.ref r_18), (.ref b16), (.ref b16)]) (lenOf pd__I_Ljava_lang_String_ rfl) rfl (by show 2 * 0 + _ ≤ _; exact Nat.le_of_eq rfl) (hb hby at_83) (fun _ _ => ⟨rfl, eh18, (by decide : 6 + 2 ≤ _), (by decide : 16 + 5 ≤ _)⟩)
  dsimp only [Pt.U, Pt.locs, Pt.cells, Pt.slots] at X20 l20 y20 z20 st20 hQ20
  subst l20 y20 z20
  obtain ⟨wv_20, rfl, N20q, Kc20, r20_1⟩ := hQ20
  have N20 := Fr.app N18 N20q
  have O20 : Old Z n0 T20.heap := O16.keep Kc20 all0
  have K20 : Keep h0 T20.heap [] := K16.trans Kc20 all0
  have pre21 : ∀ tg_, Steps p.tables e below (T20.setTop (mkF m 96 #[.val (.int p0), .val (.int p1), .val (.int p2), .val (.int p3), .val (.int p4), .val (.int k0), .val (.int k1), .val (.int k2), .val (.int nn), .val (.ref b5), .unset, .unset, .unset, .unset] [(.int ((((p4.toUInt32 >>> ((18 : Int32) &&& 31).toUInt32).toInt32) &&& (255 : Int32)).toUInt32.toUInt16.toUInt32.toInt32)), wv_20, (.ref r_18), (.ref b16), (.ref b16)])) tg_ → Steps p.tables e below (s₁.setTop (entryFrame m #[(.int p0), (.int p1), (.int p2), (.int p3), (.int p4)] maxLocals)) tg_ := by
    intro tg_ kt_
    refine pre19 tg_ ?_
    show Steps p.tables e below (T18.setTop (mkF m 83 #[.val (.int p0), .val (.int p1), .val (.int p2), .val (.int p3), .val (.int p4), .val (.int k0), .val (.int k1), .val (.int k2), .val (.int nn), .val (.ref b5), .unset, .unset, .unset, .unset] [(.int m1), (.ref r_18), (.ref b16), (.ref b16)])) _
    refine st20 _ ?_
    refine XS.iload X20.here hx rfl (hb hby at_86) rfl ?_
    refine XS.bipush X20.here hx rfl (hb hby at_88) ?_
    refine XS.iushr X20.here hx rfl (hb hby at_90) rfl ?_
    show Steps p.tables e below (T20.setTop (mkF m 91 #[.val (.int p0), .val (.int p1), .val (.int p2), .val (.int p3), .val (.int p4), .val (.int k0), .val (.int k1), .val (.int k2), .val (.int nn), .val (.ref b5), .unset, .unset, .unset, .unset] [(.int ((p4.toUInt32 >>> ((18 : Int32) &&& 31).toUInt32).toInt32)), wv_20, (.ref r_18), (.ref b16), (.ref b16)])) _
    refine XS.sipush X20.here hx rfl (hb hby at_91) ?_
    refine XS.iand X20.here hx rfl (hb hby at_94) rfl ?_
    refine XS.i2c X20.here hx rfl (hb hby at_95) rfl ?_
    exact kt_
  obtain ⟨c1, hg_c1⟩ : ∃ z, z = ((((p4.toUInt32 >>> ((18 : Int32) &&& 31).toUInt32).toInt32) &&& (255 : Int32)).toUInt32.toUInt16.toUInt32.toInt32) := ⟨_, rfl⟩
  rw [← hg_c1] at pre21
  obtain ⟨_, _, ⟨T22, L22, k22, n22⟩, -, X22, ⟨Lc22, hQ22, l22, y22, z22⟩, st22⟩ := Jvm.LawKit.callS X20 hx (y := mN5) hown (mvT hZ (hw _ w_14)) (mvT hZ (hw _ w_15)) (mvT hZ (hw _ w_16)) (mvT hZ (hw _ w_17)) (by decide) (backOf (W := 4) (rmvalueOfC l Z a0 hw [] c1 cz T20.heap n0 O20 hp6 hcz (by rw [hg_c1]; exact own_ch _)) hZ (hw _ w_17) (hw _ w_16) (by decide) (by decide)) (g := (mkF m 96 #[.val (.int p0), .val (.int p1), .val (.int p2), .val (.int p3), .val (.int p4), .val (.int k0), .val (.int k1), .val (.int k2), .val (.int nn), .val (.ref b5), .unset, .unset, .unset, .unset] [(.int c1), wv_20, (.ref r_18), (.ref b16), (.ref b16)])) rfl (by rw [hml]; rfl) (argsL := [(.int c1)]) (rest := [wv_20, (.ref r_18), (.ref b16), (.ref b16)]) (lenOf pd__C_Ljava_lang_String_ rfl) rfl (by show 2 * 0 + (List.map (fun v : Value => v.category) _).sum ≤ _; simp only [List.map, own_catR r20_1]; exact Nat.le_of_eq rfl) (hb hby at_96) (fun _ _ => ⟨rfl, rfl, (by decide : 8 + 2 ≤ _), (by decide : 21 + 5 ≤ _)⟩)
  dsimp only [Pt.U, Pt.locs, Pt.cells, Pt.slots] at X22 l22 y22 z22 st22 hQ22
  subst l22 y22 z22
  obtain ⟨r_22, t_22, kt_22, rfl, N22q, Kc22, r22_1, r22_2, r22_3, r22_4, r22_5, r22_6⟩ := hQ22
  have N22 := Fr.app N20 N22q
  have sz23 : h0.size ≤ r_22 := Nat.le_trans K20.1 r22_1
  have gn23 : n0 ≤ r_22 := Nat.le_trans Z0 sz23
  have sz25 : h0.size ≤ t_22 := Nat.le_trans K20.1 r22_2
  have gn25 : n0 ≤ t_22 := Nat.le_trans Z0 sz25
  have O22 : Old Z n0 T22.heap := O20.keep Kc22 all0
  have K22 : Keep h0 T22.heap [] := K20.trans Kc22 all0
  obtain ⟨_, _, ⟨T27, L27, k27, n27⟩, -, X27, ⟨Lc27, hQ27, l27, y27, z27⟩, st27⟩ := X22.specialBack hx (y := mN7) rfl hown (mvT hZ (hw _ w_40)) (mvT hZ (hw _ w_41)) (mvT hZ (hw _ w_42)) (by decide) (backOf (W := 1) (rmaeInit l Z a0 hw [] b16 r_18 wv_20 r_22 .null .null .null T22.heap n0 O22 ((A16.keep Kc20).keep Kc22) gn16 r20_1 ((F16_45.keep Kc20 nin0).keep Kc22 nin0) ((F16_47.keep Kc20 nin0).keep Kc22 nin0) ((F16_49.keep Kc20 nin0).keep Kc22 nin0)) hZ (hw _ w_42) (hw _ w_3) (by decide) (by decide)) (g := (mkF m 99 #[.val (.int p0), .val (.int p1), .val (.int p2), .val (.int p3), .val (.int p4), .val (.int k0), .val (.int k1), .val (.int k2), .val (.int nn), .val (.ref b5), .unset, .unset, .unset, .unset] [(.ref r_22), wv_20, (.ref r_18), (.ref b16), (.ref b16)])) rfl (by rw [hml]; rfl) (Steps.refl _) (a := b16) (argsL := [(.ref r_18), wv_20, (.ref r_22)]) (rest := [(.ref b16)]) (lenOf pd__Lcom_example_levy_levy_api_ErrorType_Ljava_lang_String_Ljava_lang_String__V rfl) rfl (by show 2 * 0 + _ ≤ _; exact Nat.le_of_eq rfl) (hb hby at_99) (fun _ _ => ⟨rfl, rfl, (by decide : 10 + 0 ≤ _), (by decide : 26 + 0 ≤ _)⟩)
  dsimp only [Pt.U, Pt.locs, Pt.cells, Pt.slots] at X27 l27 y27 z27 st27 hQ27
  subst l27 y27 z27
  obtain ⟨rfl, N27q, Kc27, r27_1, r27_2, r27_3⟩ := hQ27
  have N27 := Fr.app N22 N27q
  have O27 : Old Z n0 T27.heap := O22.keep Kc27 (allS gn16 all0)
  have K27 : Keep h0 T27.heap [] := K22.trans Kc27 (allS (Or.inr sz16) all0)
  obtain ⟨T28, h28, X28, e28, E28, A28, D28, U28, st28⟩ := newO X27 hx hZ hown (hw _ w_1) (hw _ w_2) (hw _ w_3) rfl (g := (mkF m 104 #[.val (.int p0), .val (.int p1), .val (.int p2), .val (.int p3), .val (.int p4), .val (.int k0), .val (.int k1), .val (.int k2), .val (.int nn), .val (.ref b5), .val (.ref b16), .unset, .unset, .unset] [])) rfl (hb hby at_104) (by decide) (by decide)
  obtain ⟨b28, g28⟩ : ∃ z, z = T27.heap.size := ⟨_, rfl⟩
  rw [← g28] at A28 D28 U28 st28
  have Un28 : Unt h28 b28 := U28
  have sz28 : h0.size ≤ b28 := Nat.le_trans K27.1 (Nat.le_of_eq g28.symm)
  have gn28 : n0 ≤ b28 := Nat.le_trans Z0 sz28
  have O28 : Old Z n0 h28 := O27.ext E28
  have K28 : Keep h0 h28 [] := K27.ext E28
  have F28_45 : Fld Z h28 b28 "com/example/levy/levy/api/ApiError" "type" "Lcom/example/levy/levy/api/ErrorType;" .null := D28 (Or.inr (hw _ w_45)) (ty := (.object "com/example/levy/levy/api/ErrorType")) (by decide)
  have F28_47 : Fld Z h28 b28 "com/example/levy/levy/api/ApiError" "parameterName" "Ljava/lang/String;" .null := D28 (Or.inr (hw _ w_47)) (ty := (.object "java/lang/String")) (by decide)
  have F28_49 : Fld Z h28 b28 "com/example/levy/levy/api/ApiError" "message" "Ljava/lang/String;" .null := D28 (Or.inr (hw _ w_49)) (ty := (.object "java/lang/String")) (by decide)
  obtain ⟨_, _, ⟨T30, L30, k30, n30⟩, -, X30, ⟨Lc30, hQ30, l30, y30, z30⟩, st30⟩ := Jvm.LawKit.callS X28 hx (y := mN0) hown (mvT hZ (hw _ w_4)) (mvT hZ (hw _ w_5)) (mvT hZ (hw _ w_6)) (mvT hZ (hw _ w_7)) (by decide) (backOf (W := 2) (rmtype l Z a0 hw [] k2 tINVALID_JSON tINVALID_PARAMETER tINVALID_REQUEST tUNAUTHORIZED tCARD_DECLINED tSANDBOX_ONLY tNOT_FOUND tMETHOD_NOT_ALLOWED tINVALID_STATE tREQUEST_IN_PROGRESS tREQUEST_TOO_LARGE tNO_PROCESSOR tIDEMPOTENCY_KEY_REUSED tWEBHOOKS_NOT_CONFIGURED tINTERNAL_ERROR h28 n0 O28 (by rw [hg_k2]; exact own_k15 _) hp11 hp12 hp13 hp14 hp15 hp16 hp17 hp18 hp19 hp20 hp21 hp22 hp23 hp24 hp25 hp26 hp27 hp28 hp29 hp30 hp31 hp32 hp33 hp34 hp35 hp36 hp37 hp38 hp39 hp40 hp41 hp42 hp43 hp44 hp45 hp46 hp47 hp48 hp49 hp50 hp51 hp52 hp53 hp54 hp55) hZ (hw _ w_7) (hw _ w_6) (by decide) (by decide)) (g := (mkF m 110 #[.val (.int p0), .val (.int p1), .val (.int p2), .val (.int p3), .val (.int p4), .val (.int k0), .val (.int k1), .val (.int k2), .val (.int nn), .val (.ref b5), .val (.ref b16), .unset, .unset, .unset] [(.int k2), (.ref b28), (.ref b28)])) rfl (by rw [hml]; rfl) (argsL := [(.int k2)]) (rest := [(.ref b28), (.ref b28)]) (lenOf pd__I_Lcom_example_levy_levy_api_ErrorType_ rfl) rfl (by show 2 * 0 + _ ≤ _; exact Nat.le_of_eq rfl) (hb hby at_110) (fun _ _ => ⟨rfl, e28, (by decide : 11 + 0 ≤ _), (by decide : 29 + 0 ≤ _)⟩)
  dsimp only [Pt.U, Pt.locs, Pt.cells, Pt.slots] at X30 l30 y30 z30 st30 hQ30
  subst l30 y30 z30
  obtain ⟨r_30, rfl, N30q, eh30, r30_0, r30_1⟩ := hQ30
  have N30 := Fr.app N27 N30q
  have pre31 : ∀ tg_, Steps p.tables e below (T30.setTop (mkF m 118 #[.val (.int p0), .val (.int p1), .val (.int p2), .val (.int p3), .val (.int p4), .val (.int k0), .val (.int k1), .val (.int k2), .val (.int nn), .val (.ref b5), .val (.ref b16), .unset, .unset, .unset] [(.int ((p4.toUInt32 >>> ((22 : Int32) &&& 31).toUInt32).toInt32)), (.ref r_30), (.ref b28), (.ref b28)])) tg_ → Steps p.tables e below (s₁.setTop (entryFrame m #[(.int p0), (.int p1), (.int p2), (.int p3), (.int p4)] maxLocals)) tg_ := by
    intro tg_ kt_
    refine pre21 tg_ ?_
    show Steps p.tables e below (T20.setTop (mkF m 96 #[.val (.int p0), .val (.int p1), .val (.int p2), .val (.int p3), .val (.int p4), .val (.int k0), .val (.int k1), .val (.int k2), .val (.int nn), .val (.ref b5), .unset, .unset, .unset, .unset] [(.int c1), wv_20, (.ref r_18), (.ref b16), (.ref b16)])) _
    refine st22 _ ?_
    show Steps p.tables e below (T22.setTop (mkF m 99 #[.val (.int p0), .val (.int p1), .val (.int p2), .val (.int p3), .val (.int p4), .val (.int k0), .val (.int k1), .val (.int k2), .val (.int nn), .val (.ref b5), .unset, .unset, .unset, .unset] [(.ref r_22), wv_20, (.ref r_18), (.ref b16), (.ref b16)])) _
    refine st27.trans ?_
    refine XS.astore X27.here hx rfl (hb hby at_102) rfl rfl (l' := #[.val (.int p0), .val (.int p1), .val (.int p2), .val (.int p3), .val (.int p4), .val (.int k0), .val (.int k1), .val (.int k2), .val (.int nn), .val (.ref b5), .val (.ref b16), .unset, .unset, .unset]) rfl ?_
    show Steps p.tables e below (T27.setTop (mkF m 104 #[.val (.int p0), .val (.int p1), .val (.int p2), .val (.int p3), .val (.int p4), .val (.int k0), .val (.int k1), .val (.int k2), .val (.int nn), .val (.ref b5), .val (.ref b16), .unset, .unset, .unset] [])) _
    refine st28 _ ?_
    refine XS.dup X28.here hx rfl (hb hby at_107) rfl rfl ?_
    refine XS.iload X28.here hx rfl (hb hby at_108) rfl ?_
    show Steps p.tables e below (T28.setTop (mkF m 110 #[.val (.int p0), .val (.int p1), .val (.int p2), .val (.int p3), .val (.int p4), .val (.int k0), .val (.int k1), .val (.int k2), .val (.int nn), .val (.ref b5), .val (.ref b16), .unset, .unset, .unset] [(.int k2), (.ref b28), (.ref b28)])) _
    refine st30 _ ?_
    refine XS.iload X30.here hx rfl (hb hby at_113) rfl ?_
    refine XS.bipush X30.here hx rfl (hb hby at_115) ?_
    refine XS.iushr X30.here hx rfl (hb hby at_117) rfl ?_
    exact kt_
  obtain ⟨m2, hg_m2⟩ : ∃ z, z = ((p4.toUInt32 >>> ((22 : Int32) &&& 31).toUInt32).toInt32) := ⟨_, rfl⟩
  rw [← hg_m2] at pre31
  obtain ⟨_, _, ⟨T32, L32, k32, n32⟩, -, X32, ⟨Lc32, hQ32, l32, y32, z32⟩, st32⟩ := Jvm.LawKit.callS X30 hx (y := mN6) hown (mvT hZ (hw _ w_11)) (mvT hZ (hw _ w_12)) (mvT hZ (hw _ w_6)) (mvT hZ (hw _ w_13)) (by decide) (backOf (W := 3) (rmname l Z a0 hw [] m2 cz h28 n0 O28 hp6 hcz) hZ (hw _ w_13) (hw _ w_6) (by decide) (by decide)) (g := (mkF m 118 #[.val (.int p0), .val (.int p1), .val (.int p2), .val (.int p3), .val (.int p4), .val (.int k0), .val (.int k1), .val (.int k2), .val (.int nn), .val (.ref b5), .val (.ref b16), .unset, .unset, .unset] [(.int m2), (.ref r_30), (.ref b28), (.ref b28)])) rfl (by rw [hml]; rfl) (argsL := [(.int m2)]) (rest := [(.ref r_30), (.ref b28), (.ref b28)]) (lenOf pd__I_Ljava_lang_String_ rfl) rfl (by show 2 * 0 + _ ≤ _; exact Nat.le_of_eq rfl) (hb hby at_118) (fun _ _ => ⟨rfl, eh30, (by decide : 11 + 2 ≤ _), (by decide : 29 + 5 ≤ _)⟩)
  dsimp only [Pt.U, Pt.locs, Pt.cells, Pt.slots] at X32 l32 y32 z32 st32 hQ32
  subst l32 y32 z32
  obtain ⟨wv_32, rfl, N32q, Kc32, r32_1⟩ := hQ32
  have N32 := Fr.app N30 N32q
  have O32 : Old Z n0 T32.heap := O28.keep Kc32 all0
  have K32 : Keep h0 T32.heap [] := K28.trans Kc32 all0
  have pre33 : ∀ tg_, Steps p.tables e below (T32.setTop (mkF m 131 #[.val (.int p0), .val (.int p1), .val (.int p2), .val (.int p3), .val (.int p4), .val (.int k0), .val (.int k1), .val (.int k2), .val (.int nn), .val (.ref b5), .val (.ref b16), .unset, .unset, .unset] [(.int ((((p4.toUInt32 >>> ((24 : Int32) &&& 31).toUInt32).toInt32) &&& (255 : Int32)).toUInt32.toUInt16.toUInt32.toInt32)), wv_32, (.ref r_30), (.ref b28), (.ref b28)])) tg_ → Steps p.tables e below (s₁.setTop (entryFrame m #[(.int p0), (.int p1), (.int p2), (.int p3), (.int p4)] maxLocals)) tg_ := by
    intro tg_ kt_
    refine pre31 tg_ ?_
    show Steps p.tables e below (T30.setTop (mkF m 118 #[.val (.int p0), .val (.int p1), .val (.int p2), .val (.int p3), .val (.int p4), .val (.int k0), .val (.int k1), .val (.int k2), .val (.int nn), .val (.ref b5), .val (.ref b16), .unset, .unset, .unset] [(.int m2), (.ref r_30), (.ref b28), (.ref b28)])) _
    refine st32 _ ?_
    refine XS.iload X32.here hx rfl (hb hby at_121) rfl ?_
    refine XS.bipush X32.here hx rfl (hb hby at_123) ?_
    refine XS.iushr X32.here hx rfl (hb hby at_125) rfl ?_
    show Steps p.tables e below (T32.setTop (mkF m 126 #[.val (.int p0), .val (.int p1), .val (.int p2), .val (.int p3), .val (.int p4), .val (.int k0), .val (.int k1), .val (.int k2), .val (.int nn), .val (.ref b5), .val (.ref b16), .unset, .unset, .unset] [(.int ((p4.toUInt32 >>> ((24 : Int32) &&& 31).toUInt32).toInt32)), wv_32, (.ref r_30), (.ref b28), (.ref b28)])) _
    refine XS.sipush X32.here hx rfl (hb hby at_126) ?_
    refine XS.iand X32.here hx rfl (hb hby at_129) rfl ?_
    refine XS.i2c X32.here hx rfl (hb hby at_130) rfl ?_
    exact kt_
  obtain ⟨c2, hg_c2⟩ : ∃ z, z = ((((p4.toUInt32 >>> ((24 : Int32) &&& 31).toUInt32).toInt32) &&& (255 : Int32)).toUInt32.toUInt16.toUInt32.toInt32) := ⟨_, rfl⟩
  rw [← hg_c2] at pre33
  obtain ⟨_, _, ⟨T34, L34, k34, n34⟩, -, X34, ⟨Lc34, hQ34, l34, y34, z34⟩, st34⟩ := Jvm.LawKit.callS X32 hx (y := mN5) hown (mvT hZ (hw _ w_14)) (mvT hZ (hw _ w_15)) (mvT hZ (hw _ w_16)) (mvT hZ (hw _ w_17)) (by decide) (backOf (W := 4) (rmvalueOfC l Z a0 hw [] c2 cz T32.heap n0 O32 hp6 hcz (by rw [hg_c2]; exact own_ch _)) hZ (hw _ w_17) (hw _ w_16) (by decide) (by decide)) (g := (mkF m 131 #[.val (.int p0), .val (.int p1), .val (.int p2), .val (.int p3), .val (.int p4), .val (.int k0), .val (.int k1), .val (.int k2), .val (.int nn), .val (.ref b5), .val (.ref b16), .unset, .unset, .unset] [(.int c2), wv_32, (.ref r_30), (.ref b28), (.ref b28)])) rfl (by rw [hml]; rfl) (argsL := [(.int c2)]) (rest := [wv_32, (.ref r_30), (.ref b28), (.ref b28)]) (lenOf pd__C_Ljava_lang_String_ rfl) rfl (by show 2 * 0 + (List.map (fun v : Value => v.category) _).sum ≤ _; simp only [List.map, own_catR r32_1]; exact Nat.le_of_eq rfl) (hb hby at_131) (fun _ _ => ⟨rfl, rfl, (by decide : 13 + 2 ≤ _), (by decide : 34 + 5 ≤ _)⟩)
  dsimp only [Pt.U, Pt.locs, Pt.cells, Pt.slots] at X34 l34 y34 z34 st34 hQ34
  subst l34 y34 z34
  obtain ⟨r_34, t_34, kt_34, rfl, N34q, Kc34, r34_1, r34_2, r34_3, r34_4, r34_5, r34_6⟩ := hQ34
  have N34 := Fr.app N32 N34q
  have sz35 : h0.size ≤ r_34 := Nat.le_trans K32.1 r34_1
  have gn35 : n0 ≤ r_34 := Nat.le_trans Z0 sz35
  have sz37 : h0.size ≤ t_34 := Nat.le_trans K32.1 r34_2
  have gn37 : n0 ≤ t_34 := Nat.le_trans Z0 sz37
  have O34 : Old Z n0 T34.heap := O32.keep Kc34 all0
  have K34 : Keep h0 T34.heap [] := K32.trans Kc34 all0
  obtain ⟨_, _, ⟨T39, L39, k39, n39⟩, -, X39, ⟨Lc39, hQ39, l39, y39, z39⟩, st39⟩ := X34.specialBack hx (y := mN7) rfl hown (mvT hZ (hw _ w_40)) (mvT hZ (hw _ w_41)) (mvT hZ (hw _ w_42)) (by decide) (backOf (W := 1) (rmaeInit l Z a0 hw [] b28 r_30 wv_32 r_34 .null .null .null T34.heap n0 O34 ((A28.keep Kc32).keep Kc34) gn28 r32_1 ((F28_45.keep Kc32 nin0).keep Kc34 nin0) ((F28_47.keep Kc32 nin0).keep Kc34 nin0) ((F28_49.keep Kc32 nin0).keep Kc34 nin0)) hZ (hw _ w_42) (hw _ w_3) (by decide) (by decide)) (g := (mkF m 134 #[.val (.int p0), .val (.int p1), .val (.int p2), .val (.int p3), .val (.int p4), .val (.int k0), .val (.int k1), .val (.int k2), .val (.int nn), .val (.ref b5), .val (.ref b16), .unset, .unset, .unset] [(.ref r_34), wv_32, (.ref r_30), (.ref b28), (.ref b28)])) rfl (by rw [hml]; rfl) (Steps.refl _) (a := b28) (argsL := [(.ref r_30), wv_32, (.ref r_34)]) (rest := [(.ref b28)]) (lenOf pd__Lcom_example_levy_levy_api_ErrorType_Ljava_lang_String_Ljava_lang_String__V rfl) rfl (by show 2 * 0 + _ ≤ _; exact Nat.le_of_eq rfl) (hb hby at_134) (fun _ _ => ⟨rfl, rfl, (by decide : 15 + 0 ≤ _), (by decide : 39 + 0 ≤ _)⟩)
  dsimp only [Pt.U, Pt.locs, Pt.cells, Pt.slots] at X39 l39 y39 z39 st39 hQ39
  subst l39 y39 z39
  obtain ⟨rfl, N39q, Kc39, r39_1, r39_2, r39_3⟩ := hQ39
  have N39 := Fr.app N34 N39q
  have O39 : Old Z n0 T39.heap := O34.keep Kc39 (allS gn28 all0)
  have K39 : Keep h0 T39.heap [] := K34.trans Kc39 (allS (Or.inr sz28) all0)
  obtain ⟨T40, h40, X40, e40, E40, A40, D40, U40, st40⟩ := newO X39 hx hZ hown (hw _ w_54) (hw _ w_55) (hw _ w_56) rfl (g := (mkF m 139 #[.val (.int p0), .val (.int p1), .val (.int p2), .val (.int p3), .val (.int p4), .val (.int k0), .val (.int k1), .val (.int k2), .val (.int nn), .val (.ref b5), .val (.ref b16), .val (.ref b28), .unset, .unset] [])) rfl (hb hby at_139) (by decide) (by decide)
  obtain ⟨b40, g40⟩ : ∃ z, z = T39.heap.size := ⟨_, rfl⟩
  rw [← g40] at A40 D40 U40 st40
  have Un40 : Unt h40 b40 := U40
  have sz40 : h0.size ≤ b40 := Nat.le_trans K39.1 (Nat.le_of_eq g40.symm)
  have gn40 : n0 ≤ b40 := Nat.le_trans Z0 sz40
  have O40 : Old Z n0 h40 := O39.ext E40
  have K40 : Keep h0 h40 [] := K39.ext E40
  have F40_74 : Fld Z h40 b40 "java/util/AbstractList" "modCount" "I" (.int (0 : Int32)) := D40 (Or.inl (hw _ w_74)) (ty := .int) (by decide)
  have F40_77 : Fld Z h40 b40 "java/util/ArrayList" "elementData" "[Ljava/lang/Object;" .null := D40 (Or.inl (hw _ w_77)) (ty := (.array (.object "java/lang/Object"))) (by decide)
  have F40_86 : Fld Z h40 b40 "java/util/ArrayList" "size" "I" (.int (0 : Int32)) := D40 (Or.inl (hw _ w_86)) (ty := .int) (by decide)
  obtain ⟨_, _, ⟨T42, L42, k42, n42⟩, -, X42, ⟨Lc42, hQ42, l42, y42, z42⟩, st42⟩ := X40.specialBack hx (y := mN10) rfl hown (mvT hZ (hw _ w_57)) (mvT hZ (hw _ w_58)) (mvT hZ (hw _ w_59)) (by decide) (backOf (W := 1) (rmalInit l Z a0 hw [] b40 (.int (0 : Int32)) .null dd h40 n0 O40 A40 gn40 F40_74 F40_77 F40_86 hp8) hZ (hw _ w_59) (hw _ w_56) (by decide) (by decide)) (g := (mkF m 143 #[.val (.int p0), .val (.int p1), .val (.int p2), .val (.int p3), .val (.int p4), .val (.int k0), .val (.int k1), .val (.int k2), .val (.int nn), .val (.ref b5), .val (.ref b16), .val (.ref b28), .unset, .unset] [(.ref b40), (.ref b40)])) rfl (by rw [hml]; rfl) (Steps.refl _) (a := b40) (argsL := []) (rest := [(.ref b40)]) (lenOf pd___V rfl) rfl (by show 2 * 0 + _ ≤ _; exact Nat.le_of_eq rfl) (hb hby at_143) (fun _ _ => ⟨rfl, e40, (by decide : 16 + 0 ≤ _), (by decide : 42 + 0 ≤ _)⟩)
  dsimp only [Pt.U, Pt.locs, Pt.cells, Pt.slots] at X42 l42 y42 z42 st42 hQ42
  subst l42 y42 z42
  obtain ⟨rfl, N42q, Kc42, r42_1, r42_2, r42_3, r42_4⟩ := hQ42
  have N42 := Fr.app N39 N42q
  have O42 : Old Z n0 T42.heap := O40.keep Kc42 (allS gn40 all0)
  have K42 : Keep h0 T42.heap [] := K40.trans Kc42 (allS (Or.inr sz40) all0)
  obtain ⟨cq43, kq43, q43a, q43b, q43c⟩ := isOf hZ rfl r42_1
  obtain ⟨_, _, ⟨T43, L43, k43, n43⟩, -, X43, ⟨Lc43, hQ43, l43, y43, z43⟩, st43⟩ := X42.virtualBack hx (y := mN15) (z := mN15) hown (mvT hZ (hw _ w_78)) (mvT hZ (hw _ w_79)) (notFace_of_selects (args := #[]) (mvT hZ (hw _ w_81))) (mvT hZ (hw _ w_81)) (mvT hZ (hw _ w_80)) (by decide) (backOf (W := 0) (rmadd0 l Z a0 hw [] b40 b5 dd kd (0 : Int32) T42.heap n0 O42 r42_1 gn40 r42_3 r42_4 r42_2 hp8 hp9 (Ins.of_exa ((((((((((r15_1.ext E16).keep Kc20).keep Kc22).keep Kc27).ext E28).keep Kc32).keep Kc34).keep Kc39).ext E40).keep Kc42) (hw _ w_108))) hZ (hw _ w_82) (hw _ w_56) (by decide) (by decide)) q43a q43c (g := (mkF m 152 #[.val (.int p0), .val (.int p1), .val (.int p2), .val (.int p3), .val (.int p4), .val (.int k0), .val (.int k1), .val (.int k2), .val (.int nn), .val (.ref b5), .val (.ref b16), .val (.ref b28), .val (.ref b40), .unset] [(.ref b5), (.ref b40)])) rfl (by rw [hml]; rfl) (Steps.refl _) (argsL := [(.ref b5)]) (rest := []) (lenOf pd__Ljava_lang_Object__Z rfl) rfl (by show 2 * 0 + _ ≤ _; exact Nat.le_of_eq rfl) (hb hby at_152) (fun _ _ => ⟨rfl, rfl, (by decide : 16 + 1 ≤ _), (by decide : 42 + 10 ≤ _)⟩)
  dsimp only [Pt.U, Pt.locs, Pt.cells, Pt.slots] at X43 l43 y43 z43 st43 hQ43
  subst l43 y43 z43
  obtain ⟨b_43, kb_43, rfl, N43q, Kc43, r43_1, r43_2, r43_3, r43_4, r43_5, r43_6, r43_7, r43_8⟩ := hQ43
  have N43 := Fr.app N42 N43q
  have sz44 : h0.size ≤ b_43 := Nat.le_trans K42.1 r43_1
  have gn44 : n0 ≤ b_43 := Nat.le_trans Z0 sz44
  have O43 : Old Z n0 T43.heap := O42.keep Kc43 (allS gn40 all0)
  have K43 : Keep h0 T43.heap [] := K42.trans Kc43 (allS (Or.inr sz40) all0)
  have pre46 : ∀ tg_, Steps p.tables e below (T43.setTop (mkF m 159 #[.val (.int p0), .val (.int p1), .val (.int p2), .val (.int p3), .val (.int p4), .val (.int k0), .val (.int k1), .val (.int k2), .val (.int nn), .val (.ref b5), .val (.ref b16), .val (.ref b28), .val (.ref b40), .unset] [(.int (2 : Int32)), (.int nn)])) tg_ → Steps p.tables e below (s₁.setTop (entryFrame m #[(.int p0), (.int p1), (.int p2), (.int p3), (.int p4)] maxLocals)) tg_ := by
    intro tg_ kt_
    refine pre33 tg_ ?_
    show Steps p.tables e below (T32.setTop (mkF m 131 #[.val (.int p0), .val (.int p1), .val (.int p2), .val (.int p3), .val (.int p4), .val (.int k0), .val (.int k1), .val (.int k2), .val (.int nn), .val (.ref b5), .val (.ref b16), .unset, .unset, .unset] [(.int c2), wv_32, (.ref r_30), (.ref b28), (.ref b28)])) _
    refine st34 _ ?_
    show Steps p.tables e below (T34.setTop (mkF m 134 #[.val (.int p0), .val (.int p1), .val (.int p2), .val (.int p3), .val (.int p4), .val (.int k0), .val (.int k1), .val (.int k2), .val (.int nn), .val (.ref b5), .val (.ref b16), .unset, .unset, .unset] [(.ref r_34), wv_32, (.ref r_30), (.ref b28), (.ref b28)])) _
    refine st39.trans ?_
    refine XS.astore X39.here hx rfl (hb hby at_137) rfl rfl (l' := #[.val (.int p0), .val (.int p1), .val (.int p2), .val (.int p3), .val (.int p4), .val (.int k0), .val (.int k1), .val (.int k2), .val (.int nn), .val (.ref b5), .val (.ref b16), .val (.ref b28), .unset, .unset]) rfl ?_
    show Steps p.tables e below (T39.setTop (mkF m 139 #[.val (.int p0), .val (.int p1), .val (.int p2), .val (.int p3), .val (.int p4), .val (.int k0), .val (.int k1), .val (.int k2), .val (.int nn), .val (.ref b5), .val (.ref b16), .val (.ref b28), .unset, .unset] [])) _
    refine st40 _ ?_
    refine XS.dup X40.here hx rfl (hb hby at_142) rfl rfl ?_
    show Steps p.tables e below (T40.setTop (mkF m 143 #[.val (.int p0), .val (.int p1), .val (.int p2), .val (.int p3), .val (.int p4), .val (.int k0), .val (.int k1), .val (.int k2), .val (.int nn), .val (.ref b5), .val (.ref b16), .val (.ref b28), .unset, .unset] [(.ref b40), (.ref b40)])) _
    refine st42.trans ?_
    refine XS.astore X42.here hx rfl (hb hby at_146) rfl rfl (l' := #[.val (.int p0), .val (.int p1), .val (.int p2), .val (.int p3), .val (.int p4), .val (.int k0), .val (.int k1), .val (.int k2), .val (.int nn), .val (.ref b5), .val (.ref b16), .val (.ref b28), .val (.ref b40), .unset]) rfl ?_
    refine XS.aload X42.here hx rfl (hb hby at_148) rfl rfl ?_
    refine XS.aload X42.here hx rfl (hb hby at_150) rfl rfl ?_
    show Steps p.tables e below (T42.setTop (mkF m 152 #[.val (.int p0), .val (.int p1), .val (.int p2), .val (.int p3), .val (.int p4), .val (.int k0), .val (.int k1), .val (.int k2), .val (.int nn), .val (.ref b5), .val (.ref b16), .val (.ref b28), .val (.ref b40), .unset] [(.ref b5), (.ref b40)])) _
    refine st43.trans ?_
    refine XS.pop X43.here hx rfl (hb hby at_155) rfl rfl ?_
    refine XS.iload X43.here hx rfl (hb hby at_156) rfl ?_
    refine XS.iconst X43.here hx rfl (hb hby at_158) ?_
    exact kt_
  by_cases hc47 : nn < (2 : Int32)
  · have pre48 : ∀ tg_, Steps p.tables e below (T43.setTop (mkF m 173 #[.val (.int p0), .val (.int p1), .val (.int p2), .val (.int p3), .val (.int p4), .val (.int k0), .val (.int k1), .val (.int k2), .val (.int nn), .val (.ref b5), .val (.ref b16), .val (.ref b28), .val (.ref b40), .unset] [(.int (3 : Int32)), (.int nn)])) tg_ → Steps p.tables e below (s₁.setTop (entryFrame m #[(.int p0), (.int p1), (.int p2), (.int p3), (.int p4)] maxLocals)) tg_ := by
      intro tg_ kt_
      refine pre46 tg_ ?_
      show Steps p.tables e below (T43.setTop (mkF m 159 #[.val (.int p0), .val (.int p1), .val (.int p2), .val (.int p3), .val (.int p4), .val (.int k0), .val (.int k1), .val (.int k2), .val (.int nn), .val (.ref b5), .val (.ref b16), .val (.ref b28), .val (.ref b40), .unset] [(.int (2 : Int32)), (.int nn)])) _
      refine XS.icmpYes X43.here hx rfl (pc0 := 159) (pc' := 170) rfl (hb hby at_159) rfl (tlt hc47).1 (by decide) (by decide) ?_
      refine XS.iload X43.here hx rfl (hb hby at_170) rfl ?_
      refine XS.iconst X43.here hx rfl (hb hby at_172) ?_
      exact kt_
    by_cases hc49 : nn < (3 : Int32)
    · obtain ⟨T50, h50, X50, e50, E50, A50, D50, U50, st50⟩ := newO X43 hx hZ hown (hw _ w_109) (hw _ w_110) (hw _ w_111) rfl (g := (mkF m 184 #[.val (.int p0), .val (.int p1), .val (.int p2), .val (.int p3), .val (.int p4), .val (.int k0), .val (.int k1), .val (.int k2), .val (.int nn), .val (.ref b5), .val (.ref b16), .val (.ref b28), .val (.ref b40), .unset] [])) rfl (hb hby at_184) (by decide) (by decide)
      obtain ⟨b50, g50⟩ : ∃ z, z = T43.heap.size := ⟨_, rfl⟩
      rw [← g50] at A50 D50 U50 st50
      have Un50 : Unt h50 b50 := U50
      have sz50 : h0.size ≤ b50 := Nat.le_trans K43.1 (Nat.le_of_eq g50.symm)
      have gn50 : n0 ≤ b50 := Nat.le_trans Z0 sz50
      have O50 : Old Z n0 h50 := O43.ext E50
      have K50 : Keep h0 h50 [] := K43.ext E50
      have F50_163 : Fld Z h50 b50 "java/lang/Throwable" "cause" "Ljava/lang/Throwable;" .null := D50 (Or.inl (hw _ w_163)) (ty := (.object "java/lang/Throwable")) (by decide)
      have F50_166 : Fld Z h50 b50 "java/lang/Throwable" "stackTrace" "[Ljava/lang/StackTraceElement;" .null := D50 (Or.inl (hw _ w_166)) (ty := (.array (.object "java/lang/StackTraceElement"))) (by decide)
      have F50_169 : Fld Z h50 b50 "java/lang/Throwable" "suppressedExceptions" "Ljava/util/List;" .null := D50 (Or.inl (hw _ w_169)) (ty := (.object "java/util/List")) (by decide)
      have F50_192 : Fld Z h50 b50 "java/lang/Throwable" "detailMessage" "Ljava/lang/String;" .null := D50 (Or.inl (hw _ w_192)) (ty := (.object "java/lang/String")) (by decide)
      have F50_193 : Fld Z h50 b50 "java/lang/Throwable" "backtrace" "Ljava/lang/Object;" .null := D50 (Or.inl (hw _ w_193)) (ty := (.object "java/lang/Object")) (by decide)
      have F50_194 : Fld Z h50 b50 "java/lang/Throwable" "depth" "I" (.int (0 : Int32)) := D50 (Or.inl (hw _ w_194)) (ty := .int) (by decide)
      have F50_282 : Fld Z h50 b50 "com/example/levy/levy/api/ApiException" "errors" "Ljava/util/List;" .null := D50 (Or.inr (hw _ w_282)) (ty := (.object "java/util/List")) (by decide)
      obtain ⟨_, _, ⟨T52, L52, k52, n52⟩, -, X52, ⟨Lc52, hQ52, l52, y52, z52⟩, st52⟩ := X50.specialBack hx (y := mN45) rfl hown (mvT hZ (hw _ w_112)) (mvT hZ (hw _ w_113)) (mvT hZ (hw _ w_114)) (by decide) (backOfKL (W := 1) (rmaxInit1 l Z a0 hw [] b50 b40 b5 b_43 kb_43 mr r_10 em .null .null .null .null us se .null h50 n0 O50 hl A50 Un50 gn50 F50_163 F50_166 F50_169 F50_192 F50_193 F50_282 hp1 hp2 hus hse (r43_2.ext E50) (r43_3.ext E50) (r43_4.ext E50) (r43_6.ext E50) mro (r43_8.ext E50) ((((((((((((r15_1.ext E16).keep Kc20).keep Kc22).keep Kc27).ext E28).keep Kc32).keep Kc34).keep Kc39).ext E40).keep Kc42).keep Kc43).ext E50) hp10 ((((((((((((r15_3.ext E16).keep Kc20 nin0).keep Kc22 nin0).keep Kc27 (ninS (Nat.ne_of_lt (Nat.lt_of_lt_of_le r15_1.lt (Nat.le_of_eq g16.symm))) nin0)).ext E28).keep Kc32 nin0).keep Kc34 nin0).keep Kc39 (ninS (Nat.ne_of_lt (Nat.lt_of_lt_of_le ((((r15_1.ext E16).keep Kc20).keep Kc22).keep Kc27).lt (Nat.le_of_eq g28.symm))) nin0)).ext E40).keep Kc42 (ninS (Nat.ne_of_lt (Nat.lt_of_lt_of_le ((((((((r15_1.ext E16).keep Kc20).keep Kc22).keep Kc27).ext E28).keep Kc32).keep Kc34).keep Kc39).lt (Nat.le_of_eq g40.symm))) nin0)).keep Kc43 (ninS (Nat.ne_of_lt (Nat.lt_of_lt_of_le ((((((((r15_1.ext E16).keep Kc20).keep Kc22).keep Kc27).ext E28).keep Kc32).keep Kc34).keep Kc39).lt (Nat.le_of_eq g40.symm))) nin0)).ext E50)) hZ (hw _ w_114) (hw _ w_111) (by decide) (by decide) hTK hBelow) (g := (mkF m 190 #[.val (.int p0), .val (.int p1), .val (.int p2), .val (.int p3), .val (.int p4), .val (.int k0), .val (.int k1), .val (.int k2), .val (.int nn), .val (.ref b5), .val (.ref b16), .val (.ref b28), .val (.ref b40), .unset] [(.ref b40), (.ref b50), (.ref b50)])) rfl (by rw [hml]; rfl) (Steps.refl _) (a := b50) (argsL := [(.ref b40)]) (rest := [(.ref b50)]) (lenOf pd__Ljava_util_List__V rfl) rfl (by show 2 * 0 + _ ≤ _; exact Nat.le_of_eq rfl) (hb hby at_190) (fun _ _ => ⟨rfl, e50, (by decide : 18 + 3 ≤ _), (by decide : 59 + 2755 ≤ _)⟩)
      dsimp only [Pt.U, Pt.locs, Pt.cells, Pt.slots] at X52 l52 y52 z52 st52 hQ52
      subst l52 y52 z52
      obtain ⟨r_52, rfl, N52q, Kc52, r52_1, r52_2, r52_3, r52_4, r52_5⟩ := hQ52
      have N52 := Fr.app N43 N52q
      have sz53 : h0.size ≤ r_52 := Nat.le_trans K50.1 r52_3
      have gn53 : n0 ≤ r_52 := Nat.le_trans Z0 sz53
      have O52 : Old Z n0 T52.heap := O50.keep Kc52 (allS gn50 all0)
      have K52 : Keep h0 T52.heap [] := K50.trans Kc52 (allS (Or.inr sz50) all0)
      obtain ⟨cq55, kq55, q55a, q55b, q55c⟩ := isOf hZ rfl r52_1
      obtain ⟨_, _, ⟨T55, L55, k55, n55⟩, -, X55, ⟨Lc55, hQ55, l55, y55, z55⟩, st55⟩ := X52.virtualBack hx (y := mN48) (z := mN48) hown (mvT hZ (hw _ w_283)) (mvT hZ (hw _ w_284)) (notFace_of_selects (args := #[]) (mvT hZ (hw _ w_286))) (mvT hZ (hw _ w_286)) (mvT hZ (hw _ w_285)) (by decide) (backOf (W := 0) (rmstatusA l Z a0 hw [] b50 r_52 b5 r_7 (own_exp k0) T52.heap n0 O52 r52_2 r52_4 r52_5 (((((((((((((r15_1.ext E16).keep Kc20).keep Kc22).keep Kc27).ext E28).keep Kc32).keep Kc34).keep Kc39).ext E40).keep Kc42).keep Kc43).ext E50).keep Kc52) (((((((((((((r15_2.ext E16).keep Kc20 nin0).keep Kc22 nin0).keep Kc27 (ninS (Nat.ne_of_lt (Nat.lt_of_lt_of_le r15_1.lt (Nat.le_of_eq g16.symm))) nin0)).ext E28).keep Kc32 nin0).keep Kc34 nin0).keep Kc39 (ninS (Nat.ne_of_lt (Nat.lt_of_lt_of_le ((((r15_1.ext E16).keep Kc20).keep Kc22).keep Kc27).lt (Nat.le_of_eq g28.symm))) nin0)).ext E40).keep Kc42 (ninS (Nat.ne_of_lt (Nat.lt_of_lt_of_le ((((((((r15_1.ext E16).keep Kc20).keep Kc22).keep Kc27).ext E28).keep Kc32).keep Kc34).keep Kc39).lt (Nat.le_of_eq g40.symm))) nin0)).keep Kc43 (ninS (Nat.ne_of_lt (Nat.lt_of_lt_of_le ((((((((r15_1.ext E16).keep Kc20).keep Kc22).keep Kc27).ext E28).keep Kc32).keep Kc34).keep Kc39).lt (Nat.le_of_eq g40.symm))) nin0)).ext E50).keep Kc52 (ninS (Nat.ne_of_lt (Nat.lt_of_lt_of_le (((((((((((r15_1.ext E16).keep Kc20).keep Kc22).keep Kc27).ext E28).keep Kc32).keep Kc34).keep Kc39).ext E40).keep Kc42).keep Kc43).lt (Nat.le_of_eq g50.symm))) nin0)) r7_0 r7_1) hZ (hw _ w_287) (hw _ w_111) (by decide) (by decide)) q55a q55c (g := (mkF m 197 #[.val (.int p0), .val (.int p1), .val (.int p2), .val (.int p3), .val (.int p4), .val (.int k0), .val (.int k1), .val (.int k2), .val (.int nn), .val (.ref b5), .val (.ref b16), .val (.ref b28), .val (.ref b40), .val (.ref b50)] [(.ref b50)])) rfl (by rw [hml]; rfl) (Steps.refl _) (argsL := []) (rest := []) (lenOf pd___I rfl) rfl (by show 2 * 0 + _ ≤ _; exact Nat.le_of_eq rfl) (hb hby at_197) (fun _ _ => ⟨rfl, rfl, (by decide : 21 + 0 ≤ _), (by decide : 2814 + 0 ≤ _)⟩)
      dsimp only [Pt.U, Pt.locs, Pt.cells, Pt.slots] at X55 l55 y55 z55 st55 hQ55
      subst l55 y55 z55
      obtain ⟨rfl, N55q, eh55⟩ := hQ55
      have N55 := Fr.app N52 N55q
      obtain ⟨_, _, ⟨T56, L56, k56, n56⟩, -, X56, ⟨Lc56, hQ56, l56, y56, z56⟩, st56⟩ := Jvm.LawKit.callS X55 hx (y := mN1) hown (mvT hZ (hw _ w_306)) (mvT hZ (hw _ w_307)) (mvT hZ (hw _ w_6)) (mvT hZ (hw _ w_308)) (by decide) (backOf (W := 1) (rmexpected l Z a0 hw [] k0 T52.heap n0 O52 ) hZ (hw _ w_308) (hw _ w_6) (by decide) (by decide)) (g := (mkF m 202 #[.val (.int p0), .val (.int p1), .val (.int p2), .val (.int p3), .val (.int p4), .val (.int k0), .val (.int k1), .val (.int k2), .val (.int nn), .val (.ref b5), .val (.ref b16), .val (.ref b28), .val (.ref b40), .val (.ref b50)] [(.int k0), (.int (own_exp k0))])) rfl (by rw [hml]; rfl) (argsL := [(.int k0)]) (rest := [(.int (own_exp k0))]) (lenOf pd__I_I rfl) rfl (by show 2 * 0 + _ ≤ _; exact Nat.le_of_eq rfl) (hb hby at_202) (fun _ _ => ⟨rfl, eh55, (by decide : 21 + 0 ≤ _), (by decide : 2814 + 0 ≤ _)⟩)
      dsimp only [Pt.U, Pt.locs, Pt.cells, Pt.slots] at X56 l56 y56 z56 st56 hQ56
      subst l56 y56 z56
      obtain ⟨rfl, N56q, eh56⟩ := hQ56
      have N56 := Fr.app N55 N56q
      obtain ⟨fs, hr, hrun, hended, hW, hsame⟩ := X56.leave (v := some (.int (1 : Int32))) (fun h => by rw [Bd.returns] at h; cases h)
      refine ⟨_, _, pre48 _ ?_, hrun, hended, _, _, rfl, ?_, ⟨_, rfl⟩, hW, hsame.mono (by decide) (by decide)⟩
      · refine XS.icmpYes X43.here hx rfl (pc0 := 173) (pc' := 184) rfl (hb hby at_173) rfl (tlt hc49).1 (by decide) (by decide) ?_
        show Steps p.tables e below (T43.setTop (mkF m 184 #[.val (.int p0), .val (.int p1), .val (.int p2), .val (.int p3), .val (.int p4), .val (.int k0), .val (.int k1), .val (.int k2), .val (.int nn), .val (.ref b5), .val (.ref b16), .val (.ref b28), .val (.ref b40), .unset] [])) _
        refine st50 _ ?_
        refine XS.dup X50.here hx rfl (hb hby at_187) rfl rfl ?_
        refine XS.aload X50.here hx rfl (hb hby at_188) rfl rfl ?_
        show Steps p.tables e below (T50.setTop (mkF m 190 #[.val (.int p0), .val (.int p1), .val (.int p2), .val (.int p3), .val (.int p4), .val (.int k0), .val (.int k1), .val (.int k2), .val (.int nn), .val (.ref b5), .val (.ref b16), .val (.ref b28), .val (.ref b40), .unset] [(.ref b40), (.ref b50), (.ref b50)])) _
        refine st52.trans ?_
        refine XS.astore X52.here hx rfl (hb hby at_193) rfl rfl (l' := #[.val (.int p0), .val (.int p1), .val (.int p2), .val (.int p3), .val (.int p4), .val (.int k0), .val (.int k1), .val (.int k2), .val (.int nn), .val (.ref b5), .val (.ref b16), .val (.ref b28), .val (.ref b40), .val (.ref b50)]) rfl ?_
        refine XS.aload X52.here hx rfl (hb hby at_195) rfl rfl ?_
        show Steps p.tables e below (T52.setTop (mkF m 197 #[.val (.int p0), .val (.int p1), .val (.int p2), .val (.int p3), .val (.int p4), .val (.int k0), .val (.int k1), .val (.int k2), .val (.int nn), .val (.ref b5), .val (.ref b16), .val (.ref b28), .val (.ref b40), .val (.ref b50)] [(.ref b50)])) _
        refine st55.trans ?_
        refine XS.iload X55.here hx rfl (hb hby at_200) rfl ?_
        show Steps p.tables e below (T55.setTop (mkF m 202 #[.val (.int p0), .val (.int p1), .val (.int p2), .val (.int p3), .val (.int p4), .val (.int k0), .val (.int k1), .val (.int k2), .val (.int nn), .val (.ref b5), .val (.ref b16), .val (.ref b28), .val (.ref b40), .val (.ref b50)] [(.int k0), (.int (own_exp k0))])) _
        refine st56 _ ?_
        refine XS.icmpNo X56.here hx rfl (hb hby at_205) rfl (teq (rfl : (own_exp k0) = (own_exp k0))).2 ?_
        refine XS.iconst X56.here hx rfl (hb hby at_208) ?_
        refine XS.goto X56.here hx rfl (pc0 := 209) (pc' := 213) rfl (hb hby at_209) (by decide) (by decide) ?_
        show Steps p.tables e below (T56.setTop (mkF m 213 #[.val (.int p0), .val (.int p1), .val (.int p2), .val (.int p3), .val (.int p4), .val (.int k0), .val (.int k1), .val (.int k2), .val (.int nn), .val (.ref b5), .val (.ref b16), .val (.ref b28), .val (.ref b40), .val (.ref b50)] [(.int (1 : Int32))])) _
        exact retN X56 hx (t := .boolean) Bd.returns (by simp) (hb hby at_213) hr
      · show Qlaw Z p0 p1 p2 p3 p4 mr cz dd kd em us se tINVALID_JSON tINVALID_PARAMETER tINVALID_REQUEST tUNAUTHORIZED tCARD_DECLINED tSANDBOX_ONLY tNOT_FOUND tMETHOD_NOT_ALLOWED tINVALID_STATE tREQUEST_IN_PROGRESS tREQUEST_TOO_LARGE tNO_PROCESSOR tIDEMPOTENCY_KEY_REUSED tWEBHOOKS_NOT_CONFIGURED tINTERNAL_ERROR h0 n0 _ T56.heap _
        rw [eh56]
        exact ⟨rfl, N56, K52⟩
    · obtain ⟨cq57, kq57, q57a, q57b, q57c⟩ := isOf hZ rfl r43_2
      obtain ⟨_, _, ⟨T57, L57, k57, n57⟩, -, X57, ⟨Lc57, hQ57, l57, y57, z57⟩, st57⟩ := X43.virtualBack hx (y := mN15) (z := mN15) hown (mvT hZ (hw _ w_78)) (mvT hZ (hw _ w_79)) (notFace_of_selects (args := #[]) (mvT hZ (hw _ w_81))) (mvT hZ (hw _ w_81)) (mvT hZ (hw _ w_80)) (by decide) (backOf (W := 0) (rmadd1 l Z a0 hw [] b40 b28 b5 ((0 : Int32) + (1 : Int32)) b_43 kb_43 T43.heap n0 O43 r43_2 gn40 r43_3 r43_4 r43_5 r43_6 gn44 r43_7 r43_8 (Ins.of_exa (((r39_1.ext E40).keep Kc42).keep Kc43) (hw _ w_108))) hZ (hw _ w_82) (hw _ w_56) (by decide) (by decide)) q57a q57c (g := (mkF m 180 #[.val (.int p0), .val (.int p1), .val (.int p2), .val (.int p3), .val (.int p4), .val (.int k0), .val (.int k1), .val (.int k2), .val (.int nn), .val (.ref b5), .val (.ref b16), .val (.ref b28), .val (.ref b40), .unset] [(.ref b28), (.ref b40)])) rfl (by rw [hml]; rfl) (Steps.refl _) (argsL := [(.ref b28)]) (rest := []) (lenOf pd__Ljava_lang_Object__Z rfl) rfl (by show 2 * 0 + _ ≤ _; exact Nat.le_of_eq rfl) (hb hby at_180) (fun _ _ => ⟨rfl, rfl, (by decide : 17 + 0 ≤ _), (by decide : 52 + 0 ≤ _)⟩)
      dsimp only [Pt.U, Pt.locs, Pt.cells, Pt.slots] at X57 l57 y57 z57 st57 hQ57
      subst l57 y57 z57
      obtain ⟨rfl, N57q, Kc57, r57_1, r57_2, r57_3, r57_4, r57_5, r57_6⟩ := hQ57
      have N57 := Fr.app N43 N57q
      have O57 : Old Z n0 T57.heap := O43.keep Kc57 (allS gn40 (allS gn44 all0))
      have K57 : Keep h0 T57.heap [] := K43.trans Kc57 (allS (Or.inr sz40) (allS (Or.inr sz44) all0))
      obtain ⟨T58, h58, X58, e58, E58, A58, D58, U58, st58⟩ := newO X57 hx hZ hown (hw _ w_109) (hw _ w_110) (hw _ w_111) rfl (g := (mkF m 184 #[.val (.int p0), .val (.int p1), .val (.int p2), .val (.int p3), .val (.int p4), .val (.int k0), .val (.int k1), .val (.int k2), .val (.int nn), .val (.ref b5), .val (.ref b16), .val (.ref b28), .val (.ref b40), .unset] [])) rfl (hb hby at_184) (by decide) (by decide)
      obtain ⟨b58, g58⟩ : ∃ z, z = T57.heap.size := ⟨_, rfl⟩
      rw [← g58] at A58 D58 U58 st58
      have Un58 : Unt h58 b58 := U58
      have sz58 : h0.size ≤ b58 := Nat.le_trans K57.1 (Nat.le_of_eq g58.symm)
      have gn58 : n0 ≤ b58 := Nat.le_trans Z0 sz58
      have O58 : Old Z n0 h58 := O57.ext E58
      have K58 : Keep h0 h58 [] := K57.ext E58
      have F58_163 : Fld Z h58 b58 "java/lang/Throwable" "cause" "Ljava/lang/Throwable;" .null := D58 (Or.inl (hw _ w_163)) (ty := (.object "java/lang/Throwable")) (by decide)
      have F58_166 : Fld Z h58 b58 "java/lang/Throwable" "stackTrace" "[Ljava/lang/StackTraceElement;" .null := D58 (Or.inl (hw _ w_166)) (ty := (.array (.object "java/lang/StackTraceElement"))) (by decide)
      have F58_169 : Fld Z h58 b58 "java/lang/Throwable" "suppressedExceptions" "Ljava/util/List;" .null := D58 (Or.inl (hw _ w_169)) (ty := (.object "java/util/List")) (by decide)
      have F58_192 : Fld Z h58 b58 "java/lang/Throwable" "detailMessage" "Ljava/lang/String;" .null := D58 (Or.inl (hw _ w_192)) (ty := (.object "java/lang/String")) (by decide)
      have F58_193 : Fld Z h58 b58 "java/lang/Throwable" "backtrace" "Ljava/lang/Object;" .null := D58 (Or.inl (hw _ w_193)) (ty := (.object "java/lang/Object")) (by decide)
      have F58_194 : Fld Z h58 b58 "java/lang/Throwable" "depth" "I" (.int (0 : Int32)) := D58 (Or.inl (hw _ w_194)) (ty := .int) (by decide)
      have F58_282 : Fld Z h58 b58 "com/example/levy/levy/api/ApiException" "errors" "Ljava/util/List;" .null := D58 (Or.inr (hw _ w_282)) (ty := (.object "java/util/List")) (by decide)
      obtain ⟨_, _, ⟨T60, L60, k60, n60⟩, -, X60, ⟨Lc60, hQ60, l60, y60, z60⟩, st60⟩ := X58.specialBack hx (y := mN45) rfl hown (mvT hZ (hw _ w_112)) (mvT hZ (hw _ w_113)) (mvT hZ (hw _ w_114)) (by decide) (backOfKL (W := 1) (rmaxInit2 l Z a0 hw [] b58 b40 b5 b28 b_43 kb_43 mr r_10 .null .null .null .null us se .null h58 n0 O58 hl A58 Un58 gn58 F58_163 F58_166 F58_169 F58_192 F58_193 F58_282 hp1 hp2 hus hse (r57_1.ext E58) (r57_2.ext E58) (r57_3.ext E58) (r57_5.ext E58) mro (r57_6.ext E58) (((((((((((((r15_1.ext E16).keep Kc20).keep Kc22).keep Kc27).ext E28).keep Kc32).keep Kc34).keep Kc39).ext E40).keep Kc42).keep Kc43).keep Kc57).ext E58) (((((r39_1.ext E40).keep Kc42).keep Kc43).keep Kc57).ext E58) (((((((((((((r15_3.ext E16).keep Kc20 nin0).keep Kc22 nin0).keep Kc27 (ninS (Nat.ne_of_lt (Nat.lt_of_lt_of_le r15_1.lt (Nat.le_of_eq g16.symm))) nin0)).ext E28).keep Kc32 nin0).keep Kc34 nin0).keep Kc39 (ninS (Nat.ne_of_lt (Nat.lt_of_lt_of_le ((((r15_1.ext E16).keep Kc20).keep Kc22).keep Kc27).lt (Nat.le_of_eq g28.symm))) nin0)).ext E40).keep Kc42 (ninS (Nat.ne_of_lt (Nat.lt_of_lt_of_le ((((((((r15_1.ext E16).keep Kc20).keep Kc22).keep Kc27).ext E28).keep Kc32).keep Kc34).keep Kc39).lt (Nat.le_of_eq g40.symm))) nin0)).keep Kc43 (ninS (Nat.ne_of_lt (Nat.lt_of_lt_of_le ((((((((r15_1.ext E16).keep Kc20).keep Kc22).keep Kc27).ext E28).keep Kc32).keep Kc34).keep Kc39).lt (Nat.le_of_eq g40.symm))) nin0)).keep Kc57 (ninS (Nat.ne_of_lt (Nat.lt_of_lt_of_le ((((((((r15_1.ext E16).keep Kc20).keep Kc22).keep Kc27).ext E28).keep Kc32).keep Kc34).keep Kc39).lt (Nat.le_of_eq g40.symm))) (ninS (Nat.ne_of_lt (Nat.lt_of_lt_of_le ((((((((((r15_1.ext E16).keep Kc20).keep Kc22).keep Kc27).ext E28).keep Kc32).keep Kc34).keep Kc39).ext E40).keep Kc42).lt r43_1)) nin0))).ext E58)) hZ (hw _ w_114) (hw _ w_111) (by decide) (by decide) hTK hBelow) (g := (mkF m 190 #[.val (.int p0), .val (.int p1), .val (.int p2), .val (.int p3), .val (.int p4), .val (.int k0), .val (.int k1), .val (.int k2), .val (.int nn), .val (.ref b5), .val (.ref b16), .val (.ref b28), .val (.ref b40), .unset] [(.ref b40), (.ref b58), (.ref b58)])) rfl (by rw [hml]; rfl) (Steps.refl _) (a := b58) (argsL := [(.ref b40)]) (rest := [(.ref b58)]) (lenOf pd__Ljava_util_List__V rfl) rfl (by show 2 * 0 + _ ≤ _; exact Nat.le_of_eq rfl) (hb hby at_190) (fun _ _ => ⟨rfl, e58, (by decide : 18 + 3 ≤ _), (by decide : 59 + 2756 ≤ _)⟩)
      dsimp only [Pt.U, Pt.locs, Pt.cells, Pt.slots] at X60 l60 y60 z60 st60 hQ60
      subst l60 y60 z60
      obtain ⟨r_60, rfl, N60q, Kc60, r60_1, r60_2, r60_3, r60_4, r60_5⟩ := hQ60
      have N60 := Fr.app N57 N60q
      have sz61 : h0.size ≤ r_60 := Nat.le_trans K58.1 r60_3
      have gn61 : n0 ≤ r_60 := Nat.le_trans Z0 sz61
      have O60 : Old Z n0 T60.heap := O58.keep Kc60 (allS gn58 all0)
      have K60 : Keep h0 T60.heap [] := K58.trans Kc60 (allS (Or.inr sz58) all0)
      obtain ⟨cq63, kq63, q63a, q63b, q63c⟩ := isOf hZ rfl r60_1
      obtain ⟨_, _, ⟨T63, L63, k63, n63⟩, -, X63, ⟨Lc63, hQ63, l63, y63, z63⟩, st63⟩ := X60.virtualBack hx (y := mN48) (z := mN48) hown (mvT hZ (hw _ w_283)) (mvT hZ (hw _ w_284)) (notFace_of_selects (args := #[]) (mvT hZ (hw _ w_286))) (mvT hZ (hw _ w_286)) (mvT hZ (hw _ w_285)) (by decide) (backOf (W := 0) (rmstatusA l Z a0 hw [] b58 r_60 b5 r_7 (own_exp k0) T60.heap n0 O60 r60_2 r60_4 r60_5 ((((((((((((((r15_1.ext E16).keep Kc20).keep Kc22).keep Kc27).ext E28).keep Kc32).keep Kc34).keep Kc39).ext E40).keep Kc42).keep Kc43).keep Kc57).ext E58).keep Kc60) ((((((((((((((r15_2.ext E16).keep Kc20 nin0).keep Kc22 nin0).keep Kc27 (ninS (Nat.ne_of_lt (Nat.lt_of_lt_of_le r15_1.lt (Nat.le_of_eq g16.symm))) nin0)).ext E28).keep Kc32 nin0).keep Kc34 nin0).keep Kc39 (ninS (Nat.ne_of_lt (Nat.lt_of_lt_of_le ((((r15_1.ext E16).keep Kc20).keep Kc22).keep Kc27).lt (Nat.le_of_eq g28.symm))) nin0)).ext E40).keep Kc42 (ninS (Nat.ne_of_lt (Nat.lt_of_lt_of_le ((((((((r15_1.ext E16).keep Kc20).keep Kc22).keep Kc27).ext E28).keep Kc32).keep Kc34).keep Kc39).lt (Nat.le_of_eq g40.symm))) nin0)).keep Kc43 (ninS (Nat.ne_of_lt (Nat.lt_of_lt_of_le ((((((((r15_1.ext E16).keep Kc20).keep Kc22).keep Kc27).ext E28).keep Kc32).keep Kc34).keep Kc39).lt (Nat.le_of_eq g40.symm))) nin0)).keep Kc57 (ninS (Nat.ne_of_lt (Nat.lt_of_lt_of_le ((((((((r15_1.ext E16).keep Kc20).keep Kc22).keep Kc27).ext E28).keep Kc32).keep Kc34).keep Kc39).lt (Nat.le_of_eq g40.symm))) (ninS (Nat.ne_of_lt (Nat.lt_of_lt_of_le ((((((((((r15_1.ext E16).keep Kc20).keep Kc22).keep Kc27).ext E28).keep Kc32).keep Kc34).keep Kc39).ext E40).keep Kc42).lt r43_1)) nin0))).ext E58).keep Kc60 (ninS (Nat.ne_of_lt (Nat.lt_of_lt_of_le ((((((((((((r15_1.ext E16).keep Kc20).keep Kc22).keep Kc27).ext E28).keep Kc32).keep Kc34).keep Kc39).ext E40).keep Kc42).keep Kc43).keep Kc57).lt (Nat.le_of_eq g58.symm))) nin0)) r7_0 r7_1) hZ (hw _ w_287) (hw _ w_111) (by decide) (by decide)) q63a q63c (g := (mkF m 197 #[.val (.int p0), .val (.int p1), .val (.int p2), .val (.int p3), .val (.int p4), .val (.int k0), .val (.int k1), .val (.int k2), .val (.int nn), .val (.ref b5), .val (.ref b16), .val (.ref b28), .val (.ref b40), .val (.ref b58)] [(.ref b58)])) rfl (by rw [hml]; rfl) (Steps.refl _) (argsL := []) (rest := []) (lenOf pd___I rfl) rfl (by show 2 * 0 + _ ≤ _; exact Nat.le_of_eq rfl) (hb hby at_197) (fun _ _ => ⟨rfl, rfl, (by decide : 21 + 0 ≤ _), (by decide : 2815 + 0 ≤ _)⟩)
      dsimp only [Pt.U, Pt.locs, Pt.cells, Pt.slots] at X63 l63 y63 z63 st63 hQ63
      subst l63 y63 z63
      obtain ⟨rfl, N63q, eh63⟩ := hQ63
      have N63 := Fr.app N60 N63q
      obtain ⟨_, _, ⟨T64, L64, k64, n64⟩, -, X64, ⟨Lc64, hQ64, l64, y64, z64⟩, st64⟩ := Jvm.LawKit.callS X63 hx (y := mN1) hown (mvT hZ (hw _ w_306)) (mvT hZ (hw _ w_307)) (mvT hZ (hw _ w_6)) (mvT hZ (hw _ w_308)) (by decide) (backOf (W := 1) (rmexpected l Z a0 hw [] k0 T60.heap n0 O60 ) hZ (hw _ w_308) (hw _ w_6) (by decide) (by decide)) (g := (mkF m 202 #[.val (.int p0), .val (.int p1), .val (.int p2), .val (.int p3), .val (.int p4), .val (.int k0), .val (.int k1), .val (.int k2), .val (.int nn), .val (.ref b5), .val (.ref b16), .val (.ref b28), .val (.ref b40), .val (.ref b58)] [(.int k0), (.int (own_exp k0))])) rfl (by rw [hml]; rfl) (argsL := [(.int k0)]) (rest := [(.int (own_exp k0))]) (lenOf pd__I_I rfl) rfl (by show 2 * 0 + _ ≤ _; exact Nat.le_of_eq rfl) (hb hby at_202) (fun _ _ => ⟨rfl, eh63, (by decide : 21 + 0 ≤ _), (by decide : 2815 + 0 ≤ _)⟩)
      dsimp only [Pt.U, Pt.locs, Pt.cells, Pt.slots] at X64 l64 y64 z64 st64 hQ64
      subst l64 y64 z64
      obtain ⟨rfl, N64q, eh64⟩ := hQ64
      have N64 := Fr.app N63 N64q
      obtain ⟨fs, hr, hrun, hended, hW, hsame⟩ := X64.leave (v := some (.int (1 : Int32))) (fun h => by rw [Bd.returns] at h; cases h)
      refine ⟨_, _, pre48 _ ?_, hrun, hended, _, _, rfl, ?_, ⟨_, rfl⟩, hW, hsame.mono (by decide) (by decide)⟩
      · refine XS.icmpNo X43.here hx rfl (hb hby at_173) rfl (flt hc49).1 ?_
        show Steps p.tables e below (T43.setTop (mkF m 176 #[.val (.int p0), .val (.int p1), .val (.int p2), .val (.int p3), .val (.int p4), .val (.int k0), .val (.int k1), .val (.int k2), .val (.int nn), .val (.ref b5), .val (.ref b16), .val (.ref b28), .val (.ref b40), .unset] [])) _
        refine XS.aload X43.here hx rfl (hb hby at_176) rfl rfl ?_
        refine XS.aload X43.here hx rfl (hb hby at_178) rfl rfl ?_
        show Steps p.tables e below (T43.setTop (mkF m 180 #[.val (.int p0), .val (.int p1), .val (.int p2), .val (.int p3), .val (.int p4), .val (.int k0), .val (.int k1), .val (.int k2), .val (.int nn), .val (.ref b5), .val (.ref b16), .val (.ref b28), .val (.ref b40), .unset] [(.ref b28), (.ref b40)])) _
        refine st57.trans ?_
        refine XS.pop X57.here hx rfl (hb hby at_183) rfl rfl ?_
        show Steps p.tables e below (T57.setTop (mkF m 184 #[.val (.int p0), .val (.int p1), .val (.int p2), .val (.int p3), .val (.int p4), .val (.int k0), .val (.int k1), .val (.int k2), .val (.int nn), .val (.ref b5), .val (.ref b16), .val (.ref b28), .val (.ref b40), .unset] [])) _
        refine st58 _ ?_
        refine XS.dup X58.here hx rfl (hb hby at_187) rfl rfl ?_
        refine XS.aload X58.here hx rfl (hb hby at_188) rfl rfl ?_
        show Steps p.tables e below (T58.setTop (mkF m 190 #[.val (.int p0), .val (.int p1), .val (.int p2), .val (.int p3), .val (.int p4), .val (.int k0), .val (.int k1), .val (.int k2), .val (.int nn), .val (.ref b5), .val (.ref b16), .val (.ref b28), .val (.ref b40), .unset] [(.ref b40), (.ref b58), (.ref b58)])) _
        refine st60.trans ?_
        refine XS.astore X60.here hx rfl (hb hby at_193) rfl rfl (l' := #[.val (.int p0), .val (.int p1), .val (.int p2), .val (.int p3), .val (.int p4), .val (.int k0), .val (.int k1), .val (.int k2), .val (.int nn), .val (.ref b5), .val (.ref b16), .val (.ref b28), .val (.ref b40), .val (.ref b58)]) rfl ?_
        refine XS.aload X60.here hx rfl (hb hby at_195) rfl rfl ?_
        show Steps p.tables e below (T60.setTop (mkF m 197 #[.val (.int p0), .val (.int p1), .val (.int p2), .val (.int p3), .val (.int p4), .val (.int k0), .val (.int k1), .val (.int k2), .val (.int nn), .val (.ref b5), .val (.ref b16), .val (.ref b28), .val (.ref b40), .val (.ref b58)] [(.ref b58)])) _
        refine st63.trans ?_
        refine XS.iload X63.here hx rfl (hb hby at_200) rfl ?_
        show Steps p.tables e below (T63.setTop (mkF m 202 #[.val (.int p0), .val (.int p1), .val (.int p2), .val (.int p3), .val (.int p4), .val (.int k0), .val (.int k1), .val (.int k2), .val (.int nn), .val (.ref b5), .val (.ref b16), .val (.ref b28), .val (.ref b40), .val (.ref b58)] [(.int k0), (.int (own_exp k0))])) _
        refine st64 _ ?_
        refine XS.icmpNo X64.here hx rfl (hb hby at_205) rfl (teq (rfl : (own_exp k0) = (own_exp k0))).2 ?_
        refine XS.iconst X64.here hx rfl (hb hby at_208) ?_
        refine XS.goto X64.here hx rfl (pc0 := 209) (pc' := 213) rfl (hb hby at_209) (by decide) (by decide) ?_
        show Steps p.tables e below (T64.setTop (mkF m 213 #[.val (.int p0), .val (.int p1), .val (.int p2), .val (.int p3), .val (.int p4), .val (.int k0), .val (.int k1), .val (.int k2), .val (.int nn), .val (.ref b5), .val (.ref b16), .val (.ref b28), .val (.ref b40), .val (.ref b58)] [(.int (1 : Int32))])) _
        exact retN X64 hx (t := .boolean) Bd.returns (by simp) (hb hby at_213) hr
      · show Qlaw Z p0 p1 p2 p3 p4 mr cz dd kd em us se tINVALID_JSON tINVALID_PARAMETER tINVALID_REQUEST tUNAUTHORIZED tCARD_DECLINED tSANDBOX_ONLY tNOT_FOUND tMETHOD_NOT_ALLOWED tINVALID_STATE tREQUEST_IN_PROGRESS tREQUEST_TOO_LARGE tNO_PROCESSOR tIDEMPOTENCY_KEY_REUSED tWEBHOOKS_NOT_CONFIGURED tINTERNAL_ERROR h0 n0 _ T64.heap _
        rw [eh64]
        exact ⟨rfl, N64, K60⟩
  · obtain ⟨cq65, kq65, q65a, q65b, q65c⟩ := isOf hZ rfl r43_2
    obtain ⟨_, _, ⟨T65, L65, k65, n65⟩, -, X65, ⟨Lc65, hQ65, l65, y65, z65⟩, st65⟩ := X43.virtualBack hx (y := mN15) (z := mN15) hown (mvT hZ (hw _ w_78)) (mvT hZ (hw _ w_79)) (notFace_of_selects (args := #[]) (mvT hZ (hw _ w_81))) (mvT hZ (hw _ w_81)) (mvT hZ (hw _ w_80)) (by decide) (backOf (W := 0) (rmadd1 l Z a0 hw [] b40 b16 b5 ((0 : Int32) + (1 : Int32)) b_43 kb_43 T43.heap n0 O43 r43_2 gn40 r43_3 r43_4 r43_5 r43_6 gn44 r43_7 r43_8 (Ins.of_exa (((((((r27_1.ext E28).keep Kc32).keep Kc34).keep Kc39).ext E40).keep Kc42).keep Kc43) (hw _ w_108))) hZ (hw _ w_82) (hw _ w_56) (by decide) (by decide)) q65a q65c (g := (mkF m 166 #[.val (.int p0), .val (.int p1), .val (.int p2), .val (.int p3), .val (.int p4), .val (.int k0), .val (.int k1), .val (.int k2), .val (.int nn), .val (.ref b5), .val (.ref b16), .val (.ref b28), .val (.ref b40), .unset] [(.ref b16), (.ref b40)])) rfl (by rw [hml]; rfl) (Steps.refl _) (argsL := [(.ref b16)]) (rest := []) (lenOf pd__Ljava_lang_Object__Z rfl) rfl (by show 2 * 0 + _ ≤ _; exact Nat.le_of_eq rfl) (hb hby at_166) (fun _ _ => ⟨rfl, rfl, (by decide : 17 + 0 ≤ _), (by decide : 52 + 0 ≤ _)⟩)
    dsimp only [Pt.U, Pt.locs, Pt.cells, Pt.slots] at X65 l65 y65 z65 st65 hQ65
    subst l65 y65 z65
    obtain ⟨rfl, N65q, Kc65, r65_1, r65_2, r65_3, r65_4, r65_5, r65_6⟩ := hQ65
    have N65 := Fr.app N43 N65q
    have O65 : Old Z n0 T65.heap := O43.keep Kc65 (allS gn40 (allS gn44 all0))
    have K65 : Keep h0 T65.heap [] := K43.trans Kc65 (allS (Or.inr sz40) (allS (Or.inr sz44) all0))
    have pre66 : ∀ tg_, Steps p.tables e below (T65.setTop (mkF m 173 #[.val (.int p0), .val (.int p1), .val (.int p2), .val (.int p3), .val (.int p4), .val (.int k0), .val (.int k1), .val (.int k2), .val (.int nn), .val (.ref b5), .val (.ref b16), .val (.ref b28), .val (.ref b40), .unset] [(.int (3 : Int32)), (.int nn)])) tg_ → Steps p.tables e below (s₁.setTop (entryFrame m #[(.int p0), (.int p1), (.int p2), (.int p3), (.int p4)] maxLocals)) tg_ := by
      intro tg_ kt_
      refine pre46 tg_ ?_
      show Steps p.tables e below (T43.setTop (mkF m 159 #[.val (.int p0), .val (.int p1), .val (.int p2), .val (.int p3), .val (.int p4), .val (.int k0), .val (.int k1), .val (.int k2), .val (.int nn), .val (.ref b5), .val (.ref b16), .val (.ref b28), .val (.ref b40), .unset] [(.int (2 : Int32)), (.int nn)])) _
      refine XS.icmpNo X43.here hx rfl (hb hby at_159) rfl (flt hc47).1 ?_
      refine XS.aload X43.here hx rfl (hb hby at_162) rfl rfl ?_
      refine XS.aload X43.here hx rfl (hb hby at_164) rfl rfl ?_
      show Steps p.tables e below (T43.setTop (mkF m 166 #[.val (.int p0), .val (.int p1), .val (.int p2), .val (.int p3), .val (.int p4), .val (.int k0), .val (.int k1), .val (.int k2), .val (.int nn), .val (.ref b5), .val (.ref b16), .val (.ref b28), .val (.ref b40), .unset] [(.ref b16), (.ref b40)])) _
      refine st65.trans ?_
      refine XS.pop X65.here hx rfl (hb hby at_169) rfl rfl ?_
      refine XS.iload X65.here hx rfl (hb hby at_170) rfl ?_
      refine XS.iconst X65.here hx rfl (hb hby at_172) ?_
      exact kt_
    by_cases hc67 : nn < (3 : Int32)
    · obtain ⟨T68, h68, X68, e68, E68, A68, D68, U68, st68⟩ := newO X65 hx hZ hown (hw _ w_109) (hw _ w_110) (hw _ w_111) rfl (g := (mkF m 184 #[.val (.int p0), .val (.int p1), .val (.int p2), .val (.int p3), .val (.int p4), .val (.int k0), .val (.int k1), .val (.int k2), .val (.int nn), .val (.ref b5), .val (.ref b16), .val (.ref b28), .val (.ref b40), .unset] [])) rfl (hb hby at_184) (by decide) (by decide)
      obtain ⟨b68, g68⟩ : ∃ z, z = T65.heap.size := ⟨_, rfl⟩
      rw [← g68] at A68 D68 U68 st68
      have Un68 : Unt h68 b68 := U68
      have sz68 : h0.size ≤ b68 := Nat.le_trans K65.1 (Nat.le_of_eq g68.symm)
      have gn68 : n0 ≤ b68 := Nat.le_trans Z0 sz68
      have O68 : Old Z n0 h68 := O65.ext E68
      have K68 : Keep h0 h68 [] := K65.ext E68
      have F68_163 : Fld Z h68 b68 "java/lang/Throwable" "cause" "Ljava/lang/Throwable;" .null := D68 (Or.inl (hw _ w_163)) (ty := (.object "java/lang/Throwable")) (by decide)
      have F68_166 : Fld Z h68 b68 "java/lang/Throwable" "stackTrace" "[Ljava/lang/StackTraceElement;" .null := D68 (Or.inl (hw _ w_166)) (ty := (.array (.object "java/lang/StackTraceElement"))) (by decide)
      have F68_169 : Fld Z h68 b68 "java/lang/Throwable" "suppressedExceptions" "Ljava/util/List;" .null := D68 (Or.inl (hw _ w_169)) (ty := (.object "java/util/List")) (by decide)
      have F68_192 : Fld Z h68 b68 "java/lang/Throwable" "detailMessage" "Ljava/lang/String;" .null := D68 (Or.inl (hw _ w_192)) (ty := (.object "java/lang/String")) (by decide)
      have F68_193 : Fld Z h68 b68 "java/lang/Throwable" "backtrace" "Ljava/lang/Object;" .null := D68 (Or.inl (hw _ w_193)) (ty := (.object "java/lang/Object")) (by decide)
      have F68_194 : Fld Z h68 b68 "java/lang/Throwable" "depth" "I" (.int (0 : Int32)) := D68 (Or.inl (hw _ w_194)) (ty := .int) (by decide)
      have F68_282 : Fld Z h68 b68 "com/example/levy/levy/api/ApiException" "errors" "Ljava/util/List;" .null := D68 (Or.inr (hw _ w_282)) (ty := (.object "java/util/List")) (by decide)
      obtain ⟨_, _, ⟨T70, L70, k70, n70⟩, -, X70, ⟨Lc70, hQ70, l70, y70, z70⟩, st70⟩ := X68.specialBack hx (y := mN45) rfl hown (mvT hZ (hw _ w_112)) (mvT hZ (hw _ w_113)) (mvT hZ (hw _ w_114)) (by decide) (backOfKL (W := 1) (rmaxInit2 l Z a0 hw [] b68 b40 b5 b16 b_43 kb_43 mr r_10 .null .null .null .null us se .null h68 n0 O68 hl A68 Un68 gn68 F68_163 F68_166 F68_169 F68_192 F68_193 F68_282 hp1 hp2 hus hse (r65_1.ext E68) (r65_2.ext E68) (r65_3.ext E68) (r65_5.ext E68) mro (r65_6.ext E68) (((((((((((((r15_1.ext E16).keep Kc20).keep Kc22).keep Kc27).ext E28).keep Kc32).keep Kc34).keep Kc39).ext E40).keep Kc42).keep Kc43).keep Kc65).ext E68) (((((((((r27_1.ext E28).keep Kc32).keep Kc34).keep Kc39).ext E40).keep Kc42).keep Kc43).keep Kc65).ext E68) (((((((((((((r15_3.ext E16).keep Kc20 nin0).keep Kc22 nin0).keep Kc27 (ninS (Nat.ne_of_lt (Nat.lt_of_lt_of_le r15_1.lt (Nat.le_of_eq g16.symm))) nin0)).ext E28).keep Kc32 nin0).keep Kc34 nin0).keep Kc39 (ninS (Nat.ne_of_lt (Nat.lt_of_lt_of_le ((((r15_1.ext E16).keep Kc20).keep Kc22).keep Kc27).lt (Nat.le_of_eq g28.symm))) nin0)).ext E40).keep Kc42 (ninS (Nat.ne_of_lt (Nat.lt_of_lt_of_le ((((((((r15_1.ext E16).keep Kc20).keep Kc22).keep Kc27).ext E28).keep Kc32).keep Kc34).keep Kc39).lt (Nat.le_of_eq g40.symm))) nin0)).keep Kc43 (ninS (Nat.ne_of_lt (Nat.lt_of_lt_of_le ((((((((r15_1.ext E16).keep Kc20).keep Kc22).keep Kc27).ext E28).keep Kc32).keep Kc34).keep Kc39).lt (Nat.le_of_eq g40.symm))) nin0)).keep Kc65 (ninS (Nat.ne_of_lt (Nat.lt_of_lt_of_le ((((((((r15_1.ext E16).keep Kc20).keep Kc22).keep Kc27).ext E28).keep Kc32).keep Kc34).keep Kc39).lt (Nat.le_of_eq g40.symm))) (ninS (Nat.ne_of_lt (Nat.lt_of_lt_of_le ((((((((((r15_1.ext E16).keep Kc20).keep Kc22).keep Kc27).ext E28).keep Kc32).keep Kc34).keep Kc39).ext E40).keep Kc42).lt r43_1)) nin0))).ext E68)) hZ (hw _ w_114) (hw _ w_111) (by decide) (by decide) hTK hBelow) (g := (mkF m 190 #[.val (.int p0), .val (.int p1), .val (.int p2), .val (.int p3), .val (.int p4), .val (.int k0), .val (.int k1), .val (.int k2), .val (.int nn), .val (.ref b5), .val (.ref b16), .val (.ref b28), .val (.ref b40), .unset] [(.ref b40), (.ref b68), (.ref b68)])) rfl (by rw [hml]; rfl) (Steps.refl _) (a := b68) (argsL := [(.ref b40)]) (rest := [(.ref b68)]) (lenOf pd__Ljava_util_List__V rfl) rfl (by show 2 * 0 + _ ≤ _; exact Nat.le_of_eq rfl) (hb hby at_190) (fun _ _ => ⟨rfl, e68, (by decide : 18 + 3 ≤ _), (by decide : 59 + 2756 ≤ _)⟩)
      dsimp only [Pt.U, Pt.locs, Pt.cells, Pt.slots] at X70 l70 y70 z70 st70 hQ70
      subst l70 y70 z70
      obtain ⟨r_70, rfl, N70q, Kc70, r70_1, r70_2, r70_3, r70_4, r70_5⟩ := hQ70
      have N70 := Fr.app N65 N70q
      have sz71 : h0.size ≤ r_70 := Nat.le_trans K68.1 r70_3
      have gn71 : n0 ≤ r_70 := Nat.le_trans Z0 sz71
      have O70 : Old Z n0 T70.heap := O68.keep Kc70 (allS gn68 all0)
      have K70 : Keep h0 T70.heap [] := K68.trans Kc70 (allS (Or.inr sz68) all0)
      obtain ⟨cq73, kq73, q73a, q73b, q73c⟩ := isOf hZ rfl r70_1
      obtain ⟨_, _, ⟨T73, L73, k73, n73⟩, -, X73, ⟨Lc73, hQ73, l73, y73, z73⟩, st73⟩ := X70.virtualBack hx (y := mN48) (z := mN48) hown (mvT hZ (hw _ w_283)) (mvT hZ (hw _ w_284)) (notFace_of_selects (args := #[]) (mvT hZ (hw _ w_286))) (mvT hZ (hw _ w_286)) (mvT hZ (hw _ w_285)) (by decide) (backOf (W := 0) (rmstatusA l Z a0 hw [] b68 r_70 b5 r_7 (own_exp k0) T70.heap n0 O70 r70_2 r70_4 r70_5 ((((((((((((((r15_1.ext E16).keep Kc20).keep Kc22).keep Kc27).ext E28).keep Kc32).keep Kc34).keep Kc39).ext E40).keep Kc42).keep Kc43).keep Kc65).ext E68).keep Kc70) ((((((((((((((r15_2.ext E16).keep Kc20 nin0).keep Kc22 nin0).keep Kc27 (ninS (Nat.ne_of_lt (Nat.lt_of_lt_of_le r15_1.lt (Nat.le_of_eq g16.symm))) nin0)).ext E28).keep Kc32 nin0).keep Kc34 nin0).keep Kc39 (ninS (Nat.ne_of_lt (Nat.lt_of_lt_of_le ((((r15_1.ext E16).keep Kc20).keep Kc22).keep Kc27).lt (Nat.le_of_eq g28.symm))) nin0)).ext E40).keep Kc42 (ninS (Nat.ne_of_lt (Nat.lt_of_lt_of_le ((((((((r15_1.ext E16).keep Kc20).keep Kc22).keep Kc27).ext E28).keep Kc32).keep Kc34).keep Kc39).lt (Nat.le_of_eq g40.symm))) nin0)).keep Kc43 (ninS (Nat.ne_of_lt (Nat.lt_of_lt_of_le ((((((((r15_1.ext E16).keep Kc20).keep Kc22).keep Kc27).ext E28).keep Kc32).keep Kc34).keep Kc39).lt (Nat.le_of_eq g40.symm))) nin0)).keep Kc65 (ninS (Nat.ne_of_lt (Nat.lt_of_lt_of_le ((((((((r15_1.ext E16).keep Kc20).keep Kc22).keep Kc27).ext E28).keep Kc32).keep Kc34).keep Kc39).lt (Nat.le_of_eq g40.symm))) (ninS (Nat.ne_of_lt (Nat.lt_of_lt_of_le ((((((((((r15_1.ext E16).keep Kc20).keep Kc22).keep Kc27).ext E28).keep Kc32).keep Kc34).keep Kc39).ext E40).keep Kc42).lt r43_1)) nin0))).ext E68).keep Kc70 (ninS (Nat.ne_of_lt (Nat.lt_of_lt_of_le ((((((((((((r15_1.ext E16).keep Kc20).keep Kc22).keep Kc27).ext E28).keep Kc32).keep Kc34).keep Kc39).ext E40).keep Kc42).keep Kc43).keep Kc65).lt (Nat.le_of_eq g68.symm))) nin0)) r7_0 r7_1) hZ (hw _ w_287) (hw _ w_111) (by decide) (by decide)) q73a q73c (g := (mkF m 197 #[.val (.int p0), .val (.int p1), .val (.int p2), .val (.int p3), .val (.int p4), .val (.int k0), .val (.int k1), .val (.int k2), .val (.int nn), .val (.ref b5), .val (.ref b16), .val (.ref b28), .val (.ref b40), .val (.ref b68)] [(.ref b68)])) rfl (by rw [hml]; rfl) (Steps.refl _) (argsL := []) (rest := []) (lenOf pd___I rfl) rfl (by show 2 * 0 + _ ≤ _; exact Nat.le_of_eq rfl) (hb hby at_197) (fun _ _ => ⟨rfl, rfl, (by decide : 21 + 0 ≤ _), (by decide : 2815 + 0 ≤ _)⟩)
      dsimp only [Pt.U, Pt.locs, Pt.cells, Pt.slots] at X73 l73 y73 z73 st73 hQ73
      subst l73 y73 z73
      obtain ⟨rfl, N73q, eh73⟩ := hQ73
      have N73 := Fr.app N70 N73q
      obtain ⟨_, _, ⟨T74, L74, k74, n74⟩, -, X74, ⟨Lc74, hQ74, l74, y74, z74⟩, st74⟩ := Jvm.LawKit.callS X73 hx (y := mN1) hown (mvT hZ (hw _ w_306)) (mvT hZ (hw _ w_307)) (mvT hZ (hw _ w_6)) (mvT hZ (hw _ w_308)) (by decide) (backOf (W := 1) (rmexpected l Z a0 hw [] k0 T70.heap n0 O70 ) hZ (hw _ w_308) (hw _ w_6) (by decide) (by decide)) (g := (mkF m 202 #[.val (.int p0), .val (.int p1), .val (.int p2), .val (.int p3), .val (.int p4), .val (.int k0), .val (.int k1), .val (.int k2), .val (.int nn), .val (.ref b5), .val (.ref b16), .val (.ref b28), .val (.ref b40), .val (.ref b68)] [(.int k0), (.int (own_exp k0))])) rfl (by rw [hml]; rfl) (argsL := [(.int k0)]) (rest := [(.int (own_exp k0))]) (lenOf pd__I_I rfl) rfl (by show 2 * 0 + _ ≤ _; exact Nat.le_of_eq rfl) (hb hby at_202) (fun _ _ => ⟨rfl, eh73, (by decide : 21 + 0 ≤ _), (by decide : 2815 + 0 ≤ _)⟩)
      dsimp only [Pt.U, Pt.locs, Pt.cells, Pt.slots] at X74 l74 y74 z74 st74 hQ74
      subst l74 y74 z74
      obtain ⟨rfl, N74q, eh74⟩ := hQ74
      have N74 := Fr.app N73 N74q
      obtain ⟨fs, hr, hrun, hended, hW, hsame⟩ := X74.leave (v := some (.int (1 : Int32))) (fun h => by rw [Bd.returns] at h; cases h)
      refine ⟨_, _, pre66 _ ?_, hrun, hended, _, _, rfl, ?_, ⟨_, rfl⟩, hW, hsame.mono (by decide) (by decide)⟩
      · show Steps p.tables e below (T65.setTop (mkF m 173 #[.val (.int p0), .val (.int p1), .val (.int p2), .val (.int p3), .val (.int p4), .val (.int k0), .val (.int k1), .val (.int k2), .val (.int nn), .val (.ref b5), .val (.ref b16), .val (.ref b28), .val (.ref b40), .unset] [(.int (3 : Int32)), (.int nn)])) _
        refine XS.icmpYes X65.here hx rfl (pc0 := 173) (pc' := 184) rfl (hb hby at_173) rfl (tlt hc67).1 (by decide) (by decide) ?_
        show Steps p.tables e below (T65.setTop (mkF m 184 #[.val (.int p0), .val (.int p1), .val (.int p2), .val (.int p3), .val (.int p4), .val (.int k0), .val (.int k1), .val (.int k2), .val (.int nn), .val (.ref b5), .val (.ref b16), .val (.ref b28), .val (.ref b40), .unset] [])) _
        refine st68 _ ?_
        refine XS.dup X68.here hx rfl (hb hby at_187) rfl rfl ?_
        refine XS.aload X68.here hx rfl (hb hby at_188) rfl rfl ?_
        show Steps p.tables e below (T68.setTop (mkF m 190 #[.val (.int p0), .val (.int p1), .val (.int p2), .val (.int p3), .val (.int p4), .val (.int k0), .val (.int k1), .val (.int k2), .val (.int nn), .val (.ref b5), .val (.ref b16), .val (.ref b28), .val (.ref b40), .unset] [(.ref b40), (.ref b68), (.ref b68)])) _
        refine st70.trans ?_
        refine XS.astore X70.here hx rfl (hb hby at_193) rfl rfl (l' := #[.val (.int p0), .val (.int p1), .val (.int p2), .val (.int p3), .val (.int p4), .val (.int k0), .val (.int k1), .val (.int k2), .val (.int nn), .val (.ref b5), .val (.ref b16), .val (.ref b28), .val (.ref b40), .val (.ref b68)]) rfl ?_
        refine XS.aload X70.here hx rfl (hb hby at_195) rfl rfl ?_
        show Steps p.tables e below (T70.setTop (mkF m 197 #[.val (.int p0), .val (.int p1), .val (.int p2), .val (.int p3), .val (.int p4), .val (.int k0), .val (.int k1), .val (.int k2), .val (.int nn), .val (.ref b5), .val (.ref b16), .val (.ref b28), .val (.ref b40), .val (.ref b68)] [(.ref b68)])) _
        refine st73.trans ?_
        refine XS.iload X73.here hx rfl (hb hby at_200) rfl ?_
        show Steps p.tables e below (T73.setTop (mkF m 202 #[.val (.int p0), .val (.int p1), .val (.int p2), .val (.int p3), .val (.int p4), .val (.int k0), .val (.int k1), .val (.int k2), .val (.int nn), .val (.ref b5), .val (.ref b16), .val (.ref b28), .val (.ref b40), .val (.ref b68)] [(.int k0), (.int (own_exp k0))])) _
        refine st74 _ ?_
        refine XS.icmpNo X74.here hx rfl (hb hby at_205) rfl (teq (rfl : (own_exp k0) = (own_exp k0))).2 ?_
        refine XS.iconst X74.here hx rfl (hb hby at_208) ?_
        refine XS.goto X74.here hx rfl (pc0 := 209) (pc' := 213) rfl (hb hby at_209) (by decide) (by decide) ?_
        show Steps p.tables e below (T74.setTop (mkF m 213 #[.val (.int p0), .val (.int p1), .val (.int p2), .val (.int p3), .val (.int p4), .val (.int k0), .val (.int k1), .val (.int k2), .val (.int nn), .val (.ref b5), .val (.ref b16), .val (.ref b28), .val (.ref b40), .val (.ref b68)] [(.int (1 : Int32))])) _
        exact retN X74 hx (t := .boolean) Bd.returns (by simp) (hb hby at_213) hr
      · show Qlaw Z p0 p1 p2 p3 p4 mr cz dd kd em us se tINVALID_JSON tINVALID_PARAMETER tINVALID_REQUEST tUNAUTHORIZED tCARD_DECLINED tSANDBOX_ONLY tNOT_FOUND tMETHOD_NOT_ALLOWED tINVALID_STATE tREQUEST_IN_PROGRESS tREQUEST_TOO_LARGE tNO_PROCESSOR tIDEMPOTENCY_KEY_REUSED tWEBHOOKS_NOT_CONFIGURED tINTERNAL_ERROR h0 n0 _ T74.heap _
        rw [eh74]
        exact ⟨rfl, N74, K70⟩
    · obtain ⟨cq75, kq75, q75a, q75b, q75c⟩ := isOf hZ rfl r65_1
      obtain ⟨_, _, ⟨T75, L75, k75, n75⟩, -, X75, ⟨Lc75, hQ75, l75, y75, z75⟩, st75⟩ := X65.virtualBack hx (y := mN15) (z := mN15) hown (mvT hZ (hw _ w_78)) (mvT hZ (hw _ w_79)) (notFace_of_selects (args := #[]) (mvT hZ (hw _ w_81))) (mvT hZ (hw _ w_81)) (mvT hZ (hw _ w_80)) (by decide) (backOf (W := 0) (rmadd2 l Z a0 hw [] b40 b28 b5 b16 (((0 : Int32) + (1 : Int32)) + (1 : Int32)) b_43 kb_43 T65.heap n0 O65 r65_1 gn40 r65_2 r65_3 r65_4 r65_5 gn44 r43_7 r65_6 (Ins.of_exa ((((r39_1.ext E40).keep Kc42).keep Kc43).keep Kc65) (hw _ w_108))) hZ (hw _ w_82) (hw _ w_56) (by decide) (by decide)) q75a q75c (g := (mkF m 180 #[.val (.int p0), .val (.int p1), .val (.int p2), .val (.int p3), .val (.int p4), .val (.int k0), .val (.int k1), .val (.int k2), .val (.int nn), .val (.ref b5), .val (.ref b16), .val (.ref b28), .val (.ref b40), .unset] [(.ref b28), (.ref b40)])) rfl (by rw [hml]; rfl) (Steps.refl _) (argsL := [(.ref b28)]) (rest := []) (lenOf pd__Ljava_lang_Object__Z rfl) rfl (by show 2 * 0 + _ ≤ _; exact Nat.le_of_eq rfl) (hb hby at_180) (fun _ _ => ⟨rfl, rfl, (by decide : 17 + 0 ≤ _), (by decide : 52 + 0 ≤ _)⟩)
      dsimp only [Pt.U, Pt.locs, Pt.cells, Pt.slots] at X75 l75 y75 z75 st75 hQ75
      subst l75 y75 z75
      obtain ⟨rfl, N75q, Kc75, r75_1, r75_2, r75_3, r75_4, r75_5, r75_6⟩ := hQ75
      have N75 := Fr.app N65 N75q
      have O75 : Old Z n0 T75.heap := O65.keep Kc75 (allS gn40 (allS gn44 all0))
      have K75 : Keep h0 T75.heap [] := K65.trans Kc75 (allS (Or.inr sz40) (allS (Or.inr sz44) all0))
      obtain ⟨T76, h76, X76, e76, E76, A76, D76, U76, st76⟩ := newO X75 hx hZ hown (hw _ w_109) (hw _ w_110) (hw _ w_111) rfl (g := (mkF m 184 #[.val (.int p0), .val (.int p1), .val (.int p2), .val (.int p3), .val (.int p4), .val (.int k0), .val (.int k1), .val (.int k2), .val (.int nn), .val (.ref b5), .val (.ref b16), .val (.ref b28), .val (.ref b40), .unset] [])) rfl (hb hby at_184) (by decide) (by decide)
      obtain ⟨b76, g76⟩ : ∃ z, z = T75.heap.size := ⟨_, rfl⟩
      rw [← g76] at A76 D76 U76 st76
      have Un76 : Unt h76 b76 := U76
      have sz76 : h0.size ≤ b76 := Nat.le_trans K75.1 (Nat.le_of_eq g76.symm)
      have gn76 : n0 ≤ b76 := Nat.le_trans Z0 sz76
      have O76 : Old Z n0 h76 := O75.ext E76
      have K76 : Keep h0 h76 [] := K75.ext E76
      have F76_163 : Fld Z h76 b76 "java/lang/Throwable" "cause" "Ljava/lang/Throwable;" .null := D76 (Or.inl (hw _ w_163)) (ty := (.object "java/lang/Throwable")) (by decide)
      have F76_166 : Fld Z h76 b76 "java/lang/Throwable" "stackTrace" "[Ljava/lang/StackTraceElement;" .null := D76 (Or.inl (hw _ w_166)) (ty := (.array (.object "java/lang/StackTraceElement"))) (by decide)
      have F76_169 : Fld Z h76 b76 "java/lang/Throwable" "suppressedExceptions" "Ljava/util/List;" .null := D76 (Or.inl (hw _ w_169)) (ty := (.object "java/util/List")) (by decide)
      have F76_192 : Fld Z h76 b76 "java/lang/Throwable" "detailMessage" "Ljava/lang/String;" .null := D76 (Or.inl (hw _ w_192)) (ty := (.object "java/lang/String")) (by decide)
      have F76_193 : Fld Z h76 b76 "java/lang/Throwable" "backtrace" "Ljava/lang/Object;" .null := D76 (Or.inl (hw _ w_193)) (ty := (.object "java/lang/Object")) (by decide)
      have F76_194 : Fld Z h76 b76 "java/lang/Throwable" "depth" "I" (.int (0 : Int32)) := D76 (Or.inl (hw _ w_194)) (ty := .int) (by decide)
      have F76_282 : Fld Z h76 b76 "com/example/levy/levy/api/ApiException" "errors" "Ljava/util/List;" .null := D76 (Or.inr (hw _ w_282)) (ty := (.object "java/util/List")) (by decide)
      obtain ⟨_, _, ⟨T78, L78, k78, n78⟩, -, X78, ⟨Lc78, hQ78, l78, y78, z78⟩, st78⟩ := X76.specialBack hx (y := mN45) rfl hown (mvT hZ (hw _ w_112)) (mvT hZ (hw _ w_113)) (mvT hZ (hw _ w_114)) (by decide) (backOfKL (W := 1) (rmaxInit3 l Z a0 hw [] b76 b40 b5 b16 b28 b_43 kb_43 mr r_10 .null .null .null .null us se .null h76 n0 O76 hl A76 Un76 gn76 F76_163 F76_166 F76_169 F76_192 F76_193 F76_282 hp1 hp2 hus hse (r75_1.ext E76) (r75_2.ext E76) (r75_3.ext E76) (r75_5.ext E76) mro (r75_6.ext E76) ((((((((((((((r15_1.ext E16).keep Kc20).keep Kc22).keep Kc27).ext E28).keep Kc32).keep Kc34).keep Kc39).ext E40).keep Kc42).keep Kc43).keep Kc65).keep Kc75).ext E76) ((((((((((r27_1.ext E28).keep Kc32).keep Kc34).keep Kc39).ext E40).keep Kc42).keep Kc43).keep Kc65).keep Kc75).ext E76) ((((((r39_1.ext E40).keep Kc42).keep Kc43).keep Kc65).keep Kc75).ext E76) ((((((((((((((r15_3.ext E16).keep Kc20 nin0).keep Kc22 nin0).keep Kc27 (ninS (Nat.ne_of_lt (Nat.lt_of_lt_of_le r15_1.lt (Nat.le_of_eq g16.symm))) nin0)).ext E28).keep Kc32 nin0).keep Kc34 nin0).keep Kc39 (ninS (Nat.ne_of_lt (Nat.lt_of_lt_of_le ((((r15_1.ext E16).keep Kc20).keep Kc22).keep Kc27).lt (Nat.le_of_eq g28.symm))) nin0)).ext E40).keep Kc42 (ninS (Nat.ne_of_lt (Nat.lt_of_lt_of_le ((((((((r15_1.ext E16).keep Kc20).keep Kc22).keep Kc27).ext E28).keep Kc32).keep Kc34).keep Kc39).lt (Nat.le_of_eq g40.symm))) nin0)).keep Kc43 (ninS (Nat.ne_of_lt (Nat.lt_of_lt_of_le ((((((((r15_1.ext E16).keep Kc20).keep Kc22).keep Kc27).ext E28).keep Kc32).keep Kc34).keep Kc39).lt (Nat.le_of_eq g40.symm))) nin0)).keep Kc65 (ninS (Nat.ne_of_lt (Nat.lt_of_lt_of_le ((((((((r15_1.ext E16).keep Kc20).keep Kc22).keep Kc27).ext E28).keep Kc32).keep Kc34).keep Kc39).lt (Nat.le_of_eq g40.symm))) (ninS (Nat.ne_of_lt (Nat.lt_of_lt_of_le ((((((((((r15_1.ext E16).keep Kc20).keep Kc22).keep Kc27).ext E28).keep Kc32).keep Kc34).keep Kc39).ext E40).keep Kc42).lt r43_1)) nin0))).keep Kc75 (ninS (Nat.ne_of_lt (Nat.lt_of_lt_of_le ((((((((r15_1.ext E16).keep Kc20).keep Kc22).keep Kc27).ext E28).keep Kc32).keep Kc34).keep Kc39).lt (Nat.le_of_eq g40.symm))) (ninS (Nat.ne_of_lt (Nat.lt_of_lt_of_le ((((((((((r15_1.ext E16).keep Kc20).keep Kc22).keep Kc27).ext E28).keep Kc32).keep Kc34).keep Kc39).ext E40).keep Kc42).lt r43_1)) nin0))).ext E76)) hZ (hw _ w_114) (hw _ w_111) (by decide) (by decide) hTK hBelow) (g := (mkF m 190 #[.val (.int p0), .val (.int p1), .val (.int p2), .val (.int p3), .val (.int p4), .val (.int k0), .val (.int k1), .val (.int k2), .val (.int nn), .val (.ref b5), .val (.ref b16), .val (.ref b28), .val (.ref b40), .unset] [(.ref b40), (.ref b76), (.ref b76)])) rfl (by rw [hml]; rfl) (Steps.refl _) (a := b76) (argsL := [(.ref b40)]) (rest := [(.ref b76)]) (lenOf pd__Ljava_util_List__V rfl) rfl (by show 2 * 0 + _ ≤ _; exact Nat.le_of_eq rfl) (hb hby at_190) (fun _ _ => ⟨rfl, e76, (by decide : 18 + 4 ≤ _), (by decide : 59 + 2760 ≤ _)⟩)
      dsimp only [Pt.U, Pt.locs, Pt.cells, Pt.slots] at X78 l78 y78 z78 st78 hQ78
      subst l78 y78 z78
      obtain ⟨r_78, q_78, kq_78, rfl, N78q, Kc78, r78_1, r78_2, r78_3, r78_4, r78_5, r78_6⟩ := hQ78
      have N78 := Fr.app N75 N78q
      have sz79 : h0.size ≤ r_78 := Nat.le_trans K76.1 r78_3
      have gn79 : n0 ≤ r_78 := Nat.le_trans Z0 sz79
      have O78 : Old Z n0 T78.heap := O76.keep Kc78 (allS gn76 all0)
      have K78 : Keep h0 T78.heap [] := K76.trans Kc78 (allS (Or.inr sz76) all0)
      obtain ⟨cq81, kq81, q81a, q81b, q81c⟩ := isOf hZ rfl r78_1
      obtain ⟨_, _, ⟨T81, L81, k81, n81⟩, -, X81, ⟨Lc81, hQ81, l81, y81, z81⟩, st81⟩ := X78.virtualBack hx (y := mN48) (z := mN48) hown (mvT hZ (hw _ w_283)) (mvT hZ (hw _ w_284)) (notFace_of_selects (args := #[]) (mvT hZ (hw _ w_286))) (mvT hZ (hw _ w_286)) (mvT hZ (hw _ w_285)) (by decide) (backOf (W := 0) (rmstatusB l Z a0 hw [] b76 r_78 b5 b16 b28 q_78 kq_78 r_7 (own_exp k0) T78.heap n0 O78 r78_2 r78_4 r78_5 r78_6 (((((((((((((((r15_1.ext E16).keep Kc20).keep Kc22).keep Kc27).ext E28).keep Kc32).keep Kc34).keep Kc39).ext E40).keep Kc42).keep Kc43).keep Kc65).keep Kc75).ext E76).keep Kc78) (((((((((((((((r15_2.ext E16).keep Kc20 nin0).keep Kc22 nin0).keep Kc27 (ninS (Nat.ne_of_lt (Nat.lt_of_lt_of_le r15_1.lt (Nat.le_of_eq g16.symm))) nin0)).ext E28).keep Kc32 nin0).keep Kc34 nin0).keep Kc39 (ninS (Nat.ne_of_lt (Nat.lt_of_lt_of_le ((((r15_1.ext E16).keep Kc20).keep Kc22).keep Kc27).lt (Nat.le_of_eq g28.symm))) nin0)).ext E40).keep Kc42 (ninS (Nat.ne_of_lt (Nat.lt_of_lt_of_le ((((((((r15_1.ext E16).keep Kc20).keep Kc22).keep Kc27).ext E28).keep Kc32).keep Kc34).keep Kc39).lt (Nat.le_of_eq g40.symm))) nin0)).keep Kc43 (ninS (Nat.ne_of_lt (Nat.lt_of_lt_of_le ((((((((r15_1.ext E16).keep Kc20).keep Kc22).keep Kc27).ext E28).keep Kc32).keep Kc34).keep Kc39).lt (Nat.le_of_eq g40.symm))) nin0)).keep Kc65 (ninS (Nat.ne_of_lt (Nat.lt_of_lt_of_le ((((((((r15_1.ext E16).keep Kc20).keep Kc22).keep Kc27).ext E28).keep Kc32).keep Kc34).keep Kc39).lt (Nat.le_of_eq g40.symm))) (ninS (Nat.ne_of_lt (Nat.lt_of_lt_of_le ((((((((((r15_1.ext E16).keep Kc20).keep Kc22).keep Kc27).ext E28).keep Kc32).keep Kc34).keep Kc39).ext E40).keep Kc42).lt r43_1)) nin0))).keep Kc75 (ninS (Nat.ne_of_lt (Nat.lt_of_lt_of_le ((((((((r15_1.ext E16).keep Kc20).keep Kc22).keep Kc27).ext E28).keep Kc32).keep Kc34).keep Kc39).lt (Nat.le_of_eq g40.symm))) (ninS (Nat.ne_of_lt (Nat.lt_of_lt_of_le ((((((((((r15_1.ext E16).keep Kc20).keep Kc22).keep Kc27).ext E28).keep Kc32).keep Kc34).keep Kc39).ext E40).keep Kc42).lt r43_1)) nin0))).ext E76).keep Kc78 (ninS (Nat.ne_of_lt (Nat.lt_of_lt_of_le (((((((((((((r15_1.ext E16).keep Kc20).keep Kc22).keep Kc27).ext E28).keep Kc32).keep Kc34).keep Kc39).ext E40).keep Kc42).keep Kc43).keep Kc65).keep Kc75).lt (Nat.le_of_eq g76.symm))) nin0)) r7_0 r7_1) hZ (hw _ w_287) (hw _ w_111) (by decide) (by decide)) q81a q81c (g := (mkF m 197 #[.val (.int p0), .val (.int p1), .val (.int p2), .val (.int p3), .val (.int p4), .val (.int k0), .val (.int k1), .val (.int k2), .val (.int nn), .val (.ref b5), .val (.ref b16), .val (.ref b28), .val (.ref b40), .val (.ref b76)] [(.ref b76)])) rfl (by rw [hml]; rfl) (Steps.refl _) (argsL := []) (rest := []) (lenOf pd___I rfl) rfl (by show 2 * 0 + _ ≤ _; exact Nat.le_of_eq rfl) (hb hby at_197) (fun _ _ => ⟨rfl, rfl, (by decide : 22 + 0 ≤ _), (by decide : 2819 + 0 ≤ _)⟩)
      dsimp only [Pt.U, Pt.locs, Pt.cells, Pt.slots] at X81 l81 y81 z81 st81 hQ81
      subst l81 y81 z81
      obtain ⟨rfl, N81q, eh81⟩ := hQ81
      have N81 := Fr.app N78 N81q
      obtain ⟨_, _, ⟨T82, L82, k82, n82⟩, -, X82, ⟨Lc82, hQ82, l82, y82, z82⟩, st82⟩ := Jvm.LawKit.callS X81 hx (y := mN1) hown (mvT hZ (hw _ w_306)) (mvT hZ (hw _ w_307)) (mvT hZ (hw _ w_6)) (mvT hZ (hw _ w_308)) (by decide) (backOf (W := 1) (rmexpected l Z a0 hw [] k0 T78.heap n0 O78 ) hZ (hw _ w_308) (hw _ w_6) (by decide) (by decide)) (g := (mkF m 202 #[.val (.int p0), .val (.int p1), .val (.int p2), .val (.int p3), .val (.int p4), .val (.int k0), .val (.int k1), .val (.int k2), .val (.int nn), .val (.ref b5), .val (.ref b16), .val (.ref b28), .val (.ref b40), .val (.ref b76)] [(.int k0), (.int (own_exp k0))])) rfl (by rw [hml]; rfl) (argsL := [(.int k0)]) (rest := [(.int (own_exp k0))]) (lenOf pd__I_I rfl) rfl (by show 2 * 0 + _ ≤ _; exact Nat.le_of_eq rfl) (hb hby at_202) (fun _ _ => ⟨rfl, eh81, (by decide : 22 + 0 ≤ _), (by decide : 2819 + 0 ≤ _)⟩)
      dsimp only [Pt.U, Pt.locs, Pt.cells, Pt.slots] at X82 l82 y82 z82 st82 hQ82
      subst l82 y82 z82
      obtain ⟨rfl, N82q, eh82⟩ := hQ82
      have N82 := Fr.app N81 N82q
      obtain ⟨fs, hr, hrun, hended, hW, hsame⟩ := X82.leave (v := some (.int (1 : Int32))) (fun h => by rw [Bd.returns] at h; cases h)
      refine ⟨_, _, pre66 _ ?_, hrun, hended, _, _, rfl, ?_, ⟨_, rfl⟩, hW, hsame.mono (by decide) (by decide)⟩
      · show Steps p.tables e below (T65.setTop (mkF m 173 #[.val (.int p0), .val (.int p1), .val (.int p2), .val (.int p3), .val (.int p4), .val (.int k0), .val (.int k1), .val (.int k2), .val (.int nn), .val (.ref b5), .val (.ref b16), .val (.ref b28), .val (.ref b40), .unset] [(.int (3 : Int32)), (.int nn)])) _
        refine XS.icmpNo X65.here hx rfl (hb hby at_173) rfl (flt hc67).1 ?_
        refine XS.aload X65.here hx rfl (hb hby at_176) rfl rfl ?_
        refine XS.aload X65.here hx rfl (hb hby at_178) rfl rfl ?_
        show Steps p.tables e below (T65.setTop (mkF m 180 #[.val (.int p0), .val (.int p1), .val (.int p2), .val (.int p3), .val (.int p4), .val (.int k0), .val (.int k1), .val (.int k2), .val (.int nn), .val (.ref b5), .val (.ref b16), .val (.ref b28), .val (.ref b40), .unset] [(.ref b28), (.ref b40)])) _
        refine st75.trans ?_
        refine XS.pop X75.here hx rfl (hb hby at_183) rfl rfl ?_
        show Steps p.tables e below (T75.setTop (mkF m 184 #[.val (.int p0), .val (.int p1), .val (.int p2), .val (.int p3), .val (.int p4), .val (.int k0), .val (.int k1), .val (.int k2), .val (.int nn), .val (.ref b5), .val (.ref b16), .val (.ref b28), .val (.ref b40), .unset] [])) _
        refine st76 _ ?_
        refine XS.dup X76.here hx rfl (hb hby at_187) rfl rfl ?_
        refine XS.aload X76.here hx rfl (hb hby at_188) rfl rfl ?_
        show Steps p.tables e below (T76.setTop (mkF m 190 #[.val (.int p0), .val (.int p1), .val (.int p2), .val (.int p3), .val (.int p4), .val (.int k0), .val (.int k1), .val (.int k2), .val (.int nn), .val (.ref b5), .val (.ref b16), .val (.ref b28), .val (.ref b40), .unset] [(.ref b40), (.ref b76), (.ref b76)])) _
        refine st78.trans ?_
        refine XS.astore X78.here hx rfl (hb hby at_193) rfl rfl (l' := #[.val (.int p0), .val (.int p1), .val (.int p2), .val (.int p3), .val (.int p4), .val (.int k0), .val (.int k1), .val (.int k2), .val (.int nn), .val (.ref b5), .val (.ref b16), .val (.ref b28), .val (.ref b40), .val (.ref b76)]) rfl ?_
        refine XS.aload X78.here hx rfl (hb hby at_195) rfl rfl ?_
        show Steps p.tables e below (T78.setTop (mkF m 197 #[.val (.int p0), .val (.int p1), .val (.int p2), .val (.int p3), .val (.int p4), .val (.int k0), .val (.int k1), .val (.int k2), .val (.int nn), .val (.ref b5), .val (.ref b16), .val (.ref b28), .val (.ref b40), .val (.ref b76)] [(.ref b76)])) _
        refine st81.trans ?_
        refine XS.iload X81.here hx rfl (hb hby at_200) rfl ?_
        show Steps p.tables e below (T81.setTop (mkF m 202 #[.val (.int p0), .val (.int p1), .val (.int p2), .val (.int p3), .val (.int p4), .val (.int k0), .val (.int k1), .val (.int k2), .val (.int nn), .val (.ref b5), .val (.ref b16), .val (.ref b28), .val (.ref b40), .val (.ref b76)] [(.int k0), (.int (own_exp k0))])) _
        refine st82 _ ?_
        refine XS.icmpNo X82.here hx rfl (hb hby at_205) rfl (teq (rfl : (own_exp k0) = (own_exp k0))).2 ?_
        refine XS.iconst X82.here hx rfl (hb hby at_208) ?_
        refine XS.goto X82.here hx rfl (pc0 := 209) (pc' := 213) rfl (hb hby at_209) (by decide) (by decide) ?_
        show Steps p.tables e below (T82.setTop (mkF m 213 #[.val (.int p0), .val (.int p1), .val (.int p2), .val (.int p3), .val (.int p4), .val (.int k0), .val (.int k1), .val (.int k2), .val (.int nn), .val (.ref b5), .val (.ref b16), .val (.ref b28), .val (.ref b40), .val (.ref b76)] [(.int (1 : Int32))])) _
        exact retN X82 hx (t := .boolean) Bd.returns (by simp) (hb hby at_213) hr
      · show Qlaw Z p0 p1 p2 p3 p4 mr cz dd kd em us se tINVALID_JSON tINVALID_PARAMETER tINVALID_REQUEST tUNAUTHORIZED tCARD_DECLINED tSANDBOX_ONLY tNOT_FOUND tMETHOD_NOT_ALLOWED tINVALID_STATE tREQUEST_IN_PROGRESS tREQUEST_TOO_LARGE tNO_PROCESSOR tIDEMPOTENCY_KEY_REUSED tWEBHOOKS_NOT_CONFIGURED tINTERNAL_ERROR h0 n0 _ T82.heap _
        rw [eh82]
        exact ⟨rfl, N82, K78⟩
theorem w_10 : (Jvm.Cond.laysStatic "com/example/levy/levy/api/ErrorType" "INVALID_JSON" "Lcom/example/levy/levy/api/ErrorType;") ∈ tables_1 := List.mem_of_getElem? (i := 10) (by decide +kernel)
theorem w_318 : (Jvm.Cond.laysStatic "com/example/levy/levy/api/ErrorType" "INVALID_PARAMETER" "Lcom/example/levy/levy/api/ErrorType;") ∈ tables_1 := List.mem_of_getElem? (i := 318) (by decide +kernel)
theorem w_53 : (Jvm.Cond.laysStatic "com/example/levy/levy/api/ErrorType" "INVALID_REQUEST" "Lcom/example/levy/levy/api/ErrorType;") ∈ tables_1 := List.mem_of_getElem? (i := 53) (by decide +kernel)
theorem w_51 : (Jvm.Cond.laysStatic "com/example/levy/levy/api/ErrorType" "UNAUTHORIZED" "Lcom/example/levy/levy/api/ErrorType;") ∈ tables_1 := List.mem_of_getElem? (i := 51) (by decide +kernel)
theorem w_310 : (Jvm.Cond.laysStatic "com/example/levy/levy/api/ErrorType" "CARD_DECLINED" "Lcom/example/levy/levy/api/ErrorType;") ∈ tables_1 := List.mem_of_getElem? (i := 310) (by decide +kernel)
theorem w_357 : (Jvm.Cond.laysStatic "com/example/levy/levy/api/ErrorType" "SANDBOX_ONLY" "Lcom/example/levy/levy/api/ErrorType;") ∈ tables_1 := List.mem_of_getElem? (i := 357) (by decide +kernel)
theorem w_351 : (Jvm.Cond.laysStatic "com/example/levy/levy/api/ErrorType" "NOT_FOUND" "Lcom/example/levy/levy/api/ErrorType;") ∈ tables_1 := List.mem_of_getElem? (i := 351) (by decide +kernel)
theorem w_345 : (Jvm.Cond.laysStatic "com/example/levy/levy/api/ErrorType" "METHOD_NOT_ALLOWED" "Lcom/example/levy/levy/api/ErrorType;") ∈ tables_1 := List.mem_of_getElem? (i := 345) (by decide +kernel)
theorem w_359 : (Jvm.Cond.laysStatic "com/example/levy/levy/api/ErrorType" "INVALID_STATE" "Lcom/example/levy/levy/api/ErrorType;") ∈ tables_1 := List.mem_of_getElem? (i := 359) (by decide +kernel)
theorem w_349 : (Jvm.Cond.laysStatic "com/example/levy/levy/api/ErrorType" "REQUEST_IN_PROGRESS" "Lcom/example/levy/levy/api/ErrorType;") ∈ tables_1 := List.mem_of_getElem? (i := 349) (by decide +kernel)
theorem w_312 : (Jvm.Cond.laysStatic "com/example/levy/levy/api/ErrorType" "REQUEST_TOO_LARGE" "Lcom/example/levy/levy/api/ErrorType;") ∈ tables_1 := List.mem_of_getElem? (i := 312) (by decide +kernel)
theorem w_347 : (Jvm.Cond.laysStatic "com/example/levy/levy/api/ErrorType" "NO_PROCESSOR" "Lcom/example/levy/levy/api/ErrorType;") ∈ tables_1 := List.mem_of_getElem? (i := 347) (by decide +kernel)
theorem w_355 : (Jvm.Cond.laysStatic "com/example/levy/levy/api/ErrorType" "IDEMPOTENCY_KEY_REUSED" "Lcom/example/levy/levy/api/ErrorType;") ∈ tables_1 := List.mem_of_getElem? (i := 355) (by decide +kernel)
theorem w_361 : (Jvm.Cond.laysStatic "com/example/levy/levy/api/ErrorType" "WEBHOOKS_NOT_CONFIGURED" "Lcom/example/levy/levy/api/ErrorType;") ∈ tables_1 := List.mem_of_getElem? (i := 361) (by decide +kernel)
theorem w_353 : (Jvm.Cond.laysStatic "com/example/levy/levy/api/ErrorType" "INTERNAL_ERROR" "Lcom/example/levy/levy/api/ErrorType;") ∈ tables_1 := List.mem_of_getElem? (i := 353) (by decide +kernel)
theorem w_189 : (Jvm.Cond.laysStatic "java/lang/Throwable" "UNASSIGNED_STACK" "[Ljava/lang/StackTraceElement;") ∈ tables_1 := List.mem_of_getElem? (i := 189) (by decide +kernel)
theorem w_190 : (Jvm.Cond.laysStatic "java/lang/Throwable" "SUPPRESSED_SENTINEL" "Ljava/util/List;") ∈ tables_1 := List.mem_of_getElem? (i := 190) (by decide +kernel)
set_option maxRecDepth 65536 in
set_option maxHeartbeats 40000000 in
theorem comes_1 {Post : Tables → Env → Array Value → State → Outcome → State → Prop} (hpost : ∀ tb e args s v u, (limb_1_1.after args s (.returned v) u = true ∧ limb_1_2.after args s (.returned v) u = true ∧ True) → FrameEnd s (.returned v) u (Jvm.fieldLocs frame_1_writes args s ++ Jvm.arrayLocs frame_1_arrays args s ++ Jvm.staticLocs frame_1_statics s) 56 5760 → Post tb e args s (.returned v) u) :
    ArmFor flags0 classFile x code maxLocals ret World_1 tables_1 room_1 Calls_1 rest_1 Pre_1 Post := by
  intro l hfl _ _ p e ha hc hk s m args below hf hA hF happ hP
  obtain ⟨hcalls, hrest, hpre⟩ := hP
  obtain ⟨-, -, -, hnamed, -, -, -, hat⟩ := (Spec.applies_iff hf).mp happ
  obtain ⟨hg, hn⟩ := and_e (Cond.before_iff.mp (show (Jvm.Cond.and given_1 narrow_1).before args s = true from hpre))
  obtain ⟨gc, q0⟩ := and_e hg
  obtain ⟨g0, q1⟩ := and_e q0
  obtain ⟨g1, q2⟩ := and_e q1
  obtain ⟨g2, q3⟩ := and_e q2
  obtain ⟨g3, q4⟩ := and_e q3
  obtain ⟨w0, w1, w2, w3, w4, rfl⟩ : ∃ w0 w1 w2 w3 w4 : Value, args = #[w0, w1, w2, w3, w4] := by
    have hs : args.size = 5 := by simpa [Cond.value, given_1] using gc
    obtain ⟨L⟩ := args
    match L, hs with
    | [w0, w1, w2, w3, w4], _ => exact ⟨w0, w1, w2, w3, w4, rfl⟩
  have hw := fun d (hd : d ∈ tables_1) => atoms_spec (ws := Jvm.Cond.code x code maxLocals ret :: tables_1) hat d (List.mem_cons_of_mem _ hd)
  obtain ⟨hsets, hown0⟩ := atoms_of _ (rest_1_c_eq ▸ (show rest_1_c.before _ s = true from hrest))
  have hfit : Fit s := fun {y c} hc i hi => by
    obtain ⟨ha, rfl⟩ := Array.getElem?_eq_some_iff.mp hc
    have q := List.all_eq_true.mp ((Array.all_eq_true_iff_forall_mem.mp hF) _ (Array.getElem_mem ha)) i (List.mem_range.mpr hi)
    simpa [Array.getElem?_eq_getElem hi] using q
  obtain ⟨i0, ei0⟩ := is_v g0
  obtain rfl : w0 = (.int i0) := Option.some.inj ei0
  obtain ⟨i1, ei1⟩ := is_v g1
  obtain rfl : w1 = (.int i1) := Option.some.inj ei1
  obtain ⟨i2, ei2⟩ := is_v g2
  obtain rfl : w2 = (.int i2) := Option.some.inj ei2
  obtain ⟨i3, ei3⟩ := is_v g3
  obtain rfl : w3 = (.int i3) := Option.some.inj ei3
  obtain ⟨i4, ei4⟩ := is_v q4
  obtain rfl : w4 = (.int i4) := Option.some.inj ei4
  obtain ⟨h0_, hn⟩ := and_e hn
  obtain ⟨h1_, hn⟩ := and_e hn
  obtain ⟨h2_, hn⟩ := and_e hn
  obtain ⟨h3_, hn⟩ := and_e hn
  obtain ⟨h4_, hn⟩ := and_e hn
  obtain ⟨h5_, hn⟩ := and_e hn
  obtain ⟨h6_, hn⟩ := and_e hn
  obtain ⟨h7_, hn⟩ := and_e hn
  obtain ⟨h8_, hn⟩ := and_e hn
  obtain ⟨h9_, hn⟩ := and_e hn
  obtain ⟨h10_, hn⟩ := and_e hn
  obtain ⟨h11_, hn⟩ := and_e hn
  obtain ⟨h12_, hn⟩ := and_e hn
  obtain ⟨h13_, hn⟩ := and_e hn
  obtain ⟨h14_, hn⟩ := and_e hn
  obtain ⟨h15_, hn⟩ := and_e hn
  obtain ⟨h16_, hn⟩ := and_e hn
  obtain ⟨h17_, hn⟩ := and_e hn
  obtain ⟨h18_, hn⟩ := and_e hn
  obtain ⟨h19_, hn⟩ := and_e hn
  obtain ⟨h20_, hn⟩ := and_e hn
  obtain ⟨h21_, hn⟩ := and_e hn
  obtain ⟨h22_, hn⟩ := and_e hn
  obtain ⟨h23_, hn⟩ := and_e hn
  obtain ⟨h24_, hn⟩ := and_e hn
  obtain ⟨h25_, hn⟩ := and_e hn
  obtain ⟨h26_, hn⟩ := and_e hn
  obtain ⟨h27_, hn⟩ := and_e hn
  obtain ⟨h28_, h29_⟩ := and_e hn
  obtain ⟨aINVALID_JSON, vINVALID_JSON⟩ := exa_v h0_
  have SINVALID_JSON := Sta.start vINVALID_JSON (Or.inr ⟨(hw _ w_9), (hw _ w_10)⟩)
  have EINVALID_JSON := Exa.start vINVALID_JSON h0_
  have FINVALID_JSON := own_fldI vINVALID_JSON h3_
  obtain ⟨aINVALID_PARAMETER, vINVALID_PARAMETER⟩ := exa_v h7_
  have SINVALID_PARAMETER := Sta.start vINVALID_PARAMETER (Or.inr ⟨(hw _ w_9), (hw _ w_318)⟩)
  have EINVALID_PARAMETER := Exa.start vINVALID_PARAMETER h7_
  have FINVALID_PARAMETER := own_fldI vINVALID_PARAMETER h15_
  obtain ⟨aINVALID_REQUEST, vINVALID_REQUEST⟩ := exa_v h2_
  have SINVALID_REQUEST := Sta.start vINVALID_REQUEST (Or.inr ⟨(hw _ w_9), (hw _ w_53)⟩)
  have EINVALID_REQUEST := Exa.start vINVALID_REQUEST h2_
  have FINVALID_REQUEST := own_fldI vINVALID_REQUEST h8_
  obtain ⟨aUNAUTHORIZED, vUNAUTHORIZED⟩ := exa_v h1_
  have SUNAUTHORIZED := Sta.start vUNAUTHORIZED (Or.inr ⟨(hw _ w_9), (hw _ w_51)⟩)
  have EUNAUTHORIZED := Exa.start vUNAUTHORIZED h1_
  have FUNAUTHORIZED := own_fldI vUNAUTHORIZED h6_
  obtain ⟨aCARD_DECLINED, vCARD_DECLINED⟩ := exa_v h4_
  have SCARD_DECLINED := Sta.start vCARD_DECLINED (Or.inr ⟨(hw _ w_9), (hw _ w_310)⟩)
  have ECARD_DECLINED := Exa.start vCARD_DECLINED h4_
  have FCARD_DECLINED := own_fldI vCARD_DECLINED h22_
  obtain ⟨aSANDBOX_ONLY, vSANDBOX_ONLY⟩ := exa_v h19_
  have SSANDBOX_ONLY := Sta.start vSANDBOX_ONLY (Or.inr ⟨(hw _ w_9), (hw _ w_357)⟩)
  have ESANDBOX_ONLY := Exa.start vSANDBOX_ONLY h19_
  have FSANDBOX_ONLY := own_fldI vSANDBOX_ONLY h25_
  obtain ⟨aNOT_FOUND, vNOT_FOUND⟩ := exa_v h14_
  have SNOT_FOUND := Sta.start vNOT_FOUND (Or.inr ⟨(hw _ w_9), (hw _ w_351)⟩)
  have ENOT_FOUND := Exa.start vNOT_FOUND h14_
  have FNOT_FOUND := own_fldI vNOT_FOUND h24_
  obtain ⟨aMETHOD_NOT_ALLOWED, vMETHOD_NOT_ALLOWED⟩ := exa_v h10_
  have SMETHOD_NOT_ALLOWED := Sta.start vMETHOD_NOT_ALLOWED (Or.inr ⟨(hw _ w_9), (hw _ w_345)⟩)
  have EMETHOD_NOT_ALLOWED := Exa.start vMETHOD_NOT_ALLOWED h10_
  have FMETHOD_NOT_ALLOWED := own_fldI vMETHOD_NOT_ALLOWED h12_
  obtain ⟨aINVALID_STATE, vINVALID_STATE⟩ := exa_v h20_
  have SINVALID_STATE := Sta.start vINVALID_STATE (Or.inr ⟨(hw _ w_9), (hw _ w_359)⟩)
  have EINVALID_STATE := Exa.start vINVALID_STATE h20_
  have FINVALID_STATE := own_fldI vINVALID_STATE h29_
  obtain ⟨aREQUEST_IN_PROGRESS, vREQUEST_IN_PROGRESS⟩ := exa_v h13_
  have SREQUEST_IN_PROGRESS := Sta.start vREQUEST_IN_PROGRESS (Or.inr ⟨(hw _ w_9), (hw _ w_349)⟩)
  have EREQUEST_IN_PROGRESS := Exa.start vREQUEST_IN_PROGRESS h13_
  have FREQUEST_IN_PROGRESS := own_fldI vREQUEST_IN_PROGRESS h18_
  obtain ⟨aREQUEST_TOO_LARGE, vREQUEST_TOO_LARGE⟩ := exa_v h5_
  have SREQUEST_TOO_LARGE := Sta.start vREQUEST_TOO_LARGE (Or.inr ⟨(hw _ w_9), (hw _ w_312)⟩)
  have EREQUEST_TOO_LARGE := Exa.start vREQUEST_TOO_LARGE h5_
  have FREQUEST_TOO_LARGE := own_fldI vREQUEST_TOO_LARGE h9_
  obtain ⟨aNO_PROCESSOR, vNO_PROCESSOR⟩ := exa_v h11_
  have SNO_PROCESSOR := Sta.start vNO_PROCESSOR (Or.inr ⟨(hw _ w_9), (hw _ w_347)⟩)
  have ENO_PROCESSOR := Exa.start vNO_PROCESSOR h11_
  have FNO_PROCESSOR := own_fldI vNO_PROCESSOR h28_
  obtain ⟨aIDEMPOTENCY_KEY_REUSED, vIDEMPOTENCY_KEY_REUSED⟩ := exa_v h17_
  have SIDEMPOTENCY_KEY_REUSED := Sta.start vIDEMPOTENCY_KEY_REUSED (Or.inr ⟨(hw _ w_9), (hw _ w_355)⟩)
  have EIDEMPOTENCY_KEY_REUSED := Exa.start vIDEMPOTENCY_KEY_REUSED h17_
  have FIDEMPOTENCY_KEY_REUSED := own_fldI vIDEMPOTENCY_KEY_REUSED h26_
  obtain ⟨aWEBHOOKS_NOT_CONFIGURED, vWEBHOOKS_NOT_CONFIGURED⟩ := exa_v h21_
  have SWEBHOOKS_NOT_CONFIGURED := Sta.start vWEBHOOKS_NOT_CONFIGURED (Or.inr ⟨(hw _ w_9), (hw _ w_361)⟩)
  have EWEBHOOKS_NOT_CONFIGURED := Exa.start vWEBHOOKS_NOT_CONFIGURED h21_
  have FWEBHOOKS_NOT_CONFIGURED := own_fldI vWEBHOOKS_NOT_CONFIGURED h27_
  obtain ⟨aINTERNAL_ERROR, vINTERNAL_ERROR⟩ := exa_v h16_
  have SINTERNAL_ERROR := Sta.start vINTERNAL_ERROR (Or.inr ⟨(hw _ w_9), (hw _ w_353)⟩)
  have EINTERNAL_ERROR := Exa.start vINTERNAL_ERROR h16_
  have FINTERNAL_ERROR := own_fldI vINTERNAL_ERROR h23_
  obtain ⟨cz, ecz⟩ := is_v (Cond.before_iff.mp (hsets _ (List.mem_of_getElem? (i := 1) rfl)))
  have Scz := Sta.start ecz (Or.inl (hsets _ (List.mem_of_getElem? (i := 0) rfl)))
  have hcz : ¬ (cz = (0 : Int32)) := gotF (Cond.eq_ints ecz (Term.int_eval (0))) (not_v (Cond.before_iff.mp (hsets _ (List.mem_of_getElem? (i := 2) rfl))))
  have aDD := (Cond.before_iff.mp (hsets _ (List.mem_of_getElem? (i := 15) rfl)))
  obtain ⟨dd, vDD⟩ := arr_v aDD
  have SDD := Sta.start vDD (Or.inr ⟨(hw _ w_56), (hsets _ (List.mem_of_getElem? (i := 11) rfl))⟩)
  obtain ⟨cDD, AD⟩ := Arr.start vDD aDD
  obtain ⟨l1, l2⟩ := own_len vDD AD.1 (Cond.before_iff.mp (hsets _ (List.mem_of_getElem? (i := 17) rfl)))
  have VDD : Arv s s.heap dd cDD.cls (.object "java/lang/Object") (0 : Int32) [] .null := Arv.start hfit AD l1 l2 (by decide) (by decide) trivial
  obtain ⟨em, vEM⟩ := exa_v (Cond.before_iff.mp (hsets _ (List.mem_of_getElem? (i := 40) rfl)))
  have SEM := Sta.start vEM (Or.inl (hsets _ (List.mem_of_getElem? (i := 39) rfl)))
  obtain ⟨hFK, hTK, ⟨cM, kM, mr, m1, m2, m3, -⟩, -⟩ := hcalls
  have MRo : own_Mr s "[Ljava/lang/Object;" mr := ⟨cM, kM, m1, m2, m3⟩
  have hl : l.stackTraces = true := by
    have q := Launch.traces_on hfl ha
    obtain ⟨-, -, -, -, hp, -⟩ := id ha
    rw [hp] at q
    exact q
  have r2 := two_refs hfit (hw _ w_189) (hw _ w_190)
  obtain ⟨us, eus, hus⟩ := isR_v (Cond.before_iff.mp (r2 _ (List.mem_of_getElem? (i := 0) rfl)))
  obtain ⟨se, ese, hse⟩ := isR_v (Cond.before_iff.mp (r2 _ (List.mem_of_getElem? (i := 1) rfl)))
  have SUS := Sta.start eus (Or.inr ⟨(hw _ w_159), (hw _ w_189)⟩)
  have SSE := Sta.start ese (Or.inr ⟨(hw _ w_159), (hw _ w_190)⟩)
  obtain ⟨n, o, h1, h2, h3, _, L, rfl, ⟨rfl, N, -⟩, hq⟩ := rmlaw l s _ hw tables_1 i0 i1 i2 i3 i4 mr cz dd cDD.cls em us se aINVALID_JSON aINVALID_PARAMETER aINVALID_REQUEST aUNAUTHORIZED aCARD_DECLINED aSANDBOX_ONLY aNOT_FOUND aMETHOD_NOT_ALLOWED aINVALID_STATE aREQUEST_IN_PROGRESS aREQUEST_TOO_LARGE aNO_PROCESSOR aIDEMPOTENCY_KEY_REUSED aWEBHOOKS_NOT_CONFIGURED aINTERNAL_ERROR s.heap s.heap.size (Old.start s) hl SUS SSE hus hse MRo Scz hcz SDD VDD SEM SINVALID_JSON EINVALID_JSON FINVALID_JSON SINVALID_PARAMETER EINVALID_PARAMETER FINVALID_PARAMETER SINVALID_REQUEST EINVALID_REQUEST FINVALID_REQUEST SUNAUTHORIZED EUNAUTHORIZED FUNAUTHORIZED SCARD_DECLINED ECARD_DECLINED FCARD_DECLINED SSANDBOX_ONLY ESANDBOX_ONLY FSANDBOX_ONLY SNOT_FOUND ENOT_FOUND FNOT_FOUND SMETHOD_NOT_ALLOWED EMETHOD_NOT_ALLOWED FMETHOD_NOT_ALLOWED SINVALID_STATE EINVALID_STATE FINVALID_STATE SREQUEST_IN_PROGRESS EREQUEST_IN_PROGRESS FREQUEST_IN_PROGRESS SREQUEST_TOO_LARGE EREQUEST_TOO_LARGE FREQUEST_TOO_LARGE SNO_PROCESSOR ENO_PROCESSOR FNO_PROCESSOR SIDEMPOTENCY_KEY_REUSED EIDEMPOTENCY_KEY_REUSED FIDEMPOTENCY_KEY_REUSED SWEBHOOKS_NOT_CONFIGURED EWEBHOOKS_NOT_CONFIGURED FWEBHOOKS_NOT_CONFIGURED SINTERNAL_ERROR EINTERNAL_ERROR FINTERNAL_ERROR p e ha hc hk s m _ below hf ((Spec.applies_iff_loose hf).mp happ).1 ⟨rfl, State.Warmed39.refl s, rfl⟩ ⟨hFK, hTK⟩
  refine ⟨n, _, h1, h2, h3, hpost _ _ _ _ _ _ ⟨Cond.after_iff.mpr rfl, Cond.after_iff.mpr (eq_i res_at (Term.int_eval (1)) rfl), trivial⟩ ⟨hq.1, hq.2.1, (hq.2.2.sift fun y hy => Or.inr (N y hy)).mono (by decide) (by decide)⟩⟩
theorem main_1_1 : Claimed_1_1 := comes_1 fun _ _ _ _ _ _ h hF => ⟨h.1, hF⟩
theorem main_1_2 : Claimed_1_2 := comes_1 fun _ _ _ _ _ _ h hF => ⟨h.2.1, hF⟩
end Jvm.Pilot.@@N@@
namespace Jvm.Pilot.@@N@@
open Jvm Jvm.ClassFile Sem Op Lib Jvm.Free Jvm.Stand Jvm.Pilot.@@N@@.Jvm.D
/-! MADE BY PROGRAM (witnessworld.py) out of the Statement's table words and the real class files: 47 classes; the members and pool entries that the words name. The judged class is class 1, her method 4. -/
namespace start1
open Jvm.ClassFile
def u (s : String) : CpInfo := .utf8 (stringToUtf16 s)
/-- a pool by its gaps: so many unusable entries, then the entry; so many at the end -/
def gap : Nat → List CpInfo → List CpInfo
  | 0, r => r
  | n + 1, r => .unusable :: gap n r
def poolList (es : List (Nat × CpInfo)) (last : Nat) : List CpInfo := es.foldr (fun e r => gap e.1 (e.2 :: r)) (gap last [])
def pool (es : List (Nat × CpInfo)) (last : Nat) : Array CpInfo := ⟨poolList es last⟩
def fileOf (pool : Array CpInfo) (this : Nat) (attrs : Array Attribute := #[]) (ms : Array MethodInfo := #[]) (fl : Nat := 33) (sup : Nat := 0) (ifs : Array Nat := #[]) (fds : Array FieldInfo := #[]) : ClassFile where
  minorVersion := 0
  majorVersion := 65
  constantPool := pool
  accessFlags := fl
  thisClass := this
  superClass := sup
  interfaces := ifs
  fields := fds
  methods := ms
  attributes := attrs
def plain (name : String) (sup : Option ClassId) : Class where
  name := name
  kind := .ordinary
  loader := none
  accessFlags := 33
  super := sup
  interfaces := #[]
  cf := none
  fields := #[]
  methods := #[]
  instanceTypes := #[]
  staticTypes := #[]
  resolved := #[]
  callSites := []
  init := .initialized
  statics := none
  mirror := none

def pool0 : Array CpInfo := pool [(5, u "<init>"), (0, u "()V"), (1, .class_ 10), (1, u "java/lang/Object"), (0, u "getClass"), (0, u "()Ljava/lang/Class;")] 111

def k0c0 : Code := { maxStack := 0, maxLocals := 1, code := object_method_1_code, exceptionTable := #[], attributes := #[] }
def k0m0 : Method := { name := "<init>", desc := "()V", sig := { parameters := [], returnType := none }, accessFlags := 1, code := some k0c0 }
def k0m1 : Method := { name := "getClass", desc := "()Ljava/lang/Class;", sig := { parameters := [], returnType := some (.object "java/lang/Class") }, accessFlags := 273, code := none }
/-- java/lang/Object -/
def k0 : Class := { plain "java/lang/Object" none with
  accessFlags := 33
  interfaces := #[]
  cf := some (fileOf pool0 8 #[] #[{ accessFlags := 1, nameIndex := 5, descriptorIndex := 6, attributes := #[] }, { accessFlags := 273, nameIndex := 11, descriptorIndex := 12, attributes := #[] }] 33 0 #[] #[])
  fields := #[]
  methods := #[k0m0, k0m1]
  instanceTypes := #[]
  staticTypes := #[]
  resolved := Array.replicate 124 none
  statics := none }

def pool1 : Array CpInfo := pool [(2, .class_ 4), (0, .nameAndType 5 6), (0, u "java/lang/Object"), (0, u "<init>"), (0, u "()V"), (0, .fieldref 8 9), (0, .class_ 10), (0, .nameAndType 11 12), (0, u "com/example/levy/levy/api/ErrorType"), (0, u "INVALID_JSON"), (0, u "Lcom/example/levy/levy/api/ErrorType;"), (0, .fieldref 8 14), (0, .nameAndType 15 12), (0, u "INVALID_PARAMETER"), (0, .fieldref 8 17), (0, .nameAndType 18 12), (0, u "INVALID_REQUEST"), (0, .fieldref 8 20), (0, .nameAndType 21 12), (0, u "UNAUTHORIZED"), (0, .fieldref 8 23), (0, .nameAndType 24 12), (0, u "CARD_DECLINED"), (0, .fieldref 8 26), (0, .nameAndType 27 12), (0, u "SANDBOX_ONLY"), (0, .fieldref 8 29), (0, .nameAndType 30 12), (0, u "NOT_FOUND"), (0, .fieldref 8 32), (0, .nameAndType 33 12), (0, u "METHOD_NOT_ALLOWED"), (0, .fieldref 8 35), (0, .nameAndType 36 12), (0, u "INVALID_STATE"), (0, .fieldref 8 38), (0, .nameAndType 39 12), (0, u "REQUEST_IN_PROGRESS"), (0, .fieldref 8 41), (0, .nameAndType 42 12), (0, u "REQUEST_TOO_LARGE"), (0, .fieldref 8 44), (0, .nameAndType 45 12), (0, u "NO_PROCESSOR"), (0, .fieldref 8 47), (0, .nameAndType 48 12), (0, u "IDEMPOTENCY_KEY_REUSED"), (0, .fieldref 8 50), (0, .nameAndType 51 12), (0, u "WEBHOOKS_NOT_CONFIGURED"), (0, .fieldref 8 53), (0, .nameAndType 54 12), (0, u "INTERNAL_ERROR"), (0, .methodref 56 57), (0, .class_ 58), (0, .nameAndType 59 60), (0, u "java/lang/String"), (0, u "valueOf"), (0, u "(C)Ljava/lang/String;"), (0, .integer 2147483647), (0, .class_ 63), (0, u "com/example/levy/levy/api/ApiError"), (0, .methodref 65 66), (0, .class_ 67), (0, .nameAndType 68 69), (0, u "com/example/levy/levy/api/ApiExceptionStatusPinLaw"), (0, u "type"), (0, u "(I)Lcom/example/levy/levy/api/ErrorType;"), (0, .methodref 65 71), (0, .nameAndType 72 73), (0, u "name"), (0, u "(I)Ljava/lang/String;"), (0, .methodref 62 75), (0, .nameAndType 5 76), (0, u "(Lcom/example/levy/levy/api/ErrorType;Ljava/lang/String;Ljava/lang/String;)V"), (0, .class_ 78), (0, u "java/util/ArrayList"), (0, .methodref 77 3), (0, .methodref 77 81), (0, .nameAndType 82 83), (0, u "add"), (0, u "(Ljava/lang/Object;)Z"), (0, .class_ 85), (0, u "com/example/levy/levy/api/ApiException"), (0, .methodref 84 87), (0, .nameAndType 5 88), (0, u "(Ljava/util/List;)V"), (0, .methodref 84 90), (0, .nameAndType 91 92), (0, u "status"), (0, u "()I"), (0, .methodref 65 94), (0, .nameAndType 95 96), (0, u "expected"), (0, u "(I)I"), (3, u "law"), (0, u "(IIIII)Z")] 2

def k1m0 : Method := { name := "<init>", desc := "()V", sig := { parameters := [], returnType := none }, accessFlags := 1, code := none }
def k1c1 : Code := { maxStack := 2, maxLocals := 1, code := method_2_code, exceptionTable := #[], attributes := #[] }
def k1m1 : Method := { name := "type", desc := "(I)Lcom/example/levy/levy/api/ErrorType;", sig := { parameters := [.int], returnType := some (.object "com/example/levy/levy/api/ErrorType") }, accessFlags := 10, code := some k1c1 }
def k1c2 : Code := { maxStack := 2, maxLocals := 1, code := method_3_code, exceptionTable := #[], attributes := #[] }
def k1m2 : Method := { name := "expected", desc := "(I)I", sig := { parameters := [.int], returnType := some .int }, accessFlags := 10, code := some k1c2 }
def k1c3 : Code := { maxStack := 2, maxLocals := 1, code := method_4_code, exceptionTable := #[], attributes := #[] }
def k1m3 : Method := { name := "name", desc := "(I)Ljava/lang/String;", sig := { parameters := [.int], returnType := some (.object "java/lang/String") }, accessFlags := 10, code := some k1c3 }
def k1c4 : Code := { maxStack := 6, maxLocals := 14, code := code, exceptionTable := #[], attributes := #[] }
def k1m4 : Method := { name := "law", desc := "(IIIII)Z", sig := { parameters := [.int, .int, .int, .int, .int], returnType := some .boolean }, accessFlags := 9, code := some k1c4 }
/-- com/example/levy/levy/api/ApiExceptionStatusPinLaw -/
def k1 : Class := { plain "com/example/levy/levy/api/ApiExceptionStatusPinLaw" (some 0) with
  accessFlags := 49
  interfaces := #[]
  cf := some (fileOf pool1 65 #[] #[{ accessFlags := 1, nameIndex := 5, descriptorIndex := 6, attributes := #[] }, { accessFlags := 10, nameIndex := 68, descriptorIndex := 69, attributes := #[] }, { accessFlags := 10, nameIndex := 95, descriptorIndex := 96, attributes := #[] }, { accessFlags := 10, nameIndex := 72, descriptorIndex := 73, attributes := #[] }, { accessFlags := 9, nameIndex := 100, descriptorIndex := 101, attributes := #[] }] 49 2 #[] #[])
  fields := #[]
  methods := #[k1m0, k1m1, k1m2, k1m3, k1m4]
  instanceTypes := #[]
  staticTypes := #[]
  resolved := Array.replicate 104 none
  statics := none }

def pool2 : Array CpInfo := pool [(1, .methodref 2 3), (0, .class_ 4), (0, .nameAndType 5 6), (0, u "java/lang/Object"), (0, u "<init>"), (0, u "()V"), (0, .fieldref 8 9), (0, .class_ 10), (0, .nameAndType 11 12), (0, u "com/example/levy/levy/api/ApiError"), (0, u "type"), (0, u "Lcom/example/levy/levy/api/ErrorType;"), (0, .fieldref 8 14), (0, .nameAndType 15 16), (0, u "parameterName"), (0, u "Ljava/lang/String;"), (0, .fieldref 8 18), (0, .nameAndType 19 16), (0, u "message"), (0, u "(Lcom/example/levy/levy/api/ErrorType;Ljava/lang/String;Ljava/lang/String;)V"), (2, u "()Lcom/example/levy/levy/api/ErrorType;"), (0, u "()Ljava/lang/String;")] 2

def k2c0 : Code := { maxStack := 2, maxLocals := 4, code := prog_1_method_1_code, exceptionTable := #[], attributes := #[] }
def k2m0 : Method := { name := "<init>", desc := "(Lcom/example/levy/levy/api/ErrorType;Ljava/lang/String;Ljava/lang/String;)V", sig := { parameters := [(.object "com/example/levy/levy/api/ErrorType"), (.object "java/lang/String"), (.object "java/lang/String")], returnType := none }, accessFlags := 1, code := some k2c0 }
def k2c1 : Code := { maxStack := 1, maxLocals := 1, code := prog_1_method_2_code, exceptionTable := #[], attributes := #[] }
def k2m1 : Method := { name := "type", desc := "()Lcom/example/levy/levy/api/ErrorType;", sig := { parameters := [], returnType := some (.object "com/example/levy/levy/api/ErrorType") }, accessFlags := 1, code := some k2c1 }
def k2c2 : Code := { maxStack := 1, maxLocals := 1, code := prog_1_method_4_code, exceptionTable := #[], attributes := #[] }
def k2m2 : Method := { name := "message", desc := "()Ljava/lang/String;", sig := { parameters := [], returnType := some (.object "java/lang/String") }, accessFlags := 1, code := some k2c2 }
/-- com/example/levy/levy/api/ApiError -/
def k2 : Class := { plain "com/example/levy/levy/api/ApiError" (some 0) with
  accessFlags := 49
  interfaces := #[]
  cf := some (fileOf pool2 8 #[] #[{ accessFlags := 1, nameIndex := 5, descriptorIndex := 20, attributes := #[] }, { accessFlags := 1, nameIndex := 11, descriptorIndex := 23, attributes := #[] }, { accessFlags := 1, nameIndex := 19, descriptorIndex := 24, attributes := #[] }] 49 2 #[] #[{ accessFlags := 18, nameIndex := 11, descriptorIndex := 12, attributes := #[] }, { accessFlags := 18, nameIndex := 15, descriptorIndex := 16, attributes := #[] }, { accessFlags := 18, nameIndex := 19, descriptorIndex := 16, attributes := #[] }])
  fields := #[{ name := "type", type := (.object "com/example/levy/levy/api/ErrorType"), accessFlags := 18, slot := 0, constantValue := 0 }, { name := "parameterName", type := (.object "java/lang/String"), accessFlags := 18, slot := 1, constantValue := 0 }, { name := "message", type := (.object "java/lang/String"), accessFlags := 18, slot := 2, constantValue := 0 }]
  methods := #[k2m0, k2m1, k2m2]
  instanceTypes := #[(.object "com/example/levy/levy/api/ErrorType"), (.object "java/lang/String"), (.object "java/lang/String")]
  staticTypes := #[]
  resolved := Array.replicate 27 none
  statics := none }

def pool3 : Array CpInfo := pool [(1, .class_ 2), (0, u "java/lang/constant/Constable"), (0, .class_ 4), (0, u "java/lang/Object")] 6

/-- java/lang/constant/Constable -/
def k3 : Class := { plain "java/lang/constant/Constable" (some 0) with
  accessFlags := 1537
  interfaces := #[]
  cf := some (fileOf pool3 1 #[] #[] 1537 3 #[] #[])
  fields := #[]
  methods := #[]
  instanceTypes := #[]
  staticTypes := #[]
  resolved := Array.replicate 11 none
  statics := none }

def pool4 : Array CpInfo := pool [(1, .class_ 2), (0, u "java/lang/Comparable"), (0, .class_ 4), (0, u "java/lang/Object")] 7

/-- java/lang/Comparable -/
def k4 : Class := { plain "java/lang/Comparable" (some 0) with
  accessFlags := 1537
  interfaces := #[]
  cf := some (fileOf pool4 1 #[] #[] 1537 3 #[] #[])
  fields := #[]
  methods := #[]
  instanceTypes := #[]
  staticTypes := #[]
  resolved := Array.replicate 12 none
  statics := none }

def pool5 : Array CpInfo := pool [(1, .class_ 2), (0, u "java/io/Serializable"), (0, .class_ 4), (0, u "java/lang/Object")] 2

/-- java/io/Serializable -/
def k5 : Class := { plain "java/io/Serializable" (some 0) with
  accessFlags := 1537
  interfaces := #[]
  cf := some (fileOf pool5 1 #[] #[] 1537 3 #[] #[])
  fields := #[]
  methods := #[]
  instanceTypes := #[]
  staticTypes := #[]
  resolved := Array.replicate 7 none
  statics := none }

def pool6 : Array CpInfo := pool [(2, .class_ 4), (1, u "java/lang/Enum"), (0, u "name"), (0, u "Ljava/lang/String;"), (2, u "ordinal"), (0, u "I"), (1, .class_ 14), (1, u "java/lang/Object"), (4, u "hash"), (86, .class_ 108), (1, u "java/lang/Enum$EnumDesc"), (2, .class_ 112), (0, u "java/lang/constant/Constable"), (0, .class_ 114), (0, u "java/lang/Comparable"), (0, .class_ 116), (0, u "java/io/Serializable")] 87

/-- java/lang/Enum -/
def k6 : Class := { plain "java/lang/Enum" (some 0) with
  accessFlags := 1057
  interfaces := #[3, 4, 5]
  cf := some (fileOf pool6 2 #[.nestMembers #[106]] #[] 1057 12 #[111, 113, 115] #[{ accessFlags := 18, nameIndex := 5, descriptorIndex := 6, attributes := #[] }, { accessFlags := 18, nameIndex := 9, descriptorIndex := 10, attributes := #[] }, { accessFlags := 2, nameIndex := 19, descriptorIndex := 10, attributes := #[] }])
  fields := #[{ name := "name", type := (.object "java/lang/String"), accessFlags := 18, slot := 0, constantValue := 0 }, { name := "ordinal", type := .int, accessFlags := 18, slot := 1, constantValue := 0 }, { name := "hash", type := .int, accessFlags := 2, slot := 2, constantValue := 0 }]
  methods := #[]
  instanceTypes := #[(.object "java/lang/String"), .int, .int]
  staticTypes := #[]
  resolved := Array.replicate 204 none
  statics := none }

def pool7 : Array CpInfo := pool [(1, .class_ 2), (0, u "com/example/levy/levy/api/ErrorType"), (2, u "INVALID_JSON"), (0, u "Lcom/example/levy/levy/api/ErrorType;"), (2, u "INVALID_PARAMETER"), (2, u "INVALID_REQUEST"), (2, u "UNAUTHORIZED"), (2, u "CARD_DECLINED"), (2, u "SANDBOX_ONLY"), (2, u "NOT_FOUND"), (2, u "METHOD_NOT_ALLOWED"), (2, u "INVALID_STATE"), (2, u "REQUEST_IN_PROGRESS"), (2, u "REQUEST_TOO_LARGE"), (2, u "NO_PROCESSOR"), (2, u "IDEMPOTENCY_KEY_REUSED"), (2, u "WEBHOOKS_NOT_CONFIGURED"), (2, u "INTERNAL_ERROR"), (2, u "$VALUES"), (0, u "[Lcom/example/levy/levy/api/ErrorType;"), (6, .class_ 61), (1, u "java/lang/Enum"), (8, u "code"), (0, u "Ljava/lang/String;"), (0, .fieldref 1 73), (0, .nameAndType 74 75), (0, u "status"), (0, u "I"), (59, u "()I")] 5

def k7c0 : Code := { maxStack := 1, maxLocals := 1, code := prog_7_method_5_code, exceptionTable := #[], attributes := #[] }
def k7m0 : Method := { name := "status", desc := "()I", sig := { parameters := [], returnType := some .int }, accessFlags := 1, code := some k7c0 }
/-- com/example/levy/levy/api/ErrorType -/
def k7 : Class := { plain "com/example/levy/levy/api/ErrorType" (some 6) with
  accessFlags := 16433
  interfaces := #[]
  cf := some (fileOf pool7 1 #[] #[{ accessFlags := 1, nameIndex := 74, descriptorIndex := 135, attributes := #[] }] 16433 59 #[] #[{ accessFlags := 16409, nameIndex := 5, descriptorIndex := 6, attributes := #[] }, { accessFlags := 16409, nameIndex := 9, descriptorIndex := 6, attributes := #[] }, { accessFlags := 16409, nameIndex := 12, descriptorIndex := 6, attributes := #[] }, { accessFlags := 16409, nameIndex := 15, descriptorIndex := 6, attributes := #[] }, { accessFlags := 16409, nameIndex := 18, descriptorIndex := 6, attributes := #[] }, { accessFlags := 16409, nameIndex := 21, descriptorIndex := 6, attributes := #[] }, { accessFlags := 16409, nameIndex := 24, descriptorIndex := 6, attributes := #[] }, { accessFlags := 16409, nameIndex := 27, descriptorIndex := 6, attributes := #[] }, { accessFlags := 16409, nameIndex := 30, descriptorIndex := 6, attributes := #[] }, { accessFlags := 16409, nameIndex := 33, descriptorIndex := 6, attributes := #[] }, { accessFlags := 16409, nameIndex := 36, descriptorIndex := 6, attributes := #[] }, { accessFlags := 16409, nameIndex := 39, descriptorIndex := 6, attributes := #[] }, { accessFlags := 16409, nameIndex := 42, descriptorIndex := 6, attributes := #[] }, { accessFlags := 16409, nameIndex := 45, descriptorIndex := 6, attributes := #[] }, { accessFlags := 16409, nameIndex := 48, descriptorIndex := 6, attributes := #[] }, { accessFlags := 18, nameIndex := 70, descriptorIndex := 71, attributes := #[] }, { accessFlags := 18, nameIndex := 74, descriptorIndex := 75, attributes := #[] }, { accessFlags := 4122, nameIndex := 51, descriptorIndex := 52, attributes := #[] }])
  fields := #[{ name := "INVALID_JSON", type := (.object "com/example/levy/levy/api/ErrorType"), accessFlags := 16409, slot := 0, constantValue := 0 }, { name := "INVALID_PARAMETER", type := (.object "com/example/levy/levy/api/ErrorType"), accessFlags := 16409, slot := 1, constantValue := 0 }, { name := "INVALID_REQUEST", type := (.object "com/example/levy/levy/api/ErrorType"), accessFlags := 16409, slot := 2, constantValue := 0 }, { name := "UNAUTHORIZED", type := (.object "com/example/levy/levy/api/ErrorType"), accessFlags := 16409, slot := 3, constantValue := 0 }, { name := "CARD_DECLINED", type := (.object "com/example/levy/levy/api/ErrorType"), accessFlags := 16409, slot := 4, constantValue := 0 }, { name := "SANDBOX_ONLY", type := (.object "com/example/levy/levy/api/ErrorType"), accessFlags := 16409, slot := 5, constantValue := 0 }, { name := "NOT_FOUND", type := (.object "com/example/levy/levy/api/ErrorType"), accessFlags := 16409, slot := 6, constantValue := 0 }, { name := "METHOD_NOT_ALLOWED", type := (.object "com/example/levy/levy/api/ErrorType"), accessFlags := 16409, slot := 7, constantValue := 0 }, { name := "INVALID_STATE", type := (.object "com/example/levy/levy/api/ErrorType"), accessFlags := 16409, slot := 8, constantValue := 0 }, { name := "REQUEST_IN_PROGRESS", type := (.object "com/example/levy/levy/api/ErrorType"), accessFlags := 16409, slot := 9, constantValue := 0 }, { name := "REQUEST_TOO_LARGE", type := (.object "com/example/levy/levy/api/ErrorType"), accessFlags := 16409, slot := 10, constantValue := 0 }, { name := "NO_PROCESSOR", type := (.object "com/example/levy/levy/api/ErrorType"), accessFlags := 16409, slot := 11, constantValue := 0 }, { name := "IDEMPOTENCY_KEY_REUSED", type := (.object "com/example/levy/levy/api/ErrorType"), accessFlags := 16409, slot := 12, constantValue := 0 }, { name := "WEBHOOKS_NOT_CONFIGURED", type := (.object "com/example/levy/levy/api/ErrorType"), accessFlags := 16409, slot := 13, constantValue := 0 }, { name := "INTERNAL_ERROR", type := (.object "com/example/levy/levy/api/ErrorType"), accessFlags := 16409, slot := 14, constantValue := 0 }, { name := "code", type := (.object "java/lang/String"), accessFlags := 18, slot := 3, constantValue := 0 }, { name := "status", type := .int, accessFlags := 18, slot := 4, constantValue := 0 }, { name := "$VALUES", type := (.array (.object "com/example/levy/levy/api/ErrorType")), accessFlags := 4122, slot := 15, constantValue := 0 }]
  methods := #[k7m0]
  instanceTypes := #[(.object "java/lang/String"), .int, .int, (.object "java/lang/String"), .int]
  staticTypes := #[(.object "com/example/levy/levy/api/ErrorType"), (.object "com/example/levy/levy/api/ErrorType"), (.object "com/example/levy/levy/api/ErrorType"), (.object "com/example/levy/levy/api/ErrorType"), (.object "com/example/levy/levy/api/ErrorType"), (.object "com/example/levy/levy/api/ErrorType"), (.object "com/example/levy/levy/api/ErrorType"), (.object "com/example/levy/levy/api/ErrorType"), (.object "com/example/levy/levy/api/ErrorType"), (.object "com/example/levy/levy/api/ErrorType"), (.object "com/example/levy/levy/api/ErrorType"), (.object "com/example/levy/levy/api/ErrorType"), (.object "com/example/levy/levy/api/ErrorType"), (.object "com/example/levy/levy/api/ErrorType"), (.object "com/example/levy/levy/api/ErrorType"), (.array (.object "com/example/levy/levy/api/ErrorType"))]
  resolved := Array.replicate 141 none
  statics := some 0 }

def pool8 : Array CpInfo := pool [(2, .class_ 4), (1, u "java/lang/CharSequence"), (42, .class_ 48), (0, u "java/lang/CharSequence$1CodePointIterator"), (10, .class_ 60), (0, u "java/lang/CharSequence$1CharIterator"), (5, .class_ 67), (0, u "java/lang/Object")] 63

/-- java/lang/CharSequence -/
def k8 : Class := { plain "java/lang/CharSequence" (some 0) with
  accessFlags := 1537
  interfaces := #[]
  cf := some (fileOf pool8 2 #[.nestMembers #[47, 59]] #[] 1537 66 #[] #[])
  fields := #[]
  methods := #[]
  instanceTypes := #[]
  staticTypes := #[]
  resolved := Array.replicate 131 none
  statics := none }

def pool9 : Array CpInfo := pool [(1, .class_ 2), (0, u "java/lang/constant/ConstantDesc"), (0, .class_ 4), (0, u "java/lang/Object")] 32

/-- java/lang/constant/ConstantDesc -/
def k9 : Class := { plain "java/lang/constant/ConstantDesc" (some 0) with
  accessFlags := 1537
  interfaces := #[]
  cf := some (fileOf pool9 1 #[] #[] 1537 3 #[] #[])
  fields := #[]
  methods := #[]
  instanceTypes := #[]
  staticTypes := #[]
  resolved := Array.replicate 37 none
  statics := none }

def pool10 : Array CpInfo := pool [(1, .methodref 2 3), (0, .class_ 4), (0, .nameAndType 5 6), (0, u "java/lang/Object"), (0, u "<init>"), (0, u "()V"), (2, .fieldref 10 11), (0, .class_ 12), (0, .nameAndType 13 14), (0, u "java/lang/String"), (0, u "value"), (0, u "[B"), (0, .fieldref 10 16), (0, .nameAndType 17 18), (0, u "coder"), (0, u "B"), (2, u "hash"), (0, u "I"), (2, u "hashIsZero"), (0, u "Z"), (11, .fieldref 10 39), (0, .nameAndType 40 26), (0, u "COMPACT_STRINGS"), (12, u "toBytes"), (53, .class_ 109), (1, u "java/lang/StringLatin1"), (99, .methodref 10 210), (0, .nameAndType 5 211), (0, u "([BB)V"), (157, u "(C)Z"), (205, .class_ 576), (0, u "java/lang/CharSequence"), (22, u "CASE_INSENSITIVE_ORDER"), (0, u "Ljava/util/Comparator;"), (181, u "valueOf"), (0, u "(C)Ljava/lang/String;"), (231, .methodref 107 1016), (0, .nameAndType 1017 369), (0, u "canEncode"), (0, .methodref 107 1019), (0, .nameAndType 53 1020), (0, u "(C)[B"), (80, u "serialPersistentFields"), (0, u "[Ljava/io/ObjectStreamField;"), (0, .class_ 1104), (0, u "java/lang/String$CaseInsensitiveComparator"), (1, .class_ 1107), (0, u "java/io/Serializable"), (0, .class_ 1109), (0, u "java/lang/Comparable"), (0, .class_ 1111), (0, u "java/lang/constant/Constable"), (0, .class_ 1113), (0, u "java/lang/constant/ConstantDesc"), (2, u "serialVersionUID"), (0, u "J"), (3, u "REPL"), (0, u "C"), (2, u "LATIN1"), (1, u "UTF16")] 323

def k10m0 : Method := { name := "<init>", desc := "()V", sig := { parameters := [], returnType := none }, accessFlags := 1, code := none }
def k10c1 : Code := { maxStack := 4, maxLocals := 1, code := jdk_42_method_139_code, exceptionTable := #[], attributes := #[] }
def k10m1 : Method := { name := "valueOf", desc := "(C)Ljava/lang/String;", sig := { parameters := [.char], returnType := some (.object "java/lang/String") }, accessFlags := 9, code := some k10c1 }
def k10c2 : Code := { maxStack := 2, maxLocals := 3, code := jdk_42_method_151_code, exceptionTable := #[], attributes := #[] }
def k10m2 : Method := { name := "<init>", desc := "([BB)V", sig := { parameters := [(.array .byte), .byte], returnType := none }, accessFlags := 0, code := some k10c2 }
/-- java/lang/String -/
def k10 : Class := { plain "java/lang/String" (some 0) with
  accessFlags := 49
  interfaces := #[5, 4, 8, 3, 9]
  cf := some (fileOf pool10 10 #[.nestMembers #[1103]] #[{ accessFlags := 1, nameIndex := 5, descriptorIndex := 6, attributes := #[] }, { accessFlags := 9, nameIndex := 782, descriptorIndex := 783, attributes := #[] }, { accessFlags := 0, nameIndex := 5, descriptorIndex := 211, attributes := #[] }] 49 2 #[1106, 1108, 575, 1110, 1112] #[{ accessFlags := 18, nameIndex := 13, descriptorIndex := 14, attributes := #[] }, { accessFlags := 18, nameIndex := 17, descriptorIndex := 18, attributes := #[] }, { accessFlags := 2, nameIndex := 21, descriptorIndex := 22, attributes := #[] }, { accessFlags := 2, nameIndex := 25, descriptorIndex := 26, attributes := #[] }, { accessFlags := 26, nameIndex := 1116, descriptorIndex := 1117, attributes := #[] }, { accessFlags := 24, nameIndex := 40, descriptorIndex := 26, attributes := #[] }, { accessFlags := 26, nameIndex := 1101, descriptorIndex := 1102, attributes := #[] }, { accessFlags := 26, nameIndex := 1121, descriptorIndex := 1122, attributes := #[] }, { accessFlags := 25, nameIndex := 599, descriptorIndex := 600, attributes := #[] }, { accessFlags := 24, nameIndex := 1125, descriptorIndex := 18, attributes := #[] }, { accessFlags := 24, nameIndex := 1127, descriptorIndex := 18, attributes := #[] }])
  fields := #[{ name := "value", type := (.array .byte), accessFlags := 18, slot := 0, constantValue := 0 }, { name := "coder", type := .byte, accessFlags := 18, slot := 1, constantValue := 0 }, { name := "hash", type := .int, accessFlags := 2, slot := 2, constantValue := 0 }, { name := "hashIsZero", type := .boolean, accessFlags := 2, slot := 3, constantValue := 0 }, { name := "serialVersionUID", type := .long, accessFlags := 26, slot := 0, constantValue := 0 }, { name := "COMPACT_STRINGS", type := .boolean, accessFlags := 24, slot := 1, constantValue := 0 }, { name := "serialPersistentFields", type := (.array (.object "java/io/ObjectStreamField")), accessFlags := 26, slot := 2, constantValue := 0 }, { name := "REPL", type := .char, accessFlags := 26, slot := 3, constantValue := 0 }, { name := "CASE_INSENSITIVE_ORDER", type := (.object "java/util/Comparator"), accessFlags := 25, slot := 4, constantValue := 0 }, { name := "LATIN1", type := .byte, accessFlags := 24, slot := 5, constantValue := 0 }, { name := "UTF16", type := .byte, accessFlags := 24, slot := 6, constantValue := 0 }]
  methods := #[k10m0, k10m1, k10m2]
  instanceTypes := #[(.array .byte), .byte, .int, .boolean]
  staticTypes := #[.long, .boolean, (.array (.object "java/io/ObjectStreamField")), .char, (.object "java/util/Comparator"), .byte, .byte]
  resolved := Array.replicate 1451 none
  statics := some 1 }

def pool11 : Array CpInfo := pool [(4, .class_ 6), (1, u "java/lang/Object"), (0, u "<init>"), (0, u "()V"), (5, .class_ 16), (1, u "java/lang/StringLatin1"), (73, u "canEncode"), (14, u "(C)Z"), (15, u "$assertionsDisabled"), (0, u "Z"), (98, .class_ 223), (1, u "java/lang/StringLatin1$LinesSpliterator"), (156, u "toBytes"), (1, u "(C)[B"), (7, .class_ 391), (0, u "java/lang/StringLatin1$CharsSpliterator")] 3

def k11m0 : Method := { name := "<init>", desc := "()V", sig := { parameters := [], returnType := none }, accessFlags := 0, code := none }
def k11c1 : Code := { maxStack := 2, maxLocals := 1, code := jdk_43_method_3_code, exceptionTable := #[], attributes := #[] }
def k11m1 : Method := { name := "canEncode", desc := "(C)Z", sig := { parameters := [.char], returnType := some .boolean }, accessFlags := 9, code := some k11c1 }
def k11c2 : Code := { maxStack := 4, maxLocals := 1, code := jdk_43_method_46_code, exceptionTable := #[], attributes := #[] }
def k11m2 : Method := { name := "toBytes", desc := "(C)[B", sig := { parameters := [.char], returnType := some (.array .byte) }, accessFlags := 9, code := some k11c2 }
/-- java/lang/StringLatin1 -/
def k11 : Class := { plain "java/lang/StringLatin1" (some 0) with
  accessFlags := 48
  interfaces := #[]
  cf := some (fileOf pool11 14 #[.nestMembers #[390, 221]] #[{ accessFlags := 0, nameIndex := 7, descriptorIndex := 8, attributes := #[] }, { accessFlags := 9, nameIndex := 90, descriptorIndex := 105, attributes := #[] }, { accessFlags := 9, nameIndex := 380, descriptorIndex := 382, attributes := #[] }] 48 4 #[] #[{ accessFlags := 4120, nameIndex := 121, descriptorIndex := 122, attributes := #[] }])
  fields := #[{ name := "$assertionsDisabled", type := .boolean, accessFlags := 4120, slot := 0, constantValue := 0 }]
  methods := #[k11m0, k11m1, k11m2]
  instanceTypes := #[]
  staticTypes := #[.boolean]
  resolved := Array.replicate 395 none
  statics := none }

def pool12 : Array CpInfo := pool [(8, .class_ 10), (1, u "java/lang/Iterable"), (24, .class_ 36), (0, u "java/lang/Object")] 25

/-- java/lang/Iterable -/
def k12 : Class := { plain "java/lang/Iterable" (some 0) with
  accessFlags := 1537
  interfaces := #[]
  cf := some (fileOf pool12 8 #[] #[] 1537 35 #[] #[])
  fields := #[]
  methods := #[]
  instanceTypes := #[]
  staticTypes := #[]
  resolved := Array.replicate 62 none
  statics := none }

def pool13 : Array CpInfo := pool [(10, .class_ 12), (1, u "java/util/Collection"), (0, u "toArray"), (16, u "()Z"), (29, .class_ 61), (0, u "java/lang/Object"), (0, .class_ 63), (0, u "java/lang/Iterable"), (2, u "isEmpty"), (3, u "()[Ljava/lang/Object;")] 44

def k13m0 : Method := { name := "isEmpty", desc := "()Z", sig := { parameters := [], returnType := some .boolean }, accessFlags := 1025, code := none }
def k13m1 : Method := { name := "toArray", desc := "()[Ljava/lang/Object;", sig := { parameters := [], returnType := some (.array (.object "java/lang/Object")) }, accessFlags := 1025, code := none }
/-- java/util/Collection -/
def k13 : Class := { plain "java/util/Collection" (some 0) with
  accessFlags := 1537
  interfaces := #[12]
  cf := some (fileOf pool13 10 #[] #[{ accessFlags := 1025, nameIndex := 66, descriptorIndex := 30, attributes := #[] }, { accessFlags := 1025, nameIndex := 13, descriptorIndex := 70, attributes := #[] }] 1537 60 #[62] #[])
  fields := #[]
  methods := #[k13m0, k13m1]
  instanceTypes := #[]
  staticTypes := #[]
  resolved := Array.replicate 115 none
  statics := none }

def pool14 : Array CpInfo := pool [(1, .methodref 2 3), (0, .class_ 4), (0, .nameAndType 5 6), (0, u "java/lang/Object"), (0, u "<init>"), (0, u "()V"), (1, .class_ 10), (1, u "java/util/AbstractCollection"), (66, .class_ 78), (0, u "java/util/Collection")] 81

def k14c0 : Code := { maxStack := 1, maxLocals := 1, code := jdk_22_method_1_code, exceptionTable := #[], attributes := #[] }
def k14m0 : Method := { name := "<init>", desc := "()V", sig := { parameters := [], returnType := none }, accessFlags := 4, code := some k14c0 }
/-- java/util/AbstractCollection -/
def k14 : Class := { plain "java/util/AbstractCollection" (some 0) with
  accessFlags := 1057
  interfaces := #[13]
  cf := some (fileOf pool14 8 #[] #[{ accessFlags := 4, nameIndex := 5, descriptorIndex := 6, attributes := #[] }] 1057 2 #[77] #[])
  fields := #[]
  methods := #[k14m0]
  instanceTypes := #[]
  staticTypes := #[]
  resolved := Array.replicate 160 none
  statics := none }

def pool15 : Array CpInfo := pool [(8, .class_ 10), (1, u "java/util/SequencedCollection"), (15, .class_ 27), (0, u "java/lang/Object"), (0, .class_ 29), (0, u "java/util/Collection")] 27

/-- java/util/SequencedCollection -/
def k15 : Class := { plain "java/util/SequencedCollection" (some 0) with
  accessFlags := 1537
  interfaces := #[13]
  cf := some (fileOf pool15 8 #[] #[] 1537 26 #[28] #[])
  fields := #[]
  methods := #[]
  instanceTypes := #[]
  staticTypes := #[]
  resolved := Array.replicate 57 none
  statics := none }

def pool16 : Array CpInfo := pool [(8, .class_ 10), (1, u "java/util/List"), (20, u "(Ljava/lang/Object;)V"), (16, u "<init>"), (26, u "get"), (0, u "(I)Ljava/lang/Object;"), (11, u "of"), (2, .class_ 93), (1, u "java/util/ImmutableCollections"), (2, .class_ 97), (0, u "java/util/ImmutableCollections$List12"), (0, .methodref 96 99), (0, .nameAndType 48 31), (0, .methodref 96 101), (0, .nameAndType 48 102), (0, u "(Ljava/lang/Object;Ljava/lang/Object;)V"), (0, .class_ 104), (0, u "java/lang/Object"), (3, u "([Ljava/lang/Object;)Ljava/util/List;"), (0, .methodref 91 110), (0, .nameAndType 111 108), (0, u "listFromArray"), (0, .methodref 91 113), (0, .nameAndType 114 115), (0, u "listCopy"), (0, u "(Ljava/util/Collection;)Ljava/util/List;"), (4, .class_ 121), (0, u "java/util/SequencedCollection"), (112, u "copyOf")] 16

def k16m0 : Method := { name := "get", desc := "(I)Ljava/lang/Object;", sig := { parameters := [.int], returnType := some (.object "java/lang/Object") }, accessFlags := 1025, code := none }
def k16c1 : Code := { maxStack := 5, maxLocals := 2, code := jdk_40_method_47_code, exceptionTable := #[], attributes := #[] }
def k16m1 : Method := { name := "of", desc := "([Ljava/lang/Object;)Ljava/util/List;", sig := { parameters := [(.array (.object "java/lang/Object"))], returnType := some (.object "java/util/List") }, accessFlags := 137, code := some k16c1 }
def k16c2 : Code := { maxStack := 1, maxLocals := 1, code := jdk_40_method_48_code, exceptionTable := #[], attributes := #[] }
def k16m2 : Method := { name := "copyOf", desc := "(Ljava/util/Collection;)Ljava/util/List;", sig := { parameters := [(.object "java/util/Collection")], returnType := some (.object "java/util/List") }, accessFlags := 9, code := some k16c2 }
/-- java/util/List -/
def k16 : Class := { plain "java/util/List" (some 0) with
  accessFlags := 1537
  interfaces := #[15]
  cf := some (fileOf pool16 8 #[] #[{ accessFlags := 1025, nameIndex := 75, descriptorIndex := 76, attributes := #[] }, { accessFlags := 137, nameIndex := 88, descriptorIndex := 108, attributes := #[] }, { accessFlags := 9, nameIndex := 234, descriptorIndex := 115, attributes := #[] }] 1537 103 #[120] #[])
  fields := #[]
  methods := #[k16m0, k16m1, k16m2]
  instanceTypes := #[]
  staticTypes := #[]
  resolved := Array.replicate 251 none
  statics := none }

def pool17 : Array CpInfo := pool [(1, .methodref 2 3), (0, .class_ 4), (0, .nameAndType 5 6), (0, u "java/util/AbstractCollection"), (0, u "<init>"), (0, u "()V"), (0, .fieldref 8 9), (0, .class_ 10), (0, .nameAndType 11 12), (0, u "java/util/AbstractList"), (0, u "modCount"), (0, u "I"), (64, .class_ 78), (0, u "java/util/AbstractList$Itr"), (3, .class_ 83), (0, u "java/util/AbstractList$ListItr"), (9, .class_ 94), (0, u "java/util/AbstractList$RandomAccessSubList"), (3, .class_ 99), (0, u "java/util/AbstractList$SubList"), (33, .class_ 134), (0, u "java/util/List"), (73, .class_ 209), (0, u "java/util/AbstractList$SubList$1"), (0, .class_ 211), (0, u "java/util/AbstractList$RandomAccessSpliterator")] 6

def k17c0 : Code := { maxStack := 2, maxLocals := 1, code := jdk_39_method_1_code, exceptionTable := #[], attributes := #[] }
def k17m0 : Method := { name := "<init>", desc := "()V", sig := { parameters := [], returnType := none }, accessFlags := 4, code := some k17c0 }
/-- java/util/AbstractList -/
def k17 : Class := { plain "java/util/AbstractList" (some 14) with
  accessFlags := 1057
  interfaces := #[16]
  cf := some (fileOf pool17 8 #[.nestMembers #[93, 98, 208, 210, 82, 77]] #[{ accessFlags := 4, nameIndex := 5, descriptorIndex := 6, attributes := #[] }] 1057 2 #[133] #[{ accessFlags := 132, nameIndex := 11, descriptorIndex := 12, attributes := #[] }])
  fields := #[{ name := "modCount", type := .int, accessFlags := 132, slot := 0, constantValue := 0 }]
  methods := #[k17m0]
  instanceTypes := #[.int]
  staticTypes := #[]
  resolved := Array.replicate 218 none
  statics := none }

def pool18 : Array CpInfo := pool [(1, .class_ 2), (0, u "java/util/RandomAccess"), (0, .class_ 4), (0, u "java/lang/Object")] 2

/-- java/util/RandomAccess -/
def k18 : Class := { plain "java/util/RandomAccess" (some 0) with
  accessFlags := 1537
  interfaces := #[]
  cf := some (fileOf pool18 1 #[] #[] 1537 3 #[] #[])
  fields := #[]
  methods := #[]
  instanceTypes := #[]
  staticTypes := #[]
  resolved := Array.replicate 7 none
  statics := none }

def pool19 : Array CpInfo := pool [(1, .class_ 2), (0, u "java/lang/Cloneable"), (0, .class_ 4), (0, u "java/lang/Object")] 2

/-- java/lang/Cloneable -/
def k19 : Class := { plain "java/lang/Cloneable" (some 0) with
  accessFlags := 1537
  interfaces := #[]
  cf := some (fileOf pool19 1 #[] #[] 1537 3 #[] #[])
  fields := #[]
  methods := #[]
  instanceTypes := #[]
  staticTypes := #[]
  resolved := Array.replicate 7 none
  statics := none }

def pool20 : Array CpInfo := pool [(1, .methodref 2 3), (0, .class_ 4), (0, .nameAndType 5 6), (0, u "java/util/AbstractList"), (0, u "<init>"), (0, u "()V"), (0, .class_ 8), (0, u "java/lang/Object"), (0, .fieldref 10 11), (0, .class_ 12), (0, .nameAndType 13 14), (0, u "java/util/ArrayList"), (0, u "elementData"), (0, u "[Ljava/lang/Object;"), (2, u "EMPTY_ELEMENTDATA"), (21, .fieldref 10 40), (0, .nameAndType 41 14), (0, u "DEFAULTCAPACITY_EMPTY_ELEMENTDATA"), (4, u "toArray"), (0, u "()[Ljava/lang/Object;"), (0, .fieldref 10 49), (0, .nameAndType 50 51), (0, u "size"), (0, u "I"), (6, .class_ 60), (1, u "java/util/Arrays"), (0, u "copyOf"), (1, .fieldref 10 64), (0, .nameAndType 65 51), (0, u "modCount"), (0, .methodref 58 67), (0, .nameAndType 61 68), (0, u "([Ljava/lang/Object;I)[Ljava/lang/Object;"), (0, .methodref 10 70), (0, .nameAndType 71 72), (0, u "grow"), (0, u "(I)[Ljava/lang/Object;"), (6, .methodref 80 81), (0, .class_ 82), (0, .nameAndType 83 84), (0, u "java/lang/Math"), (0, u "max"), (0, u "(II)I"), (11, u "(Ljava/lang/Object;)Z"), (21, .methodref 119 120), (0, .class_ 121), (0, .nameAndType 122 84), (0, u "java/util/Objects"), (0, u "checkIndex"), (0, .methodref 10 124), (0, .nameAndType 13 125), (0, u "(I)Ljava/lang/Object;"), (3, .methodref 10 130), (0, .nameAndType 71 47), (0, .methodref 10 132), (0, .nameAndType 133 134), (0, u "add"), (0, u "(Ljava/lang/Object;[Ljava/lang/Object;I)V"), (13, .class_ 149), (0, u "java/util/List"), (23, u "()Z"), (88, .class_ 263), (0, u "java/util/ArrayList$ListItr"), (3, .class_ 268), (0, u "java/util/ArrayList$Itr"), (7, .class_ 277), (0, u "java/util/ArrayList$SubList"), (12, .class_ 291), (0, u "java/util/ArrayList$ArrayListSpliterator"), (37, .class_ 330), (0, u "java/util/RandomAccess"), (0, .class_ 332), (0, u "java/lang/Cloneable"), (0, .class_ 334), (0, u "java/io/Serializable"), (0, u "serialVersionUID"), (0, u "J"), (3, u "DEFAULT_CAPACITY"), (22, u "isEmpty"), (17, u "get"), (118, .class_ 501), (0, u "java/util/ArrayList$SubList$2"), (0, .class_ 503), (0, u "java/util/ArrayList$SubList$1")] 5

def k20c0 : Code := { maxStack := 2, maxLocals := 1, code := jdk_38_method_2_code, exceptionTable := #[], attributes := #[] }
def k20m0 : Method := { name := "<init>", desc := "()V", sig := { parameters := [], returnType := none }, accessFlags := 1, code := some k20c0 }
def k20c1 : Code := { maxStack := 4, maxLocals := 4, code := jdk_38_method_6_code, exceptionTable := #[], attributes := #[] }
def k20m1 : Method := { name := "grow", desc := "(I)[Ljava/lang/Object;", sig := { parameters := [.int], returnType := some (.array (.object "java/lang/Object")) }, accessFlags := 2, code := some k20c1 }
def k20c2 : Code := { maxStack := 3, maxLocals := 1, code := jdk_38_method_7_code, exceptionTable := #[], attributes := #[] }
def k20m2 : Method := { name := "grow", desc := "()[Ljava/lang/Object;", sig := { parameters := [], returnType := some (.array (.object "java/lang/Object")) }, accessFlags := 2, code := some k20c2 }
def k20c3 : Code := { maxStack := 1, maxLocals := 1, code := jdk_38_method_9_code, exceptionTable := #[], attributes := #[] }
def k20m3 : Method := { name := "isEmpty", desc := "()Z", sig := { parameters := [], returnType := some .boolean }, accessFlags := 1, code := some k20c3 }
def k20c4 : Code := { maxStack := 2, maxLocals := 1, code := jdk_38_method_16_code, exceptionTable := #[], attributes := #[] }
def k20m4 : Method := { name := "toArray", desc := "()[Ljava/lang/Object;", sig := { parameters := [], returnType := some (.array (.object "java/lang/Object")) }, accessFlags := 1, code := some k20c4 }
def k20c5 : Code := { maxStack := 2, maxLocals := 2, code := jdk_38_method_18_code, exceptionTable := #[], attributes := #[] }
def k20m5 : Method := { name := "elementData", desc := "(I)Ljava/lang/Object;", sig := { parameters := [.int], returnType := some (.object "java/lang/Object") }, accessFlags := 0, code := some k20c5 }
def k20c6 : Code := { maxStack := 2, maxLocals := 2, code := jdk_38_method_20_code, exceptionTable := #[], attributes := #[] }
def k20m6 : Method := { name := "get", desc := "(I)Ljava/lang/Object;", sig := { parameters := [.int], returnType := some (.object "java/lang/Object") }, accessFlags := 1, code := some k20c6 }
def k20c7 : Code := { maxStack := 3, maxLocals := 4, code := jdk_38_method_24_code, exceptionTable := #[], attributes := #[] }
def k20m7 : Method := { name := "add", desc := "(Ljava/lang/Object;[Ljava/lang/Object;I)V", sig := { parameters := [(.object "java/lang/Object"), (.array (.object "java/lang/Object")), .int], returnType := none }, accessFlags := 2, code := some k20c7 }
def k20c8 : Code := { maxStack := 4, maxLocals := 2, code := jdk_38_method_25_code, exceptionTable := #[], attributes := #[] }
def k20m8 : Method := { name := "add", desc := "(Ljava/lang/Object;)Z", sig := { parameters := [(.object "java/lang/Object")], returnType := some .boolean }, accessFlags := 1, code := some k20c8 }
/-- java/util/ArrayList -/
def k20 : Class := { plain "java/util/ArrayList" (some 17) with
  accessFlags := 33
  interfaces := #[16, 18, 19, 5]
  cf := some (fileOf pool20 10 #[.nestMembers #[290, 276, 500, 502, 262, 267]] #[{ accessFlags := 1, nameIndex := 5, descriptorIndex := 6, attributes := #[] }, { accessFlags := 2, nameIndex := 71, descriptorIndex := 72, attributes := #[] }, { accessFlags := 2, nameIndex := 71, descriptorIndex := 47, attributes := #[] }, { accessFlags := 1, nameIndex := 363, descriptorIndex := 173, attributes := #[] }, { accessFlags := 1, nameIndex := 46, descriptorIndex := 47, attributes := #[] }, { accessFlags := 0, nameIndex := 13, descriptorIndex := 125, attributes := #[] }, { accessFlags := 1, nameIndex := 381, descriptorIndex := 125, attributes := #[] }, { accessFlags := 2, nameIndex := 133, descriptorIndex := 134, attributes := #[] }, { accessFlags := 1, nameIndex := 133, descriptorIndex := 96, attributes := #[] }] 33 2 #[148, 329, 331, 333] #[{ accessFlags := 26, nameIndex := 335, descriptorIndex := 336, attributes := #[] }, { accessFlags := 26, nameIndex := 340, descriptorIndex := 51, attributes := #[] }, { accessFlags := 26, nameIndex := 17, descriptorIndex := 14, attributes := #[] }, { accessFlags := 26, nameIndex := 41, descriptorIndex := 14, attributes := #[] }, { accessFlags := 128, nameIndex := 13, descriptorIndex := 14, attributes := #[] }, { accessFlags := 2, nameIndex := 50, descriptorIndex := 51, attributes := #[] }])
  fields := #[{ name := "serialVersionUID", type := .long, accessFlags := 26, slot := 0, constantValue := 0 }, { name := "DEFAULT_CAPACITY", type := .int, accessFlags := 26, slot := 1, constantValue := 0 }, { name := "EMPTY_ELEMENTDATA", type := (.array (.object "java/lang/Object")), accessFlags := 26, slot := 2, constantValue := 0 }, { name := "DEFAULTCAPACITY_EMPTY_ELEMENTDATA", type := (.array (.object "java/lang/Object")), accessFlags := 26, slot := 3, constantValue := 0 }, { name := "elementData", type := (.array (.object "java/lang/Object")), accessFlags := 128, slot := 1, constantValue := 0 }, { name := "size", type := .int, accessFlags := 2, slot := 2, constantValue := 0 }]
  methods := #[k20m0, k20m1, k20m2, k20m3, k20m4, k20m5, k20m6, k20m7, k20m8]
  instanceTypes := #[.int, (.array (.object "java/lang/Object")), .int]
  staticTypes := #[.long, .int, (.array (.object "java/lang/Object")), (.array (.object "java/lang/Object"))]
  resolved := Array.replicate 509 none
  statics := some 2 }

def pool21 : Array CpInfo := pool [(1, .class_ 2), (0, u "java/lang/Math"), (1, .class_ 6), (1, u "java/lang/Object"), (0, u "<init>"), (0, u "()V"), (89, .class_ 100), (1, u "java/lang/Math$RandomNumberGeneratorHolder"), (71, u "negativeZeroFloatBits"), (0, u "J"), (2, u "negativeZeroDoubleBits"), (21, u "max"), (2, u "min"), (43, u "$assertionsDisabled"), (0, u "Z"), (88, u "(II)I"), (2, u "twoToTheDoubleScaleDown"), (0, u "D"), (4, u "twoToTheDoubleScaleUp"), (9, u "E"), (3, u "PI"), (2, u "TAU"), (2, u "DEGREES_TO_RADIANS"), (0, u "RADIANS_TO_DEGREES")] 94

def k21m0 : Method := { name := "<init>", desc := "()V", sig := { parameters := [], returnType := none }, accessFlags := 2, code := none }
def k21c1 : Code := { maxStack := 2, maxLocals := 2, code := jdk_29_method_65_code, exceptionTable := #[], attributes := #[] }
def k21m1 : Method := { name := "max", desc := "(II)I", sig := { parameters := [.int, .int], returnType := some .int }, accessFlags := 9, code := some k21c1 }
def k21c2 : Code := { maxStack := 2, maxLocals := 2, code := jdk_29_method_69_code, exceptionTable := #[], attributes := #[] }
def k21m2 : Method := { name := "min", desc := "(II)I", sig := { parameters := [.int, .int], returnType := some .int }, accessFlags := 9, code := some k21c2 }
/-- java/lang/Math -/
def k21 : Class := { plain "java/lang/Math" (some 0) with
  accessFlags := 49
  interfaces := #[]
  cf := some (fileOf pool21 1 #[.nestMembers #[98]] #[{ accessFlags := 2, nameIndex := 7, descriptorIndex := 8, attributes := #[] }, { accessFlags := 9, nameIndex := 198, descriptorIndex := 335, attributes := #[] }, { accessFlags := 9, nameIndex := 201, descriptorIndex := 335, attributes := #[] }] 49 4 #[] #[{ accessFlags := 25, nameIndex := 354, descriptorIndex := 339, attributes := #[] }, { accessFlags := 25, nameIndex := 358, descriptorIndex := 339, attributes := #[] }, { accessFlags := 25, nameIndex := 361, descriptorIndex := 339, attributes := #[] }, { accessFlags := 26, nameIndex := 364, descriptorIndex := 339, attributes := #[] }, { accessFlags := 26, nameIndex := 365, descriptorIndex := 339, attributes := #[] }, { accessFlags := 26, nameIndex := 172, descriptorIndex := 173, attributes := #[] }, { accessFlags := 26, nameIndex := 176, descriptorIndex := 173, attributes := #[] }, { accessFlags := 8, nameIndex := 344, descriptorIndex := 339, attributes := #[] }, { accessFlags := 8, nameIndex := 338, descriptorIndex := 339, attributes := #[] }, { accessFlags := 4120, nameIndex := 245, descriptorIndex := 246, attributes := #[] }])
  fields := #[{ name := "E", type := .double, accessFlags := 25, slot := 0, constantValue := 0 }, { name := "PI", type := .double, accessFlags := 25, slot := 1, constantValue := 0 }, { name := "TAU", type := .double, accessFlags := 25, slot := 2, constantValue := 0 }, { name := "DEGREES_TO_RADIANS", type := .double, accessFlags := 26, slot := 3, constantValue := 0 }, { name := "RADIANS_TO_DEGREES", type := .double, accessFlags := 26, slot := 4, constantValue := 0 }, { name := "negativeZeroFloatBits", type := .long, accessFlags := 26, slot := 5, constantValue := 0 }, { name := "negativeZeroDoubleBits", type := .long, accessFlags := 26, slot := 6, constantValue := 0 }, { name := "twoToTheDoubleScaleUp", type := .double, accessFlags := 8, slot := 7, constantValue := 0 }, { name := "twoToTheDoubleScaleDown", type := .double, accessFlags := 8, slot := 8, constantValue := 0 }, { name := "$assertionsDisabled", type := .boolean, accessFlags := 4120, slot := 9, constantValue := 0 }]
  methods := #[k21m0, k21m1, k21m2]
  instanceTypes := #[]
  staticTypes := #[.double, .double, .double, .double, .double, .long, .long, .double, .double, .boolean]
  resolved := Array.replicate 460 none
  statics := none }

def pool22 : Array CpInfo := pool [(1, .methodref 2 3), (0, .class_ 4), (0, .nameAndType 5 6), (0, u "java/lang/Object"), (0, u "<init>"), (0, u "()V"), (0, .fieldref 8 9), (0, .class_ 10), (0, .nameAndType 11 12), (0, u "java/lang/Throwable"), (0, u "cause"), (0, u "Ljava/lang/Throwable;"), (0, .fieldref 8 14), (0, .nameAndType 15 16), (0, u "UNASSIGNED_STACK"), (0, u "[Ljava/lang/StackTraceElement;"), (0, .fieldref 8 18), (0, .nameAndType 19 16), (0, u "stackTrace"), (0, .fieldref 8 21), (0, .nameAndType 22 23), (0, u "SUPPRESSED_SENTINEL"), (0, u "Ljava/util/List;"), (0, .fieldref 8 25), (0, .nameAndType 26 23), (0, u "suppressedExceptions"), (0, .methodref 8 28), (0, .nameAndType 29 30), (0, u "fillInStackTrace"), (0, u "()Ljava/lang/Throwable;"), (0, .fieldref 8 32), (0, .nameAndType 33 34), (0, u "detailMessage"), (0, u "Ljava/lang/String;"), (58, .class_ 94), (0, u "java/lang/Throwable$WrappedPrintStream"), (6, .class_ 103), (1, u "java/lang/Throwable$PrintStreamOrWriter"), (61, u "$assertionsDisabled"), (0, u "Z"), (26, .class_ 194), (0, u "java/lang/Throwable$WrappedPrintWriter"), (3, .fieldref 8 199), (0, .nameAndType 200 201), (0, u "backtrace"), (0, u "Ljava/lang/Object;"), (0, .methodref 8 203), (0, .nameAndType 29 204), (0, u "(I)Ljava/lang/Throwable;"), (6, u "depth"), (0, u "I"), (10, u "(Ljava/lang/String;)V"), (45, .class_ 271), (1, u "java/lang/Throwable$SentinelHolder"), (32, u "EMPTY_THROWABLE_ARRAY"), (0, u "[Ljava/lang/Throwable;"), (12, .class_ 319), (0, u "java/io/Serializable"), (0, u "serialVersionUID"), (0, u "J"), (5, u "NULL_CAUSE_MESSAGE"), (0, u "SELF_SUPPRESSION_MESSAGE"), (0, u "CAUSE_CAPTION"), (0, u "SUPPRESSED_CAPTION")] 73

def k22c0 : Code := { maxStack := 2, maxLocals := 1, code := jdk_78_method_1_code, exceptionTable := #[], attributes := #[] }
def k22m0 : Method := { name := "<init>", desc := "()V", sig := { parameters := [], returnType := none }, accessFlags := 1, code := some k22c0 }
def k22c1 : Code := { maxStack := 2, maxLocals := 2, code := jdk_78_method_2_code, exceptionTable := #[], attributes := #[] }
def k22m1 : Method := { name := "<init>", desc := "(Ljava/lang/String;)V", sig := { parameters := [(.object "java/lang/String")], returnType := none }, accessFlags := 1, code := some k22c1 }
def k22c2 : Code := { maxStack := 2, maxLocals := 1, code := ⟨#[0x2a, 0xb4, 0x00, 0x11, 0xc7, 0x00, 0x0a, 0x2a, 0xb4, 0x00, 0xc6, 0xc6, 0x00, 0x10, 0x2a, 0x03, 0xb6, 0x00, 0xca, 0x57, 0x2a, 0xb2, 0x00, 0x0d, 0xb5, 0x00, 0x11, 0x2a, 0xb0]⟩, exceptionTable := #[], attributes := #[] }
def k22m2 : Method := { name := "fillInStackTrace", desc := "()Ljava/lang/Throwable;", sig := { parameters := [], returnType := some (.object "java/lang/Throwable") }, accessFlags := 33, code := some k22c2 }
def k22m3 : Method := { name := "fillInStackTrace", desc := "(I)Ljava/lang/Throwable;", sig := { parameters := [.int], returnType := some (.object "java/lang/Throwable") }, accessFlags := 258, code := none }
/-- java/lang/Throwable -/
def k22 : Class := { plain "java/lang/Throwable" (some 0) with
  accessFlags := 33
  interfaces := #[5]
  cf := some (fileOf pool22 8 #[.nestMembers #[193, 93, 101, 269]] #[{ accessFlags := 1, nameIndex := 5, descriptorIndex := 6, attributes := #[] }, { accessFlags := 1, nameIndex := 5, descriptorIndex := 223, attributes := #[] }, { accessFlags := 33, nameIndex := 29, descriptorIndex := 30, attributes := #[] }, { accessFlags := 258, nameIndex := 29, descriptorIndex := 204, attributes := #[] }] 33 2 #[318] #[{ accessFlags := 26, nameIndex := 320, descriptorIndex := 321, attributes := #[] }, { accessFlags := 130, nameIndex := 200, descriptorIndex := 201, attributes := #[] }, { accessFlags := 2, nameIndex := 33, descriptorIndex := 34, attributes := #[] }, { accessFlags := 26, nameIndex := 15, descriptorIndex := 16, attributes := #[] }, { accessFlags := 2, nameIndex := 11, descriptorIndex := 12, attributes := #[] }, { accessFlags := 2, nameIndex := 19, descriptorIndex := 16, attributes := #[] }, { accessFlags := 130, nameIndex := 211, descriptorIndex := 212, attributes := #[] }, { accessFlags := 26, nameIndex := 22, descriptorIndex := 23, attributes := #[] }, { accessFlags := 2, nameIndex := 26, descriptorIndex := 23, attributes := #[] }, { accessFlags := 26, nameIndex := 327, descriptorIndex := 34, attributes := #[] }, { accessFlags := 26, nameIndex := 328, descriptorIndex := 34, attributes := #[] }, { accessFlags := 26, nameIndex := 329, descriptorIndex := 34, attributes := #[] }, { accessFlags := 26, nameIndex := 330, descriptorIndex := 34, attributes := #[] }, { accessFlags := 26, nameIndex := 304, descriptorIndex := 305, attributes := #[] }, { accessFlags := 4120, nameIndex := 165, descriptorIndex := 166, attributes := #[] }])
  fields := #[{ name := "serialVersionUID", type := .long, accessFlags := 26, slot := 0, constantValue := 0 }, { name := "backtrace", type := (.object "java/lang/Object"), accessFlags := 130, slot := 0, constantValue := 0 }, { name := "detailMessage", type := (.object "java/lang/String"), accessFlags := 2, slot := 1, constantValue := 0 }, { name := "UNASSIGNED_STACK", type := (.array (.object "java/lang/StackTraceElement")), accessFlags := 26, slot := 1, constantValue := 0 }, { name := "cause", type := (.object "java/lang/Throwable"), accessFlags := 2, slot := 2, constantValue := 0 }, { name := "stackTrace", type := (.array (.object "java/lang/StackTraceElement")), accessFlags := 2, slot := 3, constantValue := 0 }, { name := "depth", type := .int, accessFlags := 130, slot := 4, constantValue := 0 }, { name := "SUPPRESSED_SENTINEL", type := (.object "java/util/List"), accessFlags := 26, slot := 2, constantValue := 0 }, { name := "suppressedExceptions", type := (.object "java/util/List"), accessFlags := 2, slot := 5, constantValue := 0 }, { name := "NULL_CAUSE_MESSAGE", type := (.object "java/lang/String"), accessFlags := 26, slot := 3, constantValue := 0 }, { name := "SELF_SUPPRESSION_MESSAGE", type := (.object "java/lang/String"), accessFlags := 26, slot := 4, constantValue := 0 }, { name := "CAUSE_CAPTION", type := (.object "java/lang/String"), accessFlags := 26, slot := 5, constantValue := 0 }, { name := "SUPPRESSED_CAPTION", type := (.object "java/lang/String"), accessFlags := 26, slot := 6, constantValue := 0 }, { name := "EMPTY_THROWABLE_ARRAY", type := (.array (.object "java/lang/Throwable")), accessFlags := 26, slot := 7, constantValue := 0 }, { name := "$assertionsDisabled", type := .boolean, accessFlags := 4120, slot := 8, constantValue := 0 }]
  methods := #[k22m0, k22m1, k22m2, k22m3]
  instanceTypes := #[(.object "java/lang/Object"), (.object "java/lang/String"), (.object "java/lang/Throwable"), (.array (.object "java/lang/StackTraceElement")), .int, (.object "java/util/List")]
  staticTypes := #[.long, (.array (.object "java/lang/StackTraceElement")), (.object "java/util/List"), (.object "java/lang/String"), (.object "java/lang/String"), (.object "java/lang/String"), (.object "java/lang/String"), (.array (.object "java/lang/Throwable")), .boolean]
  resolved := Array.replicate 404 none
  statics := some 3 }

def pool23 : Array CpInfo := pool [(2, .class_ 4), (1, u "java/lang/Throwable"), (0, u "<init>"), (0, u "()V"), (0, .methodref 2 8), (0, .nameAndType 5 9), (0, u "(Ljava/lang/String;)V"), (9, .class_ 20), (0, u "java/lang/Exception"), (0, u "serialVersionUID"), (0, u "J")] 17

def k23m0 : Method := { name := "<init>", desc := "()V", sig := { parameters := [], returnType := none }, accessFlags := 1, code := none }
def k23c1 : Code := { maxStack := 2, maxLocals := 2, code := jdk_59_method_2_code, exceptionTable := #[], attributes := #[] }
def k23m1 : Method := { name := "<init>", desc := "(Ljava/lang/String;)V", sig := { parameters := [(.object "java/lang/String")], returnType := none }, accessFlags := 1, code := some k23c1 }
/-- java/lang/Exception -/
def k23 : Class := { plain "java/lang/Exception" (some 22) with
  accessFlags := 33
  interfaces := #[]
  cf := some (fileOf pool23 19 #[] #[{ accessFlags := 1, nameIndex := 5, descriptorIndex := 6, attributes := #[] }, { accessFlags := 1, nameIndex := 5, descriptorIndex := 9, attributes := #[] }] 33 2 #[] #[{ accessFlags := 24, nameIndex := 21, descriptorIndex := 22, attributes := #[] }])
  fields := #[{ name := "serialVersionUID", type := .long, accessFlags := 24, slot := 0, constantValue := 0 }]
  methods := #[k23m0, k23m1]
  instanceTypes := #[(.object "java/lang/Object"), (.object "java/lang/String"), (.object "java/lang/Throwable"), (.array (.object "java/lang/StackTraceElement")), .int, (.object "java/util/List")]
  staticTypes := #[.long]
  resolved := Array.replicate 40 none
  statics := none }

def pool24 : Array CpInfo := pool [(2, .class_ 4), (1, u "java/lang/Exception"), (0, u "<init>"), (0, u "()V"), (0, .methodref 2 8), (0, .nameAndType 5 9), (0, u "(Ljava/lang/String;)V"), (9, .class_ 20), (0, u "java/lang/RuntimeException"), (0, u "serialVersionUID"), (0, u "J")] 17

def k24m0 : Method := { name := "<init>", desc := "()V", sig := { parameters := [], returnType := none }, accessFlags := 1, code := none }
def k24c1 : Code := { maxStack := 2, maxLocals := 2, code := jdk_58_method_2_code, exceptionTable := #[], attributes := #[] }
def k24m1 : Method := { name := "<init>", desc := "(Ljava/lang/String;)V", sig := { parameters := [(.object "java/lang/String")], returnType := none }, accessFlags := 1, code := some k24c1 }
/-- java/lang/RuntimeException -/
def k24 : Class := { plain "java/lang/RuntimeException" (some 23) with
  accessFlags := 33
  interfaces := #[]
  cf := some (fileOf pool24 19 #[] #[{ accessFlags := 1, nameIndex := 5, descriptorIndex := 6, attributes := #[] }, { accessFlags := 1, nameIndex := 5, descriptorIndex := 9, attributes := #[] }] 33 2 #[] #[{ accessFlags := 24, nameIndex := 21, descriptorIndex := 22, attributes := #[] }])
  fields := #[{ name := "serialVersionUID", type := .long, accessFlags := 24, slot := 0, constantValue := 0 }]
  methods := #[k24m0, k24m1]
  instanceTypes := #[(.object "java/lang/Object"), (.object "java/lang/String"), (.object "java/lang/Throwable"), (.array (.object "java/lang/StackTraceElement")), .int, (.object "java/util/List")]
  staticTypes := #[.long]
  resolved := Array.replicate 40 none
  statics := none }

def pool25 : Array CpInfo := pool [(1, .interfaceMethodref 2 3), (0, .class_ 4), (0, .nameAndType 5 6), (0, u "java/util/List"), (0, u "get"), (0, u "(I)Ljava/lang/Object;"), (0, .class_ 8), (0, u "com/example/levy/levy/api/ApiError"), (0, .methodref 7 10), (0, .nameAndType 11 12), (0, u "message"), (0, u "()Ljava/lang/String;"), (0, .methodref 14 15), (0, .class_ 16), (0, .nameAndType 17 18), (0, u "java/lang/RuntimeException"), (0, u "<init>"), (0, u "(Ljava/lang/String;)V"), (0, .interfaceMethodref 2 20), (0, .nameAndType 21 22), (0, u "copyOf"), (0, u "(Ljava/util/Collection;)Ljava/util/List;"), (0, .fieldref 24 25), (0, .class_ 26), (0, .nameAndType 27 28), (0, u "com/example/levy/levy/api/ApiException"), (0, u "errors"), (0, u "Ljava/util/List;"), (9, u "(Ljava/util/List;)V"), (1, .class_ 42), (1, u "com/example/levy/levy/api/ErrorType"), (8, .methodref 7 52), (0, .nameAndType 53 54), (0, u "type"), (0, u "()Lcom/example/levy/levy/api/ErrorType;"), (0, .methodref 40 56), (0, .nameAndType 57 58), (0, u "status"), (0, u "()I"), (0, u "serialVersionUID"), (0, u "J")] 16

def k25c0 : Code := { maxStack := 3, maxLocals := 2, code := prog_2_method_1_code, exceptionTable := #[], attributes := #[] }
def k25m0 : Method := { name := "<init>", desc := "(Ljava/util/List;)V", sig := { parameters := [(.object "java/util/List")], returnType := none }, accessFlags := 1, code := some k25c0 }
def k25c1 : Code := { maxStack := 2, maxLocals := 1, code := prog_2_method_6_code, exceptionTable := #[], attributes := #[] }
def k25m1 : Method := { name := "status", desc := "()I", sig := { parameters := [], returnType := some .int }, accessFlags := 1, code := some k25c1 }
/-- com/example/levy/levy/api/ApiException -/
def k25 : Class := { plain "com/example/levy/levy/api/ApiException" (some 24) with
  accessFlags := 49
  interfaces := #[]
  cf := some (fileOf pool25 24 #[] #[{ accessFlags := 1, nameIndex := 17, descriptorIndex := 38, attributes := #[] }, { accessFlags := 1, nameIndex := 57, descriptorIndex := 58, attributes := #[] }] 49 14 #[] #[{ accessFlags := 26, nameIndex := 59, descriptorIndex := 60, attributes := #[] }, { accessFlags := 146, nameIndex := 27, descriptorIndex := 28, attributes := #[] }])
  fields := #[{ name := "serialVersionUID", type := .long, accessFlags := 26, slot := 0, constantValue := 0 }, { name := "errors", type := (.object "java/util/List"), accessFlags := 146, slot := 6, constantValue := 0 }]
  methods := #[k25m0, k25m1]
  instanceTypes := #[(.object "java/lang/Object"), (.object "java/lang/String"), (.object "java/lang/Throwable"), (.array (.object "java/lang/StackTraceElement")), .int, (.object "java/util/List"), (.object "java/util/List")]
  staticTypes := #[.long]
  resolved := Array.replicate 77 none
  statics := none }

def pool26 : Array CpInfo := pool [(2, .class_ 4), (1, u "java/lang/Object"), (0, u "<init>"), (0, u "()V"), (35, .class_ 44), (1, u "java/util/Objects"), (0, u "requireNonNull"), (0, u "(Ljava/lang/Object;)Ljava/lang/Object;"), (58, .methodref 106 107), (0, .class_ 108), (0, .nameAndType 109 110), (0, u "jdk/internal/util/Preconditions"), (0, u "checkIndex"), (0, u "(IILjava/util/function/BiFunction;)I"), (60, u "(II)I")] 12

def k26m0 : Method := { name := "<init>", desc := "()V", sig := { parameters := [], returnType := none }, accessFlags := 2, code := none }
def k26c1 : Code := { maxStack := 2, maxLocals := 1, code := jdk_31_method_10_code, exceptionTable := #[], attributes := #[] }
def k26m1 : Method := { name := "requireNonNull", desc := "(Ljava/lang/Object;)Ljava/lang/Object;", sig := { parameters := [(.object "java/lang/Object")], returnType := some (.object "java/lang/Object") }, accessFlags := 9, code := some k26c1 }
def k26c2 : Code := { maxStack := 3, maxLocals := 2, code := jdk_31_method_17_code, exceptionTable := #[], attributes := #[] }
def k26m2 : Method := { name := "checkIndex", desc := "(II)I", sig := { parameters := [.int, .int], returnType := some .int }, accessFlags := 9, code := some k26c2 }
/-- java/util/Objects -/
def k26 : Class := { plain "java/util/Objects" (some 0) with
  accessFlags := 49
  interfaces := #[]
  cf := some (fileOf pool26 42 #[] #[{ accessFlags := 2, nameIndex := 5, descriptorIndex := 6, attributes := #[] }, { accessFlags := 9, nameIndex := 45, descriptorIndex := 46, attributes := #[] }, { accessFlags := 9, nameIndex := 109, descriptorIndex := 171, attributes := #[] }] 49 2 #[] #[])
  fields := #[]
  methods := #[k26m0, k26m1, k26m2]
  instanceTypes := #[]
  staticTypes := #[]
  resolved := Array.replicate 184 none
  statics := none }

def pool27 : Array CpInfo := pool [(2, .class_ 4), (1, u "java/lang/Object"), (0, u "<init>"), (0, u "()V"), (17, .class_ 26), (1, u "jdk/internal/util/Preconditions"), (6, u "checkIndex"), (21, .class_ 56), (0, u "jdk/internal/util/Preconditions$4"), (57, .class_ 115), (0, u "jdk/internal/util/Preconditions$1"), (7, u "SIOOBE_FORMATTER"), (0, u "Ljava/util/function/BiFunction;"), (0, .class_ 126), (0, u "jdk/internal/util/Preconditions$2"), (3, u "AIOOBE_FORMATTER"), (0, .class_ 132), (0, u "jdk/internal/util/Preconditions$3"), (3, u "IOOBE_FORMATTER"), (41, u "(IILjava/util/function/BiFunction;)I")] 15

def k27m0 : Method := { name := "<init>", desc := "()V", sig := { parameters := [], returnType := none }, accessFlags := 1, code := none }
def k27c1 : Code := { maxStack := 3, maxLocals := 3, code := jdk_41_method_11_code, exceptionTable := #[], attributes := #[] }
def k27m1 : Method := { name := "checkIndex", desc := "(IILjava/util/function/BiFunction;)I", sig := { parameters := [.int, .int, (.object "java/util/function/BiFunction")], returnType := some .int }, accessFlags := 9, code := some k27c1 }
/-- jdk/internal/util/Preconditions -/
def k27 : Class := { plain "jdk/internal/util/Preconditions" (some 0) with
  accessFlags := 33
  interfaces := #[]
  cf := some (fileOf pool27 24 #[.nestMembers #[55, 131, 125, 114]] #[{ accessFlags := 1, nameIndex := 5, descriptorIndex := 6, attributes := #[] }, { accessFlags := 9, nameIndex := 33, descriptorIndex := 178, attributes := #[] }] 33 2 #[] #[{ accessFlags := 25, nameIndex := 123, descriptorIndex := 124, attributes := #[] }, { accessFlags := 25, nameIndex := 130, descriptorIndex := 124, attributes := #[] }, { accessFlags := 25, nameIndex := 136, descriptorIndex := 124, attributes := #[] }])
  fields := #[{ name := "SIOOBE_FORMATTER", type := (.object "java/util/function/BiFunction"), accessFlags := 25, slot := 0, constantValue := 0 }, { name := "AIOOBE_FORMATTER", type := (.object "java/util/function/BiFunction"), accessFlags := 25, slot := 1, constantValue := 0 }, { name := "IOOBE_FORMATTER", type := (.object "java/util/function/BiFunction"), accessFlags := 25, slot := 2, constantValue := 0 }]
  methods := #[k27m0, k27m1]
  instanceTypes := #[]
  staticTypes := #[(.object "java/util/function/BiFunction"), (.object "java/util/function/BiFunction"), (.object "java/util/function/BiFunction")]
  resolved := Array.replicate 194 none
  statics := some 4 }

def pool28 : Array CpInfo := pool [(2, .class_ 4), (1, u "java/lang/Object"), (0, u "<init>"), (0, u "()V"), (3, .class_ 11), (0, u "java/util/ImmutableCollections$List12"), (0, .class_ 13), (0, u "java/util/ImmutableCollections$ListN"), (3, u "Z"), (0, .class_ 19), (0, u "java/util/List"), (0, .interfaceMethodref 21 22), (0, .class_ 23), (0, .nameAndType 24 25), (0, u "java/util/Collection"), (0, u "isEmpty"), (0, u "()Z"), (2, u "of"), (1, .interfaceMethodref 21 31), (0, .nameAndType 32 33), (0, u "toArray"), (0, u "()[Ljava/lang/Object;"), (0, .interfaceMethodref 18 35), (0, .nameAndType 28 36), (0, u "([Ljava/lang/Object;)Ljava/util/List;"), (0, .methodref 38 39), (0, .class_ 40), (0, .nameAndType 41 42), (0, u "java/util/Objects"), (0, u "requireNonNull"), (0, u "(Ljava/lang/Object;)Ljava/lang/Object;"), (0, .methodref 12 44), (0, .nameAndType 5 45), (0, u "([Ljava/lang/Object;Z)V"), (1, .class_ 49), (1, u "java/util/ImmutableCollections"), (0, u "$assertionsDisabled"), (5, u "[Ljava/lang/Object;"), (5, u "EMPTY_LIST"), (0, u "Ljava/util/ImmutableCollections$ListN;"), (8, u "EMPTY_LIST_NULLS"), (22, u "SALT32L"), (0, u "J"), (2, u "REVERSE"), (6, u "archivedObjects"), (2, u "EMPTY"), (0, u "Ljava/lang/Object;"), (0, .class_ 112), (0, u "java/util/ImmutableCollections$SetN"), (5, u "EMPTY_SET"), (0, u "Ljava/util/ImmutableCollections$SetN;"), (0, .class_ 121), (0, u "java/util/ImmutableCollections$MapN"), (3, u "EMPTY_MAP"), (0, u "Ljava/util/ImmutableCollections$MapN;"), (4, u "EXPAND_FACTOR"), (0, u "I"), (9, u "listCopy"), (0, u "(Ljava/util/Collection;)Ljava/util/List;"), (7, u "listFromArray"), (17, .class_ 170), (0, u "java/util/ImmutableCollections$MapN$MapNIterator"), (0, .class_ 172), (0, u "java/util/ImmutableCollections$MapN$1"), (0, .class_ 174), (0, u "java/util/ImmutableCollections$Map1"), (0, .class_ 176), (0, u "java/util/ImmutableCollections$AbstractImmutableMap"), (0, .class_ 178), (0, u "java/util/ImmutableCollections$SetN$SetNIterator"), (0, .class_ 180), (0, u "java/util/ImmutableCollections$Set12"), (0, .class_ 182), (0, u "java/util/ImmutableCollections$Set12$1"), (0, .class_ 184), (0, u "java/util/ImmutableCollections$AbstractImmutableSet"), (0, .class_ 186), (0, u "java/util/ImmutableCollections$SubList"), (0, .class_ 188), (0, u "java/util/ImmutableCollections$ListItr"), (0, .class_ 190), (0, u "java/util/ImmutableCollections$AbstractImmutableList"), (0, .class_ 192), (0, u "java/util/ImmutableCollections$AbstractImmutableCollection"), (0, .class_ 194), (0, u "java/util/ImmutableCollections$Access"), (0, .class_ 196), (0, u "java/util/ImmutableCollections$Access$1")] 16

def k28m0 : Method := { name := "<init>", desc := "()V", sig := { parameters := [], returnType := none }, accessFlags := 2, code := none }
def k28c1 : Code := { maxStack := 1, maxLocals := 2, code := jdk_56_method_3_code, exceptionTable := #[], attributes := #[] }
def k28m1 : Method := { name := "listCopy", desc := "(Ljava/util/Collection;)Ljava/util/List;", sig := { parameters := [(.object "java/util/Collection")], returnType := some (.object "java/util/List") }, accessFlags := 8, code := some k28c1 }
def k28c2 : Code := { maxStack := 4, maxLocals := 3, code := jdk_56_method_4_code, exceptionTable := #[], attributes := #[] }
def k28m2 : Method := { name := "listFromArray", desc := "([Ljava/lang/Object;)Ljava/util/List;", sig := { parameters := [(.array (.object "java/lang/Object"))], returnType := some (.object "java/util/List") }, accessFlags := 136, code := some k28c2 }
/-- java/util/ImmutableCollections -/
def k28 : Class := { plain "java/util/ImmutableCollections" (some 0) with
  accessFlags := 32
  interfaces := #[]
  cf := some (fileOf pool28 47 #[.nestMembers #[120, 169, 171, 173, 175, 111, 177, 179, 181, 183, 12, 10, 185, 187, 189, 191, 193, 195]] #[{ accessFlags := 2, nameIndex := 5, descriptorIndex := 6, attributes := #[] }, { accessFlags := 8, nameIndex := 142, descriptorIndex := 143, attributes := #[] }, { accessFlags := 136, nameIndex := 151, descriptorIndex := 36, attributes := #[] }] 32 2 #[] #[{ accessFlags := 26, nameIndex := 95, descriptorIndex := 96, attributes := #[] }, { accessFlags := 26, nameIndex := 99, descriptorIndex := 17, attributes := #[] }, { accessFlags := 10, nameIndex := 106, descriptorIndex := 56, attributes := #[] }, { accessFlags := 26, nameIndex := 109, descriptorIndex := 110, attributes := #[] }, { accessFlags := 24, nameIndex := 62, descriptorIndex := 63, attributes := #[] }, { accessFlags := 24, nameIndex := 72, descriptorIndex := 63, attributes := #[] }, { accessFlags := 24, nameIndex := 118, descriptorIndex := 119, attributes := #[] }, { accessFlags := 24, nameIndex := 125, descriptorIndex := 126, attributes := #[] }, { accessFlags := 24, nameIndex := 131, descriptorIndex := 132, attributes := #[] }, { accessFlags := 4120, nameIndex := 50, descriptorIndex := 17, attributes := #[] }])
  fields := #[{ name := "SALT32L", type := .long, accessFlags := 26, slot := 0, constantValue := 0 }, { name := "REVERSE", type := .boolean, accessFlags := 26, slot := 1, constantValue := 0 }, { name := "archivedObjects", type := (.array (.object "java/lang/Object")), accessFlags := 10, slot := 2, constantValue := 0 }, { name := "EMPTY", type := (.object "java/lang/Object"), accessFlags := 26, slot := 3, constantValue := 0 }, { name := "EMPTY_LIST", type := (.object "java/util/ImmutableCollections$ListN"), accessFlags := 24, slot := 4, constantValue := 0 }, { name := "EMPTY_LIST_NULLS", type := (.object "java/util/ImmutableCollections$ListN"), accessFlags := 24, slot := 5, constantValue := 0 }, { name := "EMPTY_SET", type := (.object "java/util/ImmutableCollections$SetN"), accessFlags := 24, slot := 6, constantValue := 0 }, { name := "EMPTY_MAP", type := (.object "java/util/ImmutableCollections$MapN"), accessFlags := 24, slot := 7, constantValue := 0 }, { name := "EXPAND_FACTOR", type := .int, accessFlags := 24, slot := 8, constantValue := 0 }, { name := "$assertionsDisabled", type := .boolean, accessFlags := 4120, slot := 9, constantValue := 0 }]
  methods := #[k28m0, k28m1, k28m2]
  instanceTypes := #[]
  staticTypes := #[.long, .boolean, (.array (.object "java/lang/Object")), (.object "java/lang/Object"), (.object "java/util/ImmutableCollections$ListN"), (.object "java/util/ImmutableCollections$ListN"), (.object "java/util/ImmutableCollections$SetN"), (.object "java/util/ImmutableCollections$MapN"), .int, .boolean]
  resolved := Array.replicate 213 none
  statics := some 5 }

def pool29 : Array CpInfo := pool [(1, .methodref 2 3), (0, .class_ 4), (0, .nameAndType 5 6), (0, u "java/util/AbstractCollection"), (0, u "<init>"), (0, u "()V"), (1, .class_ 10), (1, u "java/util/ImmutableCollections"), (2, .class_ 14), (0, u "java/util/ImmutableCollections$AbstractImmutableCollection")] 41

def k29c0 : Code := { maxStack := 1, maxLocals := 1, code := jdk_47_method_1_code, exceptionTable := #[], attributes := #[] }
def k29m0 : Method := { name := "<init>", desc := "()V", sig := { parameters := [], returnType := none }, accessFlags := 0, code := some k29c0 }
/-- java/util/ImmutableCollections$AbstractImmutableCollection -/
def k29 : Class := { plain "java/util/ImmutableCollections$AbstractImmutableCollection" (some 14) with
  accessFlags := 1056
  interfaces := #[]
  cf := some (fileOf pool29 13 #[.nestHost 8] #[{ accessFlags := 0, nameIndex := 5, descriptorIndex := 6, attributes := #[] }] 1056 2 #[] #[])
  fields := #[]
  methods := #[k29m0]
  instanceTypes := #[]
  staticTypes := #[]
  resolved := Array.replicate 56 none
  statics := none }

def pool30 : Array CpInfo := pool [(1, .methodref 2 3), (0, .class_ 4), (0, .nameAndType 5 6), (0, u "java/util/ImmutableCollections$AbstractImmutableCollection"), (0, u "<init>"), (0, u "()V"), (1, .class_ 10), (1, u "java/util/ImmutableCollections"), (3, .class_ 16), (1, u "java/util/ImmutableCollections$AbstractImmutableList"), (60, .class_ 78), (0, u "java/util/List"), (45, .class_ 125), (0, u "java/util/RandomAccess")] 70

def k30c0 : Code := { maxStack := 1, maxLocals := 1, code := jdk_46_method_1_code, exceptionTable := #[], attributes := #[] }
def k30m0 : Method := { name := "<init>", desc := "()V", sig := { parameters := [], returnType := none }, accessFlags := 0, code := some k30c0 }
/-- java/util/ImmutableCollections$AbstractImmutableList -/
def k30 : Class := { plain "java/util/ImmutableCollections$AbstractImmutableList" (some 29) with
  accessFlags := 1056
  interfaces := #[16, 18]
  cf := some (fileOf pool30 14 #[.nestHost 8] #[{ accessFlags := 0, nameIndex := 5, descriptorIndex := 6, attributes := #[] }] 1056 2 #[77, 124] #[])
  fields := #[]
  methods := #[k30m0]
  instanceTypes := #[]
  staticTypes := #[]
  resolved := Array.replicate 196 none
  statics := none }

def pool31 : Array CpInfo := pool [(1, .methodref 2 3), (0, .class_ 4), (0, .nameAndType 5 6), (0, u "java/util/ImmutableCollections$AbstractImmutableList"), (0, u "<init>"), (0, u "()V"), (0, .methodref 8 9), (0, .class_ 10), (0, .nameAndType 11 12), (0, u "java/util/Objects"), (0, u "requireNonNull"), (0, u "(Ljava/lang/Object;)Ljava/lang/Object;"), (0, .fieldref 14 15), (0, .class_ 16), (0, .nameAndType 17 18), (0, u "java/util/ImmutableCollections$List12"), (0, u "e0"), (0, u "Ljava/lang/Object;"), (0, .fieldref 20 21), (0, .class_ 22), (0, .nameAndType 23 18), (0, u "java/util/ImmutableCollections"), (0, u "EMPTY"), (0, .fieldref 14 25), (0, .nameAndType 26 18), (0, u "e1"), (43, .class_ 71), (0, u "java/io/Serializable"), (4, u "(Ljava/lang/Object;)V"), (8, u "(Ljava/lang/Object;Ljava/lang/Object;)V"), (4, u "get"), (0, u "(I)Ljava/lang/Object;")] 33

def k31c0 : Code := { maxStack := 2, maxLocals := 2, code := jdk_44_method_1_code, exceptionTable := #[], attributes := #[] }
def k31m0 : Method := { name := "<init>", desc := "(Ljava/lang/Object;)V", sig := { parameters := [(.object "java/lang/Object")], returnType := none }, accessFlags := 0, code := some k31c0 }
def k31c1 : Code := { maxStack := 2, maxLocals := 3, code := jdk_44_method_2_code, exceptionTable := #[], attributes := #[] }
def k31m1 : Method := { name := "<init>", desc := "(Ljava/lang/Object;Ljava/lang/Object;)V", sig := { parameters := [(.object "java/lang/Object"), (.object "java/lang/Object")], returnType := none }, accessFlags := 0, code := some k31c1 }
def k31c2 : Code := { maxStack := 2, maxLocals := 2, code := jdk_44_method_5_code, exceptionTable := #[], attributes := #[] }
def k31m2 : Method := { name := "get", desc := "(I)Ljava/lang/Object;", sig := { parameters := [.int], returnType := some (.object "java/lang/Object") }, accessFlags := 1, code := some k31c2 }
/-- java/util/ImmutableCollections$List12 -/
def k31 : Class := { plain "java/util/ImmutableCollections$List12" (some 30) with
  accessFlags := 48
  interfaces := #[5]
  cf := some (fileOf pool31 14 #[.nestHost 20] #[{ accessFlags := 0, nameIndex := 5, descriptorIndex := 76, attributes := #[] }, { accessFlags := 0, nameIndex := 5, descriptorIndex := 85, attributes := #[] }, { accessFlags := 1, nameIndex := 90, descriptorIndex := 91, attributes := #[] }] 48 2 #[70] #[{ accessFlags := 18, nameIndex := 17, descriptorIndex := 18, attributes := #[] }, { accessFlags := 18, nameIndex := 26, descriptorIndex := 18, attributes := #[] }])
  fields := #[{ name := "e0", type := (.object "java/lang/Object"), accessFlags := 18, slot := 0, constantValue := 0 }, { name := "e1", type := (.object "java/lang/Object"), accessFlags := 18, slot := 1, constantValue := 0 }]
  methods := #[k31m0, k31m1, k31m2]
  instanceTypes := #[(.object "java/lang/Object"), (.object "java/lang/Object")]
  staticTypes := #[]
  resolved := Array.replicate 125 none
  statics := none }

def pool32 : Array CpInfo := pool [(1, .methodref 2 3), (0, .class_ 4), (0, .nameAndType 5 6), (0, u "java/util/ImmutableCollections$AbstractImmutableList"), (0, u "<init>"), (0, u "()V"), (0, .fieldref 8 9), (0, .class_ 10), (0, .nameAndType 11 12), (0, u "java/util/ImmutableCollections$ListN"), (0, u "elements"), (0, u "[Ljava/lang/Object;"), (0, .fieldref 8 14), (0, .nameAndType 15 16), (0, u "allowNulls"), (0, u "Z"), (42, .class_ 60), (0, u "java/io/Serializable"), (4, u "([Ljava/lang/Object;Z)V"), (13, u "get"), (0, u "(I)Ljava/lang/Object;"), (33, .class_ 115), (0, u "java/util/ImmutableCollections")] 3

def k32c0 : Code := { maxStack := 2, maxLocals := 3, code := jdk_45_method_1_code, exceptionTable := #[], attributes := #[] }
def k32m0 : Method := { name := "<init>", desc := "([Ljava/lang/Object;Z)V", sig := { parameters := [(.array (.object "java/lang/Object")), .boolean], returnType := none }, accessFlags := 2, code := some k32c0 }
def k32c1 : Code := { maxStack := 2, maxLocals := 2, code := jdk_45_method_4_code, exceptionTable := #[], attributes := #[] }
def k32m1 : Method := { name := "get", desc := "(I)Ljava/lang/Object;", sig := { parameters := [.int], returnType := some (.object "java/lang/Object") }, accessFlags := 1, code := some k32c1 }
/-- java/util/ImmutableCollections$ListN -/
def k32 : Class := { plain "java/util/ImmutableCollections$ListN" (some 30) with
  accessFlags := 48
  interfaces := #[5]
  cf := some (fileOf pool32 8 #[.nestHost 114] #[{ accessFlags := 2, nameIndex := 5, descriptorIndex := 65, attributes := #[] }, { accessFlags := 1, nameIndex := 79, descriptorIndex := 80, attributes := #[] }] 48 2 #[59] #[{ accessFlags := 18, nameIndex := 11, descriptorIndex := 12, attributes := #[] }, { accessFlags := 18, nameIndex := 15, descriptorIndex := 16, attributes := #[] }])
  fields := #[{ name := "elements", type := (.array (.object "java/lang/Object")), accessFlags := 18, slot := 0, constantValue := 0 }, { name := "allowNulls", type := .boolean, accessFlags := 18, slot := 1, constantValue := 0 }]
  methods := #[k32m0, k32m1]
  instanceTypes := #[(.array (.object "java/lang/Object")), .boolean]
  staticTypes := #[]
  resolved := Array.replicate 119 none
  statics := none }

def pool33 : Array CpInfo := pool [(2, .class_ 4), (1, u "java/lang/Object"), (0, u "<init>"), (0, u "()V"), (7, .class_ 16), (1, u "java/util/Arrays"), (57, .class_ 76), (1, u "java/util/Arrays$NaturalOrder"), (9, .methodref 2 87), (0, .nameAndType 88 89), (0, u "getClass"), (0, u "()Ljava/lang/Class;"), (20, .class_ 111), (0, u "[Ljava/lang/Object;"), (1, .class_ 115), (1, u "java/util/Arrays$LegacyMergeSort"), (1, u "Z"), (32, .methodref 151 152), (0, .class_ 153), (0, .nameAndType 154 155), (0, u "java/lang/System"), (0, u "arraycopy"), (0, u "(Ljava/lang/Object;ILjava/lang/Object;II)V"), (144, .methodref 14 301), (0, .nameAndType 302 303), (0, u "copyOf"), (0, u "([Ljava/lang/Object;ILjava/lang/Class;)[Ljava/lang/Object;"), (0, .methodref 305 306), (0, .class_ 307), (0, .nameAndType 308 309), (0, u "java/lang/Math"), (0, u "min"), (0, u "(II)I"), (65, .class_ 376), (0, u "java/util/Arrays$ArrayList"), (68, u "$assertionsDisabled"), (269, u "MIN_ARRAY_SORT_GRAN"), (0, u "I"), (2, u "INSERTIONSORT_THRESHOLD"), (140, u "([Ljava/lang/Object;I)[Ljava/lang/Object;"), (114, .class_ 976), (0, u "java/util/Arrays$ArrayItr")] 52

def k33m0 : Method := { name := "<init>", desc := "()V", sig := { parameters := [], returnType := none }, accessFlags := 2, code := none }
def k33c1 : Code := { maxStack := 3, maxLocals := 2, code := jdk_65_method_119_code, exceptionTable := #[], attributes := #[] }
def k33m1 : Method := { name := "copyOf", desc := "([Ljava/lang/Object;I)[Ljava/lang/Object;", sig := { parameters := [(.array (.object "java/lang/Object")), .int], returnType := some (.array (.object "java/lang/Object")) }, accessFlags := 9, code := some k33c1 }
def k33c2 : Code := { maxStack := 6, maxLocals := 4, code := jdk_65_method_120_code, exceptionTable := #[], attributes := #[] }
def k33m2 : Method := { name := "copyOf", desc := "([Ljava/lang/Object;ILjava/lang/Class;)[Ljava/lang/Object;", sig := { parameters := [(.array (.object "java/lang/Object")), .int, (.object "java/lang/Class")], returnType := some (.array (.object "java/lang/Object")) }, accessFlags := 9, code := some k33c2 }
/-- java/util/Arrays -/
def k33 : Class := { plain "java/util/Arrays" (some 0) with
  accessFlags := 49
  interfaces := #[]
  cf := some (fileOf pool33 14 #[.nestMembers #[975, 375, 113, 74]] #[{ accessFlags := 2, nameIndex := 5, descriptorIndex := 6, attributes := #[] }, { accessFlags := 9, nameIndex := 302, descriptorIndex := 860, attributes := #[] }, { accessFlags := 9, nameIndex := 302, descriptorIndex := 303, attributes := #[] }] 49 2 #[] #[{ accessFlags := 26, nameIndex := 715, descriptorIndex := 716, attributes := #[] }, { accessFlags := 26, nameIndex := 719, descriptorIndex := 716, attributes := #[] }, { accessFlags := 4120, nameIndex := 445, descriptorIndex := 117, attributes := #[] }])
  fields := #[{ name := "MIN_ARRAY_SORT_GRAN", type := .int, accessFlags := 26, slot := 0, constantValue := 0 }, { name := "INSERTIONSORT_THRESHOLD", type := .int, accessFlags := 26, slot := 1, constantValue := 0 }, { name := "$assertionsDisabled", type := .boolean, accessFlags := 4120, slot := 2, constantValue := 0 }]
  methods := #[k33m0, k33m1, k33m2]
  instanceTypes := #[]
  staticTypes := #[.int, .int, .boolean]
  resolved := Array.replicate 1029 none
  statics := none }

def pool34 : Array CpInfo := pool [(2, .class_ 4), (1, u "java/lang/Object"), (0, u "<init>"), (0, u "()V"), (1, .class_ 10), (1, u "java/lang/System"), (0, u "allowSecurityManager"), (0, u "I"), (16, u "cons"), (0, u "Ljava/io/Console;"), (77, .class_ 110), (1, u "java/lang/System$CallersHolder"), (43, u "initialErrStream"), (0, u "Ljava/io/PrintStream;"), (19, u "security"), (0, u "Ljava/lang/SecurityManager;"), (31, .class_ 209), (0, u "java/lang/System$1"), (7, u "props"), (0, u "Ljava/util/Properties;"), (2, u "lineSeparator"), (0, u "Ljava/lang/String;"), (96, .class_ 321), (1, u "java/lang/System$LoggerFinder"), (5, .class_ 328), (0, u "java/lang/System$Logger"), (67, u "err"), (2, u "out"), (91, u "notSupportedJnuEncoding"), (15, u "in"), (17, u "initialIn"), (0, u "Ljava/io/InputStream;"), (35, u "bootLayer"), (0, u "Ljava/lang/ModuleLayer;"), (99, .class_ 664), (0, u "java/lang/System$2"), (9, u "NEVER"), (2, u "MAYBE"), (49, u "arraycopy"), (0, u "(Ljava/lang/Object;ILjava/lang/Object;II)V"), (72, .class_ 802), (0, u "java/lang/System$Logger$Level")] 31

def k34m0 : Method := { name := "<init>", desc := "()V", sig := { parameters := [], returnType := none }, accessFlags := 2, code := none }
def k34m1 : Method := { name := "arraycopy", desc := "(Ljava/lang/Object;ILjava/lang/Object;II)V", sig := { parameters := [(.object "java/lang/Object"), .int, (.object "java/lang/Object"), .int, .int], returnType := none }, accessFlags := 265, code := none }
/-- java/lang/System -/
def k34 : Class := { plain "java/lang/System" (some 0) with
  accessFlags := 49
  interfaces := #[]
  cf := some (fileOf pool34 8 #[.nestMembers #[319, 327, 801, 108, 663, 208]] #[{ accessFlags := 2, nameIndex := 5, descriptorIndex := 6, attributes := #[] }, { accessFlags := 265, nameIndex := 727, descriptorIndex := 728, attributes := #[] }] 49 2 #[] #[{ accessFlags := 25, nameIndex := 507, descriptorIndex := 526, attributes := #[] }, { accessFlags := 25, nameIndex := 399, descriptorIndex := 155, attributes := #[] }, { accessFlags := 25, nameIndex := 396, descriptorIndex := 155, attributes := #[] }, { accessFlags := 10, nameIndex := 525, descriptorIndex := 526, attributes := #[] }, { accessFlags := 26, nameIndex := 674, descriptorIndex := 12, attributes := #[] }, { accessFlags := 26, nameIndex := 677, descriptorIndex := 12, attributes := #[] }, { accessFlags := 10, nameIndex := 11, descriptorIndex := 12, attributes := #[] }, { accessFlags := 74, nameIndex := 175, descriptorIndex := 176, attributes := #[] }, { accessFlags := 10, nameIndex := 491, descriptorIndex := 222, attributes := #[] }, { accessFlags := 74, nameIndex := 29, descriptorIndex := 30, attributes := #[] }, { accessFlags := 74, nameIndex := 154, descriptorIndex := 155, attributes := #[] }, { accessFlags := 10, nameIndex := 217, descriptorIndex := 218, attributes := #[] }, { accessFlags := 10, nameIndex := 221, descriptorIndex := 222, attributes := #[] }, { accessFlags := 8, nameIndex := 562, descriptorIndex := 563, attributes := #[] }])
  fields := #[{ name := "in", type := (.object "java/io/InputStream"), accessFlags := 25, slot := 0, constantValue := 0 }, { name := "out", type := (.object "java/io/PrintStream"), accessFlags := 25, slot := 1, constantValue := 0 }, { name := "err", type := (.object "java/io/PrintStream"), accessFlags := 25, slot := 2, constantValue := 0 }, { name := "initialIn", type := (.object "java/io/InputStream"), accessFlags := 10, slot := 3, constantValue := 0 }, { name := "NEVER", type := .int, accessFlags := 26, slot := 4, constantValue := 0 }, { name := "MAYBE", type := .int, accessFlags := 26, slot := 5, constantValue := 0 }, { name := "allowSecurityManager", type := .int, accessFlags := 10, slot := 6, constantValue := 0 }, { name := "security", type := (.object "java/lang/SecurityManager"), accessFlags := 74, slot := 7, constantValue := 0 }, { name := "notSupportedJnuEncoding", type := (.object "java/lang/String"), accessFlags := 10, slot := 8, constantValue := 0 }, { name := "cons", type := (.object "java/io/Console"), accessFlags := 74, slot := 9, constantValue := 0 }, { name := "initialErrStream", type := (.object "java/io/PrintStream"), accessFlags := 74, slot := 10, constantValue := 0 }, { name := "props", type := (.object "java/util/Properties"), accessFlags := 10, slot := 11, constantValue := 0 }, { name := "lineSeparator", type := (.object "java/lang/String"), accessFlags := 10, slot := 12, constantValue := 0 }, { name := "bootLayer", type := (.object "java/lang/ModuleLayer"), accessFlags := 8, slot := 13, constantValue := 0 }]
  methods := #[k34m0, k34m1]
  instanceTypes := #[]
  staticTypes := #[(.object "java/io/InputStream"), (.object "java/io/PrintStream"), (.object "java/io/PrintStream"), (.object "java/io/InputStream"), .int, .int, .int, (.object "java/lang/SecurityManager"), (.object "java/lang/String"), (.object "java/io/Console"), (.object "java/io/PrintStream"), (.object "java/util/Properties"), (.object "java/lang/String"), (.object "java/lang/ModuleLayer")]
  resolved := Array.replicate 834 none
  statics := none }

def pool35 : Array CpInfo := pool [(9, u "<init>"), (6, .class_ 18), (1, u "java/lang/Object"), (0, u "()V"), (1, .class_ 23), (1, u "jdk/internal/util/ArraysSupport"), (0, u "LOG2_ARRAY_LONG_INDEX_SCALE"), (0, u "I"), (2, u "U"), (0, u "Ljdk/internal/misc/Unsafe;"), (8, u "BIG_ENDIAN"), (0, u "Z"), (8, u "LOG2_BYTE_BIT_SIZE"), (4, u "LOG2_ARRAY_INT_INDEX_SCALE"), (54, u "JLA"), (0, u "Ljdk/internal/access/JavaLangAccess;"), (11, u "LOG2_ARRAY_BOOLEAN_INDEX_SCALE"), (9, u "LOG2_ARRAY_BYTE_INDEX_SCALE"), (5, u "LOG2_ARRAY_CHAR_INDEX_SCALE"), (5, u "LOG2_ARRAY_SHORT_INDEX_SCALE"), (18, u "LOG2_ARRAY_FLOAT_INDEX_SCALE"), (24, u "LOG2_ARRAY_DOUBLE_INDEX_SCALE"), (89, u "T_BOOLEAN"), (2, u "T_CHAR"), (1, u "T_FLOAT"), (1, u "T_DOUBLE"), (1, u "T_BYTE"), (1, u "T_SHORT"), (1, u "T_INT"), (1, u "T_LONG"), (1, u "SOFT_MAX_ARRAY_LENGTH")] 83

def k35m0 : Method := { name := "<init>", desc := "()V", sig := { parameters := [], returnType := none }, accessFlags := 2, code := none }
/-- jdk/internal/util/ArraysSupport -/
def k35 : Class := { plain "jdk/internal/util/ArraysSupport" (some 0) with
  accessFlags := 33
  interfaces := #[]
  cf := some (fileOf pool35 21 #[] #[{ accessFlags := 2, nameIndex := 9, descriptorIndex := 19, attributes := #[] }] 33 16 #[] #[{ accessFlags := 24, nameIndex := 28, descriptorIndex := 29, attributes := #[] }, { accessFlags := 26, nameIndex := 38, descriptorIndex := 39, attributes := #[] }, { accessFlags := 25, nameIndex := 121, descriptorIndex := 25, attributes := #[] }, { accessFlags := 25, nameIndex := 131, descriptorIndex := 25, attributes := #[] }, { accessFlags := 25, nameIndex := 137, descriptorIndex := 25, attributes := #[] }, { accessFlags := 25, nameIndex := 143, descriptorIndex := 25, attributes := #[] }, { accessFlags := 25, nameIndex := 53, descriptorIndex := 25, attributes := #[] }, { accessFlags := 25, nameIndex := 24, descriptorIndex := 25, attributes := #[] }, { accessFlags := 25, nameIndex := 162, descriptorIndex := 25, attributes := #[] }, { accessFlags := 25, nameIndex := 187, descriptorIndex := 25, attributes := #[] }, { accessFlags := 26, nameIndex := 48, descriptorIndex := 25, attributes := #[] }, { accessFlags := 25, nameIndex := 277, descriptorIndex := 25, attributes := #[] }, { accessFlags := 25, nameIndex := 280, descriptorIndex := 25, attributes := #[] }, { accessFlags := 25, nameIndex := 282, descriptorIndex := 25, attributes := #[] }, { accessFlags := 25, nameIndex := 284, descriptorIndex := 25, attributes := #[] }, { accessFlags := 25, nameIndex := 286, descriptorIndex := 25, attributes := #[] }, { accessFlags := 25, nameIndex := 288, descriptorIndex := 25, attributes := #[] }, { accessFlags := 25, nameIndex := 290, descriptorIndex := 25, attributes := #[] }, { accessFlags := 25, nameIndex := 292, descriptorIndex := 25, attributes := #[] }, { accessFlags := 26, nameIndex := 108, descriptorIndex := 109, attributes := #[] }, { accessFlags := 25, nameIndex := 294, descriptorIndex := 25, attributes := #[] }])
  fields := #[{ name := "U", type := (.object "jdk/internal/misc/Unsafe"), accessFlags := 24, slot := 0, constantValue := 0 }, { name := "BIG_ENDIAN", type := .boolean, accessFlags := 26, slot := 1, constantValue := 0 }, { name := "LOG2_ARRAY_BOOLEAN_INDEX_SCALE", type := .int, accessFlags := 25, slot := 2, constantValue := 0 }, { name := "LOG2_ARRAY_BYTE_INDEX_SCALE", type := .int, accessFlags := 25, slot := 3, constantValue := 0 }, { name := "LOG2_ARRAY_CHAR_INDEX_SCALE", type := .int, accessFlags := 25, slot := 4, constantValue := 0 }, { name := "LOG2_ARRAY_SHORT_INDEX_SCALE", type := .int, accessFlags := 25, slot := 5, constantValue := 0 }, { name := "LOG2_ARRAY_INT_INDEX_SCALE", type := .int, accessFlags := 25, slot := 6, constantValue := 0 }, { name := "LOG2_ARRAY_LONG_INDEX_SCALE", type := .int, accessFlags := 25, slot := 7, constantValue := 0 }, { name := "LOG2_ARRAY_FLOAT_INDEX_SCALE", type := .int, accessFlags := 25, slot := 8, constantValue := 0 }, { name := "LOG2_ARRAY_DOUBLE_INDEX_SCALE", type := .int, accessFlags := 25, slot := 9, constantValue := 0 }, { name := "LOG2_BYTE_BIT_SIZE", type := .int, accessFlags := 26, slot := 10, constantValue := 0 }, { name := "T_BOOLEAN", type := .int, accessFlags := 25, slot := 11, constantValue := 0 }, { name := "T_CHAR", type := .int, accessFlags := 25, slot := 12, constantValue := 0 }, { name := "T_FLOAT", type := .int, accessFlags := 25, slot := 13, constantValue := 0 }, { name := "T_DOUBLE", type := .int, accessFlags := 25, slot := 14, constantValue := 0 }, { name := "T_BYTE", type := .int, accessFlags := 25, slot := 15, constantValue := 0 }, { name := "T_SHORT", type := .int, accessFlags := 25, slot := 16, constantValue := 0 }, { name := "T_INT", type := .int, accessFlags := 25, slot := 17, constantValue := 0 }, { name := "T_LONG", type := .int, accessFlags := 25, slot := 18, constantValue := 0 }, { name := "JLA", type := (.object "jdk/internal/access/JavaLangAccess"), accessFlags := 26, slot := 19, constantValue := 0 }, { name := "SOFT_MAX_ARRAY_LENGTH", type := .int, accessFlags := 25, slot := 20, constantValue := 0 }]
  methods := #[k35m0]
  instanceTypes := #[]
  staticTypes := #[(.object "jdk/internal/misc/Unsafe"), .boolean, .int, .int, .int, .int, .int, .int, .int, .int, .int, .int, .int, .int, .int, .int, .int, .int, .int, (.object "jdk/internal/access/JavaLangAccess"), .int]
  resolved := Array.replicate 378 none
  statics := none }

def pool36 : Array CpInfo := pool [(2, .class_ 4), (1, u "java/lang/Object"), (0, u "<init>"), (0, u "()V"), (12, .class_ 20), (0, u "java/util/Collections"), (63, u "r"), (0, u "Ljava/util/Random;"), (80, .class_ 167), (0, u "java/util/Collections$UnmodifiableCollection"), (6, .class_ 175), (0, u "java/util/Collections$UnmodifiableSequencedCollection"), (6, .class_ 183), (0, u "java/util/Collections$UnmodifiableSet"), (6, .class_ 191), (0, u "java/util/Collections$UnmodifiableSequencedSet"), (6, .class_ 199), (0, u "java/util/Collections$UnmodifiableSortedSet"), (6, .class_ 207), (0, u "java/util/Collections$UnmodifiableNavigableSet"), (4, .class_ 213), (0, u "java/util/Collections$UnmodifiableList"), (1, .class_ 216), (0, u "java/util/Collections$UnmodifiableRandomAccessList"), (6, .class_ 224), (0, u "java/util/Collections$UnmodifiableMap"), (6, .class_ 232), (0, u "java/util/Collections$UnmodifiableSequencedMap"), (4, .class_ 238), (0, u "java/util/Collections$UnmodifiableSortedMap"), (6, .class_ 246), (0, u "java/util/Collections$UnmodifiableNavigableMap"), (3, .class_ 251), (0, u "java/util/Collections$SynchronizedCollection"), (4, .class_ 257), (0, u "java/util/Collections$SynchronizedSet"), (4, .class_ 263), (0, u "java/util/Collections$SynchronizedSortedSet"), (1, .class_ 266), (0, u "java/util/Collections$SynchronizedNavigableSet"), (1, .class_ 269), (0, u "java/util/Collections$SynchronizedRandomAccessList"), (1, .class_ 272), (0, u "java/util/Collections$SynchronizedList"), (5, .class_ 279), (0, u "java/util/Collections$SynchronizedMap"), (1, .class_ 282), (0, u "java/util/Collections$SynchronizedSortedMap"), (1, .class_ 285), (0, u "java/util/Collections$SynchronizedNavigableMap"), (1, .class_ 288), (0, u "java/util/Collections$CheckedCollection"), (11, .class_ 301), (0, u "java/util/Collections$CheckedQueue"), (3, .class_ 306), (0, u "java/util/Collections$CheckedSet"), (3, .class_ 311), (0, u "java/util/Collections$CheckedSortedSet"), (3, .class_ 316), (0, u "java/util/Collections$CheckedNavigableSet"), (3, .class_ 321), (0, u "java/util/Collections$CheckedRandomAccessList"), (3, .class_ 326), (0, u "java/util/Collections$CheckedList"), (1, .class_ 329), (0, u "java/util/Collections$CheckedMap"), (3, .class_ 334), (0, u "java/util/Collections$CheckedSortedMap"), (3, .class_ 339), (0, u "java/util/Collections$CheckedNavigableMap"), (4, .class_ 346), (1, u "java/util/Collections$EmptyIterator"), (3, .class_ 352), (1, u "java/util/Collections$EmptyListIterator"), (2, .class_ 357), (1, u "java/util/Collections$EmptyEnumeration"), (4, u "EMPTY_SET"), (0, u "Ljava/util/Set;"), (6, u "EMPTY_LIST"), (0, u "Ljava/util/List;"), (2, u "EMPTY_MAP"), (0, u "Ljava/util/Map;"), (4, .class_ 381), (0, u "java/util/Collections$SingletonSet"), (2, .class_ 385), (0, u "java/util/Collections$1"), (1, .class_ 388), (0, u "java/util/Collections$2"), (1, .class_ 391), (0, u "java/util/Collections$SingletonList"), (1, .class_ 394), (0, u "java/util/Collections$SingletonMap"), (22, .class_ 418), (0, u "java/util/Collections$CopiesList"), (4, .class_ 425), (1, u "java/util/Collections$ReverseComparator"), (8, .class_ 435), (0, u "java/util/Collections$ReverseComparator2"), (6, .class_ 443), (0, u "java/util/Collections$3"), (25, .class_ 470), (0, u "java/util/Collections$SetFromMap"), (2, .class_ 474), (0, u "java/util/Collections$SequencedSetFromMap"), (3, .class_ 479), (0, u "java/util/Collections$AsLIFOQueue"), (11, .class_ 492), (0, u "java/util/Collections$EmptySet"), (1, .class_ 495), (0, u "java/util/Collections$EmptyList"), (1, .class_ 498), (0, u "java/util/Collections$EmptyMap"), (1, u "BINARYSEARCH_THRESHOLD"), (0, u "I"), (2, u "REVERSE_THRESHOLD"), (1, u "SHUFFLE_THRESHOLD"), (1, u "FILL_THRESHOLD"), (1, u "ROTATE_THRESHOLD"), (1, u "COPY_THRESHOLD"), (1, u "REPLACEALL_THRESHOLD"), (1, u "INDEXOFSUBLIST_THRESHOLD"), (333, .class_ 851), (0, u "java/util/Collections$CheckedMap$CheckedEntrySet"), (0, .class_ 853), (0, u "java/util/Collections$CheckedMap$CheckedEntrySet$CheckedEntry"), (0, .class_ 855), (0, u "java/util/Collections$CheckedMap$CheckedEntrySet$1"), (0, .class_ 857), (0, u "java/util/Collections$CheckedList$1"), (0, .class_ 859), (0, u "java/util/Collections$CheckedCollection$1"), (0, .class_ 861), (0, u "java/util/Collections$UnmodifiableNavigableMap$EmptyNavigableMap"), (0, .class_ 863), (0, u "java/util/Collections$UnmodifiableMap$UnmodifiableEntrySet"), (0, .class_ 865), (0, u "java/util/Collections$UnmodifiableMap$UnmodifiableEntrySet$UnmodifiableEntry"), (0, .class_ 867), (0, u "java/util/Collections$UnmodifiableMap$UnmodifiableEntrySet$UnmodifiableEntrySetSpliterator"), (0, .class_ 869), (0, u "java/util/Collections$UnmodifiableMap$UnmodifiableEntrySet$1"), (0, .class_ 871), (0, u "java/util/Collections$UnmodifiableList$1"), (0, .class_ 873), (0, u "java/util/Collections$UnmodifiableNavigableSet$EmptyNavigableSet"), (0, .class_ 875), (0, u "java/util/Collections$UnmodifiableCollection$1")] 57

def k36m0 : Method := { name := "<init>", desc := "()V", sig := { parameters := [], returnType := none }, accessFlags := 2, code := none }
/-- java/util/Collections -/
def k36 : Class := { plain "java/util/Collections" (some 0) with
  accessFlags := 33
  interfaces := #[]
  cf := some (fileOf pool36 19 #[.nestMembers #[478, 473, 469, 434, 423, 417, 393, 390, 380, 497, 494, 491, 355, 350, 344, 338, 333, 328, 850, 852, 854, 320, 325, 856, 315, 310, 305, 300, 287, 858, 284, 281, 278, 268, 271, 265, 262, 256, 250, 245, 860, 237, 231, 223, 862, 864, 866, 868, 215, 212, 870, 206, 872, 198, 190, 182, 174, 166, 874, 442, 387, 384]] #[{ accessFlags := 2, nameIndex := 5, descriptorIndex := 6, attributes := #[] }] 33 2 #[] #[{ accessFlags := 26, nameIndex := 500, descriptorIndex := 501, attributes := #[] }, { accessFlags := 26, nameIndex := 504, descriptorIndex := 501, attributes := #[] }, { accessFlags := 26, nameIndex := 506, descriptorIndex := 501, attributes := #[] }, { accessFlags := 26, nameIndex := 508, descriptorIndex := 501, attributes := #[] }, { accessFlags := 26, nameIndex := 510, descriptorIndex := 501, attributes := #[] }, { accessFlags := 26, nameIndex := 512, descriptorIndex := 501, attributes := #[] }, { accessFlags := 26, nameIndex := 514, descriptorIndex := 501, attributes := #[] }, { accessFlags := 26, nameIndex := 516, descriptorIndex := 501, attributes := #[] }, { accessFlags := 10, nameIndex := 84, descriptorIndex := 85, attributes := #[] }, { accessFlags := 25, nameIndex := 362, descriptorIndex := 363, attributes := #[] }, { accessFlags := 25, nameIndex := 370, descriptorIndex := 371, attributes := #[] }, { accessFlags := 25, nameIndex := 374, descriptorIndex := 375, attributes := #[] }])
  fields := #[{ name := "BINARYSEARCH_THRESHOLD", type := .int, accessFlags := 26, slot := 0, constantValue := 0 }, { name := "REVERSE_THRESHOLD", type := .int, accessFlags := 26, slot := 1, constantValue := 0 }, { name := "SHUFFLE_THRESHOLD", type := .int, accessFlags := 26, slot := 2, constantValue := 0 }, { name := "FILL_THRESHOLD", type := .int, accessFlags := 26, slot := 3, constantValue := 0 }, { name := "ROTATE_THRESHOLD", type := .int, accessFlags := 26, slot := 4, constantValue := 0 }, { name := "COPY_THRESHOLD", type := .int, accessFlags := 26, slot := 5, constantValue := 0 }, { name := "REPLACEALL_THRESHOLD", type := .int, accessFlags := 26, slot := 6, constantValue := 0 }, { name := "INDEXOFSUBLIST_THRESHOLD", type := .int, accessFlags := 26, slot := 7, constantValue := 0 }, { name := "r", type := (.object "java/util/Random"), accessFlags := 10, slot := 8, constantValue := 0 }, { name := "EMPTY_SET", type := (.object "java/util/Set"), accessFlags := 25, slot := 9, constantValue := 0 }, { name := "EMPTY_LIST", type := (.object "java/util/List"), accessFlags := 25, slot := 10, constantValue := 0 }, { name := "EMPTY_MAP", type := (.object "java/util/Map"), accessFlags := 25, slot := 11, constantValue := 0 }]
  methods := #[k36m0]
  instanceTypes := #[]
  staticTypes := #[.int, .int, .int, .int, .int, .int, .int, .int, (.object "java/util/Random"), (.object "java/util/Set"), (.object "java/util/List"), (.object "java/util/Map")]
  resolved := Array.replicate 933 none
  statics := some 6 }

def pool37 : Array CpInfo := pool [(2, .class_ 4), (1, u "java/util/AbstractList"), (0, u "<init>"), (0, u "()V"), (1, .class_ 10), (1, u "java/util/Collections"), (54, .class_ 66), (0, u "java/util/Collections$EmptyList"), (0, .class_ 68), (0, u "java/util/RandomAccess"), (0, .class_ 70), (0, u "java/io/Serializable"), (0, u "serialVersionUID"), (0, u "J")] 77

def k37m0 : Method := { name := "<init>", desc := "()V", sig := { parameters := [], returnType := none }, accessFlags := 2, code := none }
/-- java/util/Collections$EmptyList -/
def k37 : Class := { plain "java/util/Collections$EmptyList" (some 17) with
  accessFlags := 32
  interfaces := #[18, 5]
  cf := some (fileOf pool37 65 #[.nestHost 8] #[{ accessFlags := 2, nameIndex := 5, descriptorIndex := 6, attributes := #[] }] 32 2 #[67, 69] #[{ accessFlags := 26, nameIndex := 71, descriptorIndex := 72, attributes := #[] }])
  fields := #[{ name := "serialVersionUID", type := .long, accessFlags := 26, slot := 0, constantValue := 0 }]
  methods := #[k37m0]
  instanceTypes := #[.int]
  staticTypes := #[.long]
  resolved := Array.replicate 150 none
  statics := none }

def pool38 : Array CpInfo := pool [(2, .class_ 4), (1, u "java/lang/StackTraceElement"), (0, u "<init>"), (2, .class_ 10), (1, u "java/lang/Object"), (0, u "()V"), (2, u "format"), (0, u "B"), (2, u "classLoaderName"), (0, u "Ljava/lang/String;"), (2, u "moduleName"), (2, u "moduleVersion"), (12, u "declaringClass"), (4, u "methodName"), (2, u "fileName"), (2, u "lineNumber"), (0, u "I"), (65, u "declaringClassObject"), (0, u "Ljava/lang/Class;"), (33, .class_ 153), (1, u "java/lang/StackTraceElement$HashedModules"), (17, .class_ 172), (0, u "java/io/Serializable"), (0, u "NATIVE_METHOD"), (1, u "UNKNOWN_SOURCE"), (2, u "BUILTIN_CLASS_LOADER"), (1, u "JDK_NON_UPGRADEABLE_MODULE"), (1, u "serialVersionUID"), (0, u "J")] 51

def k38m0 : Method := { name := "<init>", desc := "()V", sig := { parameters := [], returnType := none }, accessFlags := 2, code := none }
/-- java/lang/StackTraceElement -/
def k38 : Class := { plain "java/lang/StackTraceElement" (some 0) with
  accessFlags := 49
  interfaces := #[5]
  cf := some (fileOf pool38 2 #[.nestMembers #[151]] #[{ accessFlags := 2, nameIndex := 5, descriptorIndex := 11, attributes := #[] }] 49 8 #[171] #[{ accessFlags := 26, nameIndex := 173, descriptorIndex := 19, attributes := #[] }, { accessFlags := 26, nameIndex := 175, descriptorIndex := 19, attributes := #[] }, { accessFlags := 130, nameIndex := 116, descriptorIndex := 117, attributes := #[] }, { accessFlags := 2, nameIndex := 18, descriptorIndex := 19, attributes := #[] }, { accessFlags := 2, nameIndex := 22, descriptorIndex := 19, attributes := #[] }, { accessFlags := 2, nameIndex := 25, descriptorIndex := 19, attributes := #[] }, { accessFlags := 2, nameIndex := 38, descriptorIndex := 19, attributes := #[] }, { accessFlags := 2, nameIndex := 43, descriptorIndex := 19, attributes := #[] }, { accessFlags := 2, nameIndex := 46, descriptorIndex := 19, attributes := #[] }, { accessFlags := 2, nameIndex := 49, descriptorIndex := 50, attributes := #[] }, { accessFlags := 2, nameIndex := 14, descriptorIndex := 15, attributes := #[] }, { accessFlags := 26, nameIndex := 178, descriptorIndex := 15, attributes := #[] }, { accessFlags := 26, nameIndex := 180, descriptorIndex := 15, attributes := #[] }, { accessFlags := 26, nameIndex := 182, descriptorIndex := 183, attributes := #[] }])
  fields := #[{ name := "NATIVE_METHOD", type := (.object "java/lang/String"), accessFlags := 26, slot := 0, constantValue := 0 }, { name := "UNKNOWN_SOURCE", type := (.object "java/lang/String"), accessFlags := 26, slot := 1, constantValue := 0 }, { name := "declaringClassObject", type := (.object "java/lang/Class"), accessFlags := 130, slot := 0, constantValue := 0 }, { name := "classLoaderName", type := (.object "java/lang/String"), accessFlags := 2, slot := 1, constantValue := 0 }, { name := "moduleName", type := (.object "java/lang/String"), accessFlags := 2, slot := 2, constantValue := 0 }, { name := "moduleVersion", type := (.object "java/lang/String"), accessFlags := 2, slot := 3, constantValue := 0 }, { name := "declaringClass", type := (.object "java/lang/String"), accessFlags := 2, slot := 4, constantValue := 0 }, { name := "methodName", type := (.object "java/lang/String"), accessFlags := 2, slot := 5, constantValue := 0 }, { name := "fileName", type := (.object "java/lang/String"), accessFlags := 2, slot := 6, constantValue := 0 }, { name := "lineNumber", type := .int, accessFlags := 2, slot := 7, constantValue := 0 }, { name := "format", type := .byte, accessFlags := 2, slot := 8, constantValue := 0 }, { name := "BUILTIN_CLASS_LOADER", type := .byte, accessFlags := 26, slot := 2, constantValue := 0 }, { name := "JDK_NON_UPGRADEABLE_MODULE", type := .byte, accessFlags := 26, slot := 3, constantValue := 0 }, { name := "serialVersionUID", type := .long, accessFlags := 26, slot := 4, constantValue := 0 }]
  methods := #[k38m0]
  instanceTypes := #[(.object "java/lang/Class"), (.object "java/lang/String"), (.object "java/lang/String"), (.object "java/lang/String"), (.object "java/lang/String"), (.object "java/lang/String"), (.object "java/lang/String"), .int, .byte]
  staticTypes := #[(.object "java/lang/String"), (.object "java/lang/String"), .byte, .byte, .long]
  resolved := Array.replicate 235 none
  statics := none }

def pool39 : Array CpInfo := pool [(1, u "java/lang/Class"), (0, .class_ 1), (0, u "java/lang/Object"), (0, .class_ 3)] 3

/-- java/lang/Class -/
def k39 : Class := { plain "java/lang/Class" (some 0) with
  accessFlags := 49
  interfaces := #[]
  cf := some (fileOf pool39 2 #[] #[] 49 4 #[] #[])
  fields := #[]
  methods := #[]
  instanceTypes := #[]
  staticTypes := #[]
  resolved := Array.replicate 8 none
  statics := none }

/-- the primitive byte -/
def k40 : Class := { plain "byte" none with kind := .primitive 'B', accessFlags := 0x411 }
/-- [B -/
def k41 : Class := { plain "[B" (some 0) with kind := .array 40 .byte, interfaces := #[19, 5], accessFlags := 1041 }

/-- the primitive int -/
def k42 : Class := { plain "int" none with kind := .primitive 'I', accessFlags := 0x411 }
/-- [I -/
def k43 : Class := { plain "[I" (some 0) with kind := .array 42 .int, interfaces := #[19, 5], accessFlags := 1041 }

/-- [Ljava/lang/Object; -/
def k44 : Class := { plain "[Ljava/lang/Object;" (some 0) with kind := .array 0 (.object "java/lang/Object"), interfaces := #[19, 5], accessFlags := 1041, mirror := some 7 }

/-- [Ljava/lang/StackTraceElement; -/
def k45 : Class := { plain "[Ljava/lang/StackTraceElement;" (some 0) with kind := .array 38 (.object "java/lang/StackTraceElement"), interfaces := #[19, 5], accessFlags := 1041 }

/-- [Ljava/lang/Throwable; -/
def k46 : Class := { plain "[Ljava/lang/Throwable;" (some 0) with kind := .array 22 (.object "java/lang/Throwable"), interfaces := #[19, 5], accessFlags := 1041 }

def heap : Heap := #[{ cls := 7, slots := #[.ref 8, .ref 9, .ref 10, .ref 11, .ref 12, .ref 13, .ref 14, .ref 15, .ref 16, .ref 17, .ref 18, .ref 19, .ref 20, .ref 21, .ref 22, .null], vm := .statics 7 },
  { cls := 10, slots := #[.long 0, .int 1, .null, .int 0, .null, .int 0, .int 0], vm := .statics 10 },
  { cls := 20, slots := #[.long 0, .int 0, .ref 23, .ref 24], vm := .statics 20 },
  { cls := 22, slots := #[.long 0, .ref 25, .ref 26, .null, .null, .null, .null, .ref 27, .int 1], vm := .statics 22 },
  { cls := 27, slots := #[.null, .null, .null], vm := .statics 27 },
  { cls := 28, slots := #[.long 0, .int 0, .null, .ref 28, .ref 29, .null, .null, .null, .int 0, .int 1], vm := .statics 28 },
  { cls := 36, slots := #[.int 0, .int 0, .int 0, .int 0, .int 0, .int 0, .int 0, .int 0, .null, .null, .ref 26, .null], vm := .statics 36 },
  { cls := 39, slots := #[], vm := .mirror 44 },
  { cls := 7, slots := #[.null, .int 0, .int 0, .null, .int 400], vm := .none },
  { cls := 7, slots := #[.null, .int 1, .int 0, .null, .int 400], vm := .none },
  { cls := 7, slots := #[.null, .int 2, .int 0, .null, .int 400], vm := .none },
  { cls := 7, slots := #[.null, .int 3, .int 0, .null, .int 401], vm := .none },
  { cls := 7, slots := #[.null, .int 4, .int 0, .null, .int 402], vm := .none },
  { cls := 7, slots := #[.null, .int 5, .int 0, .null, .int 403], vm := .none },
  { cls := 7, slots := #[.null, .int 6, .int 0, .null, .int 404], vm := .none },
  { cls := 7, slots := #[.null, .int 7, .int 0, .null, .int 405], vm := .none },
  { cls := 7, slots := #[.null, .int 8, .int 0, .null, .int 409], vm := .none },
  { cls := 7, slots := #[.null, .int 9, .int 0, .null, .int 409], vm := .none },
  { cls := 7, slots := #[.null, .int 10, .int 0, .null, .int 413], vm := .none },
  { cls := 7, slots := #[.null, .int 11, .int 0, .null, .int 422], vm := .none },
  { cls := 7, slots := #[.null, .int 12, .int 0, .null, .int 422], vm := .none },
  { cls := 7, slots := #[.null, .int 13, .int 0, .null, .int 400], vm := .none },
  { cls := 7, slots := #[.null, .int 14, .int 0, .null, .int 500], vm := .none },
  { cls := 44, slots := #[], vm := .none },
  { cls := 44, slots := #[], vm := .none },
  { cls := 45, slots := #[], vm := .none },
  { cls := 37, slots := #[.int 0], vm := .none },
  { cls := 46, slots := #[], vm := .none },
  { cls := 0, slots := #[], vm := .none },
  { cls := 32, slots := #[.null, .int 0], vm := .none }]
def classes : Array Class := #[k0, k1, k2, k3, k4, k5, k6, k7, k8, k9, k10, k11, k12, k13, k14, k15, k16, k17, k18, k19, k20, k21, k22, k23, k24, k25, k26, k27, k28, k29, k30, k31, k32, k33, k34, k35, k36, k37, k38, k39, k40, k41, k42, k43, k44, k45, k46]
def interned : List (Array UInt16 × Addr) := []
def slotsUsed : Nat := 139
def theMethod : MethodId := ⟨1, 4⟩
def args0 : Array Value := #[.int 5, .int 5, .int 5, .int 5, .int 5]
def aboutOver (below : List Frame) : State where
  vm := { classes := classes, interned := interned.toArray }
  heap := heap
  slotsUsed := slotsUsed
  threads := #[{ frames := .invoking theMethod args0 :: below }]
def below0 : List Frame := [.native { method := ⟨0, 0⟩, args := #[] }]
def about1 : State := aboutOver below0
def p0 : Program := .bare "" "" ""
def e0 : Env := launch0.env 0 0 0
theorem w_frames : about1.frames = Frame.invoking theMethod args0 :: below0 := rfl
set_option maxRecDepth 65536 in
theorem w_args : argsFit about1.vm theMethod args0 = true := by decide +kernel
set_option maxRecDepth 65536 in
theorem w_heap : heapFits about1 = true := by decide +kernel
set_option maxRecDepth 65536 in
theorem w_runnable : about1.curStatus? = some .runnable := by decide +kernel
set_option maxRecDepth 65536 in
theorem w_alone : about1.alone = true := by decide +kernel
set_option maxRecDepth 65536 in
theorem w_named : about1.methodNamed? x = some theMethod := by decide +kernel
set_option maxRecDepth 65536 in
theorem w_hears : about1.hears theMethod below0 = true := by decide +kernel
set_option maxRecDepth 65536 in
theorem w_ripe : about1.ripe theMethod args0 below0 = true := by decide +kernel
theorem w_running : about1.status = .running := rfl
set_option maxRecDepth 65536 in
theorem w_room : about1.hasRoom e0.platform room_1 = true :=
  launch0.hasRoom_least _ room_1 (by decide +kernel) (by decide +kernel) (by decide +kernel) (by decide +kernel) (by decide +kernel) (by decide +kernel)
theorem allAtoms_all (ts : List Jvm.Cond) (a : Array Jvm.Value) (st : Jvm.State) : (allAtoms ts).before a st = ts.all (fun c => c.before a st) := by
  induction ts with
  | nil => rfl
  | cons c t ih =>
    show (Jvm.Cond.and c (allAtoms t)).before a st = _
    rw [Jvm.Cond.before_and, ih, List.all_cons]
def words1 : List Jvm.Cond := Jvm.Cond.code x code maxLocals ret :: tables_1
/-- a 'code' word, met by the world's own term for the bytes: nothing is compared byte by byte -/
theorem code_word {y : MethodName} {bytes : ByteArray} {mx : Nat} {rt : Option FieldType} {a : Array Value} {s : State} {m : MethodId} {meth : Method} {c : Code} (h1 : s.methodNamed? y = some m) (h2 : s.vm.method? m = some meth) (h3 : meth.code = some c) (h4 : c.code = bytes)
    (h5 : (c.maxLocals == mx && c.exceptionTable.isEmpty && decide (c.maxStack ≤ mostOperands) && decide (meth.sig.returnType = rt) && !meth.locks && decide (parseMethodDescriptor y.desc = some meth.sig)) = true) : (Jvm.Cond.code y bytes mx rt).before a s = true := by
  simp only [Bool.and_eq_true, beq_iff_eq, Bool.not_eq_true', decide_eq_true_eq] at h5
  obtain ⟨⟨⟨⟨⟨g1, g2⟩, g3⟩, g4⟩, g5⟩, g6⟩ := h5
  simp [Cond.before, Cond.holds, Cond.value, h1, h2, h3, h4, g1, g2, g3, g4, g5, g6]
def isCode : Jvm.Cond → Bool
  | .code _ _ _ _ => true
  | _ => false
theorem all_split {L : List Jvm.Cond} {P : Jvm.Cond → Bool} (h1 : L.all (fun c => isCode c || P c) = true) (h2 : ∀ c ∈ L.filter isCode, P c = true) : L.all P = true := by
  refine List.all_eq_true.mpr fun c hc => ?_
  have h := List.all_eq_true.mp h1 c hc
  rcases Bool.eq_false_or_eq_true (isCode c) with hi | hi
  · exact h2 c (List.mem_filter.mpr ⟨hc, hi⟩)
  · simpa [hi] using h
set_option maxRecDepth 65536 in
theorem w_c0 : (Jvm.Cond.code x code maxLocals ret).before args0 about1 = true := code_word (m := ⟨1, 4⟩) (meth := k1m4) (c := k1c4) (by decide +kernel) rfl rfl rfl (by decide +kernel)
set_option maxRecDepth 65536 in
theorem w_c1 : (Jvm.Cond.code ({ cls := "com/example/levy/levy/api/ApiExceptionStatusPinLaw", name := "type", desc := "(I)Lcom/example/levy/levy/api/ErrorType;" } : Jvm.MethodName) method_2_code (1 : Nat) (Option.some (Jvm.ClassFile.FieldType.object "com/example/levy/levy/api/ErrorType"))).before args0 about1 = true := code_word (m := ⟨1, 1⟩) (meth := k1m1) (c := k1c1) (by decide +kernel) rfl rfl rfl (by decide +kernel)
set_option maxRecDepth 65536 in
theorem w_c2 : (Jvm.Cond.code ({ cls := "com/example/levy/levy/api/ApiExceptionStatusPinLaw", name := "name", desc := "(I)Ljava/lang/String;" } : Jvm.MethodName) method_4_code (1 : Nat) (Option.some (Jvm.ClassFile.FieldType.object "java/lang/String"))).before args0 about1 = true := code_word (m := ⟨1, 3⟩) (meth := k1m3) (c := k1c3) (by decide +kernel) rfl rfl rfl (by decide +kernel)
set_option maxRecDepth 65536 in
theorem w_c3 : (Jvm.Cond.code ({ cls := "java/lang/String", name := "valueOf", desc := "(C)Ljava/lang/String;" } : Jvm.MethodName) jdk_42_method_139_code (1 : Nat) (Option.some (Jvm.ClassFile.FieldType.object "java/lang/String"))).before args0 about1 = true := code_word (m := ⟨10, 1⟩) (meth := k10m1) (c := k10c1) (by decide +kernel) rfl rfl rfl (by decide +kernel)
set_option maxRecDepth 65536 in
theorem w_c4 : (Jvm.Cond.code ({ cls := "java/lang/StringLatin1", name := "canEncode", desc := "(C)Z" } : Jvm.MethodName) jdk_43_method_3_code (1 : Nat) (Option.some Jvm.ClassFile.FieldType.boolean)).before args0 about1 = true := code_word (m := ⟨11, 1⟩) (meth := k11m1) (c := k11c1) (by decide +kernel) rfl rfl rfl (by decide +kernel)
set_option maxRecDepth 65536 in
theorem w_c5 : (Jvm.Cond.code ({ cls := "java/lang/StringLatin1", name := "toBytes", desc := "(C)[B" } : Jvm.MethodName) jdk_43_method_46_code (1 : Nat) (Option.some (Jvm.ClassFile.FieldType.array Jvm.ClassFile.FieldType.byte))).before args0 about1 = true := code_word (m := ⟨11, 2⟩) (meth := k11m2) (c := k11c2) (by decide +kernel) rfl rfl rfl (by decide +kernel)
set_option maxRecDepth 65536 in
theorem w_c6 : (Jvm.Cond.code ({ cls := "java/lang/String", name := "<init>", desc := "([BB)V" } : Jvm.MethodName) jdk_42_method_151_code (3 : Nat) (Option.none : Option Jvm.ClassFile.FieldType)).before args0 about1 = true := code_word (m := ⟨10, 2⟩) (meth := k10m2) (c := k10c2) (by decide +kernel) rfl rfl rfl (by decide +kernel)
set_option maxRecDepth 65536 in
theorem w_c7 : (Jvm.Cond.code ({ cls := "java/lang/Object", name := "<init>", desc := "()V" } : Jvm.MethodName) object_method_1_code (1 : Nat) (Option.none : Option Jvm.ClassFile.FieldType)).before args0 about1 = true := code_word (m := ⟨0, 0⟩) (meth := k0m0) (c := k0c0) (by decide +kernel) rfl rfl rfl (by decide +kernel)
set_option maxRecDepth 65536 in
theorem w_c8 : (Jvm.Cond.code ({ cls := "com/example/levy/levy/api/ApiError", name := "<init>", desc := "(Lcom/example/levy/levy/api/ErrorType;Ljava/lang/String;Ljava/lang/String;)V" } : Jvm.MethodName) prog_1_method_1_code (4 : Nat) (Option.none : Option Jvm.ClassFile.FieldType)).before args0 about1 = true := code_word (m := ⟨2, 0⟩) (meth := k2m0) (c := k2c0) (by decide +kernel) rfl rfl rfl (by decide +kernel)
set_option maxRecDepth 65536 in
theorem w_c9 : (Jvm.Cond.code ({ cls := "java/util/ArrayList", name := "<init>", desc := "()V" } : Jvm.MethodName) jdk_38_method_2_code (1 : Nat) (Option.none : Option Jvm.ClassFile.FieldType)).before args0 about1 = true := code_word (m := ⟨20, 0⟩) (meth := k20m0) (c := k20c0) (by decide +kernel) rfl rfl rfl (by decide +kernel)
set_option maxRecDepth 65536 in
theorem w_c10 : (Jvm.Cond.code ({ cls := "java/util/AbstractList", name := "<init>", desc := "()V" } : Jvm.MethodName) jdk_39_method_1_code (1 : Nat) (Option.none : Option Jvm.ClassFile.FieldType)).before args0 about1 = true := code_word (m := ⟨17, 0⟩) (meth := k17m0) (c := k17c0) (by decide +kernel) rfl rfl rfl (by decide +kernel)
set_option maxRecDepth 65536 in
theorem w_c11 : (Jvm.Cond.code ({ cls := "java/util/AbstractCollection", name := "<init>", desc := "()V" } : Jvm.MethodName) jdk_22_method_1_code (1 : Nat) (Option.none : Option Jvm.ClassFile.FieldType)).before args0 about1 = true := code_word (m := ⟨14, 0⟩) (meth := k14m0) (c := k14c0) (by decide +kernel) rfl rfl rfl (by decide +kernel)
set_option maxRecDepth 65536 in
theorem w_c12 : (Jvm.Cond.code ({ cls := "java/util/ArrayList", name := "add", desc := "(Ljava/lang/Object;)Z" } : Jvm.MethodName) jdk_38_method_25_code (2 : Nat) (Option.some Jvm.ClassFile.FieldType.boolean)).before args0 about1 = true := code_word (m := ⟨20, 8⟩) (meth := k20m8) (c := k20c8) (by decide +kernel) rfl rfl rfl (by decide +kernel)
set_option maxRecDepth 65536 in
theorem w_c13 : (Jvm.Cond.code ({ cls := "java/util/ArrayList", name := "add", desc := "(Ljava/lang/Object;[Ljava/lang/Object;I)V" } : Jvm.MethodName) jdk_38_method_24_code (4 : Nat) (Option.none : Option Jvm.ClassFile.FieldType)).before args0 about1 = true := code_word (m := ⟨20, 7⟩) (meth := k20m7) (c := k20c7) (by decide +kernel) rfl rfl rfl (by decide +kernel)
set_option maxRecDepth 65536 in
theorem w_c14 : (Jvm.Cond.code ({ cls := "java/util/ArrayList", name := "grow", desc := "()[Ljava/lang/Object;" } : Jvm.MethodName) jdk_38_method_7_code (1 : Nat) (Option.some (Jvm.ClassFile.FieldType.array (Jvm.ClassFile.FieldType.object "java/lang/Object")))).before args0 about1 = true := code_word (m := ⟨20, 2⟩) (meth := k20m2) (c := k20c2) (by decide +kernel) rfl rfl rfl (by decide +kernel)
set_option maxRecDepth 65536 in
theorem w_c15 : (Jvm.Cond.code ({ cls := "java/util/ArrayList", name := "grow", desc := "(I)[Ljava/lang/Object;" } : Jvm.MethodName) jdk_38_method_6_code (4 : Nat) (Option.some (Jvm.ClassFile.FieldType.array (Jvm.ClassFile.FieldType.object "java/lang/Object")))).before args0 about1 = true := code_word (m := ⟨20, 1⟩) (meth := k20m1) (c := k20c1) (by decide +kernel) rfl rfl rfl (by decide +kernel)
set_option maxRecDepth 65536 in
theorem w_c16 : (Jvm.Cond.code ({ cls := "java/lang/Math", name := "max", desc := "(II)I" } : Jvm.MethodName) jdk_29_method_65_code (2 : Nat) (Option.some Jvm.ClassFile.FieldType.int)).before args0 about1 = true := code_word (m := ⟨21, 1⟩) (meth := k21m1) (c := k21c1) (by decide +kernel) rfl rfl rfl (by decide +kernel)
set_option maxRecDepth 65536 in
theorem w_c17 : (Jvm.Cond.code ({ cls := "com/example/levy/levy/api/ApiException", name := "<init>", desc := "(Ljava/util/List;)V" } : Jvm.MethodName) prog_2_method_1_code (2 : Nat) (Option.none : Option Jvm.ClassFile.FieldType)).before args0 about1 = true := code_word (m := ⟨25, 0⟩) (meth := k25m0) (c := k25c0) (by decide +kernel) rfl rfl rfl (by decide +kernel)
set_option maxRecDepth 65536 in
theorem w_c18 : (Jvm.Cond.code ({ cls := "java/util/ArrayList", name := "get", desc := "(I)Ljava/lang/Object;" } : Jvm.MethodName) jdk_38_method_20_code (2 : Nat) (Option.some (Jvm.ClassFile.FieldType.object "java/lang/Object"))).before args0 about1 = true := code_word (m := ⟨20, 6⟩) (meth := k20m6) (c := k20c6) (by decide +kernel) rfl rfl rfl (by decide +kernel)
set_option maxRecDepth 65536 in
theorem w_c19 : (Jvm.Cond.code ({ cls := "java/util/Objects", name := "checkIndex", desc := "(II)I" } : Jvm.MethodName) jdk_31_method_17_code (2 : Nat) (Option.some Jvm.ClassFile.FieldType.int)).before args0 about1 = true := code_word (m := ⟨26, 2⟩) (meth := k26m2) (c := k26c2) (by decide +kernel) rfl rfl rfl (by decide +kernel)
set_option maxRecDepth 65536 in
theorem w_c20 : (Jvm.Cond.code ({ cls := "jdk/internal/util/Preconditions", name := "checkIndex", desc := "(IILjava/util/function/BiFunction;)I" } : Jvm.MethodName) jdk_41_method_11_code (3 : Nat) (Option.some Jvm.ClassFile.FieldType.int)).before args0 about1 = true := code_word (m := ⟨27, 1⟩) (meth := k27m1) (c := k27c1) (by decide +kernel) rfl rfl rfl (by decide +kernel)
set_option maxRecDepth 65536 in
theorem w_c21 : (Jvm.Cond.code ({ cls := "java/util/ArrayList", name := "elementData", desc := "(I)Ljava/lang/Object;" } : Jvm.MethodName) jdk_38_method_18_code (2 : Nat) (Option.some (Jvm.ClassFile.FieldType.object "java/lang/Object"))).before args0 about1 = true := code_word (m := ⟨20, 5⟩) (meth := k20m5) (c := k20c5) (by decide +kernel) rfl rfl rfl (by decide +kernel)
set_option maxRecDepth 65536 in
theorem w_c22 : (Jvm.Cond.code ({ cls := "com/example/levy/levy/api/ApiError", name := "message", desc := "()Ljava/lang/String;" } : Jvm.MethodName) prog_1_method_4_code (1 : Nat) (Option.some (Jvm.ClassFile.FieldType.object "java/lang/String"))).before args0 about1 = true := code_word (m := ⟨2, 2⟩) (meth := k2m2) (c := k2c2) (by decide +kernel) rfl rfl rfl (by decide +kernel)
set_option maxRecDepth 65536 in
theorem w_c23 : (Jvm.Cond.code ({ cls := "java/lang/RuntimeException", name := "<init>", desc := "(Ljava/lang/String;)V" } : Jvm.MethodName) jdk_58_method_2_code (2 : Nat) (Option.none : Option Jvm.ClassFile.FieldType)).before args0 about1 = true := code_word (m := ⟨24, 1⟩) (meth := k24m1) (c := k24c1) (by decide +kernel) rfl rfl rfl (by decide +kernel)
set_option maxRecDepth 65536 in
theorem w_c24 : (Jvm.Cond.code ({ cls := "java/lang/Exception", name := "<init>", desc := "(Ljava/lang/String;)V" } : Jvm.MethodName) jdk_59_method_2_code (2 : Nat) (Option.none : Option Jvm.ClassFile.FieldType)).before args0 about1 = true := code_word (m := ⟨23, 1⟩) (meth := k23m1) (c := k23c1) (by decide +kernel) rfl rfl rfl (by decide +kernel)
set_option maxRecDepth 65536 in
theorem w_c25 : (Jvm.Cond.code ({ cls := "java/lang/Throwable", name := "<init>", desc := "(Ljava/lang/String;)V" } : Jvm.MethodName) jdk_78_method_2_code (2 : Nat) (Option.none : Option Jvm.ClassFile.FieldType)).before args0 about1 = true := code_word (m := ⟨22, 1⟩) (meth := k22m1) (c := k22c1) (by decide +kernel) rfl rfl rfl (by decide +kernel)
set_option maxRecDepth 65536 in
theorem w_c26 : (Jvm.Cond.code ({ cls := "java/lang/Throwable", name := "<init>", desc := "()V" } : Jvm.MethodName) jdk_78_method_1_code (1 : Nat) (Option.none : Option Jvm.ClassFile.FieldType)).before args0 about1 = true := code_word (m := ⟨22, 0⟩) (meth := k22m0) (c := k22c0) (by decide +kernel) rfl rfl rfl (by decide +kernel)
set_option maxRecDepth 65536 in
theorem w_c27 : (Jvm.Cond.code ({ cls := "java/util/List", name := "copyOf", desc := "(Ljava/util/Collection;)Ljava/util/List;" } : Jvm.MethodName) jdk_40_method_48_code (1 : Nat) (Option.some (Jvm.ClassFile.FieldType.object "java/util/List"))).before args0 about1 = true := code_word (m := ⟨16, 2⟩) (meth := k16m2) (c := k16c2) (by decide +kernel) rfl rfl rfl (by decide +kernel)
set_option maxRecDepth 65536 in
theorem w_c28 : (Jvm.Cond.code ({ cls := "java/util/ImmutableCollections", name := "listCopy", desc := "(Ljava/util/Collection;)Ljava/util/List;" } : Jvm.MethodName) jdk_56_method_3_code (2 : Nat) (Option.some (Jvm.ClassFile.FieldType.object "java/util/List"))).before args0 about1 = true := code_word (m := ⟨28, 1⟩) (meth := k28m1) (c := k28c1) (by decide +kernel) rfl rfl rfl (by decide +kernel)
set_option maxRecDepth 65536 in
theorem w_c29 : (Jvm.Cond.code ({ cls := "java/util/ArrayList", name := "isEmpty", desc := "()Z" } : Jvm.MethodName) jdk_38_method_9_code (1 : Nat) (Option.some Jvm.ClassFile.FieldType.boolean)).before args0 about1 = true := code_word (m := ⟨20, 3⟩) (meth := k20m3) (c := k20c3) (by decide +kernel) rfl rfl rfl (by decide +kernel)
set_option maxRecDepth 65536 in
theorem w_c30 : (Jvm.Cond.code ({ cls := "java/util/ArrayList", name := "toArray", desc := "()[Ljava/lang/Object;" } : Jvm.MethodName) jdk_38_method_16_code (1 : Nat) (Option.some (Jvm.ClassFile.FieldType.array (Jvm.ClassFile.FieldType.object "java/lang/Object")))).before args0 about1 = true := code_word (m := ⟨20, 4⟩) (meth := k20m4) (c := k20c4) (by decide +kernel) rfl rfl rfl (by decide +kernel)
set_option maxRecDepth 65536 in
theorem w_c31 : (Jvm.Cond.code ({ cls := "java/util/Arrays", name := "copyOf", desc := "([Ljava/lang/Object;I)[Ljava/lang/Object;" } : Jvm.MethodName) jdk_65_method_119_code (2 : Nat) (Option.some (Jvm.ClassFile.FieldType.array (Jvm.ClassFile.FieldType.object "java/lang/Object")))).before args0 about1 = true := code_word (m := ⟨33, 1⟩) (meth := k33m1) (c := k33c1) (by decide +kernel) rfl rfl rfl (by decide +kernel)
set_option maxRecDepth 65536 in
theorem w_c32 : (Jvm.Cond.code ({ cls := "java/util/Arrays", name := "copyOf", desc := "([Ljava/lang/Object;ILjava/lang/Class;)[Ljava/lang/Object;" } : Jvm.MethodName) jdk_65_method_120_code (4 : Nat) (Option.some (Jvm.ClassFile.FieldType.array (Jvm.ClassFile.FieldType.object "java/lang/Object")))).before args0 about1 = true := code_word (m := ⟨33, 2⟩) (meth := k33m2) (c := k33c2) (by decide +kernel) rfl rfl rfl (by decide +kernel)
set_option maxRecDepth 65536 in
theorem w_c33 : (Jvm.Cond.code ({ cls := "java/lang/Math", name := "min", desc := "(II)I" } : Jvm.MethodName) jdk_29_method_69_code (2 : Nat) (Option.some Jvm.ClassFile.FieldType.int)).before args0 about1 = true := code_word (m := ⟨21, 2⟩) (meth := k21m2) (c := k21c2) (by decide +kernel) rfl rfl rfl (by decide +kernel)
set_option maxRecDepth 65536 in
theorem w_c34 : (Jvm.Cond.code ({ cls := "java/util/List", name := "of", desc := "([Ljava/lang/Object;)Ljava/util/List;" } : Jvm.MethodName) jdk_40_method_47_code (2 : Nat) (Option.some (Jvm.ClassFile.FieldType.object "java/util/List"))).before args0 about1 = true := code_word (m := ⟨16, 1⟩) (meth := k16m1) (c := k16c1) (by decide +kernel) rfl rfl rfl (by decide +kernel)
set_option maxRecDepth 65536 in
theorem w_c35 : (Jvm.Cond.code ({ cls := "java/util/ImmutableCollections$List12", name := "<init>", desc := "(Ljava/lang/Object;Ljava/lang/Object;)V" } : Jvm.MethodName) jdk_44_method_2_code (3 : Nat) (Option.none : Option Jvm.ClassFile.FieldType)).before args0 about1 = true := code_word (m := ⟨31, 1⟩) (meth := k31m1) (c := k31c1) (by decide +kernel) rfl rfl rfl (by decide +kernel)
set_option maxRecDepth 65536 in
theorem w_c36 : (Jvm.Cond.code ({ cls := "java/util/ImmutableCollections$AbstractImmutableList", name := "<init>", desc := "()V" } : Jvm.MethodName) jdk_46_method_1_code (1 : Nat) (Option.none : Option Jvm.ClassFile.FieldType)).before args0 about1 = true := code_word (m := ⟨30, 0⟩) (meth := k30m0) (c := k30c0) (by decide +kernel) rfl rfl rfl (by decide +kernel)
set_option maxRecDepth 65536 in
theorem w_c37 : (Jvm.Cond.code ({ cls := "java/util/ImmutableCollections$AbstractImmutableCollection", name := "<init>", desc := "()V" } : Jvm.MethodName) jdk_47_method_1_code (1 : Nat) (Option.none : Option Jvm.ClassFile.FieldType)).before args0 about1 = true := code_word (m := ⟨29, 0⟩) (meth := k29m0) (c := k29c0) (by decide +kernel) rfl rfl rfl (by decide +kernel)
set_option maxRecDepth 65536 in
theorem w_c38 : (Jvm.Cond.code ({ cls := "java/util/Objects", name := "requireNonNull", desc := "(Ljava/lang/Object;)Ljava/lang/Object;" } : Jvm.MethodName) jdk_31_method_10_code (1 : Nat) (Option.some (Jvm.ClassFile.FieldType.object "java/lang/Object"))).before args0 about1 = true := code_word (m := ⟨26, 1⟩) (meth := k26m1) (c := k26c1) (by decide +kernel) rfl rfl rfl (by decide +kernel)
set_option maxRecDepth 65536 in
theorem w_c39 : (Jvm.Cond.code ({ cls := "com/example/levy/levy/api/ApiException", name := "status", desc := "()I" } : Jvm.MethodName) prog_2_method_6_code (1 : Nat) (Option.some Jvm.ClassFile.FieldType.int)).before args0 about1 = true := code_word (m := ⟨25, 1⟩) (meth := k25m1) (c := k25c1) (by decide +kernel) rfl rfl rfl (by decide +kernel)
set_option maxRecDepth 65536 in
theorem w_c40 : (Jvm.Cond.code ({ cls := "java/util/ImmutableCollections$List12", name := "get", desc := "(I)Ljava/lang/Object;" } : Jvm.MethodName) jdk_44_method_5_code (2 : Nat) (Option.some (Jvm.ClassFile.FieldType.object "java/lang/Object"))).before args0 about1 = true := code_word (m := ⟨31, 2⟩) (meth := k31m2) (c := k31c2) (by decide +kernel) rfl rfl rfl (by decide +kernel)
set_option maxRecDepth 65536 in
theorem w_c41 : (Jvm.Cond.code ({ cls := "com/example/levy/levy/api/ApiError", name := "type", desc := "()Lcom/example/levy/levy/api/ErrorType;" } : Jvm.MethodName) prog_1_method_2_code (1 : Nat) (Option.some (Jvm.ClassFile.FieldType.object "com/example/levy/levy/api/ErrorType"))).before args0 about1 = true := code_word (m := ⟨2, 1⟩) (meth := k2m1) (c := k2c1) (by decide +kernel) rfl rfl rfl (by decide +kernel)
set_option maxRecDepth 65536 in
theorem w_c42 : (Jvm.Cond.code ({ cls := "com/example/levy/levy/api/ErrorType", name := "status", desc := "()I" } : Jvm.MethodName) prog_7_method_5_code (1 : Nat) (Option.some Jvm.ClassFile.FieldType.int)).before args0 about1 = true := code_word (m := ⟨7, 0⟩) (meth := k7m0) (c := k7c0) (by decide +kernel) rfl rfl rfl (by decide +kernel)
set_option maxRecDepth 65536 in
theorem w_c43 : (Jvm.Cond.code ({ cls := "com/example/levy/levy/api/ApiExceptionStatusPinLaw", name := "expected", desc := "(I)I" } : Jvm.MethodName) method_3_code (1 : Nat) (Option.some Jvm.ClassFile.FieldType.int)).before args0 about1 = true := code_word (m := ⟨1, 2⟩) (meth := k1m2) (c := k1c2) (by decide +kernel) rfl rfl rfl (by decide +kernel)
set_option maxRecDepth 65536 in
theorem w_c44 : (Jvm.Cond.code ({ cls := "java/util/ImmutableCollections$List12", name := "<init>", desc := "(Ljava/lang/Object;)V" } : Jvm.MethodName) jdk_44_method_1_code (2 : Nat) (Option.none : Option Jvm.ClassFile.FieldType)).before args0 about1 = true := code_word (m := ⟨31, 0⟩) (meth := k31m0) (c := k31c0) (by decide +kernel) rfl rfl rfl (by decide +kernel)
set_option maxRecDepth 65536 in
theorem w_c45 : (Jvm.Cond.code ({ cls := "java/util/ImmutableCollections", name := "listFromArray", desc := "([Ljava/lang/Object;)Ljava/util/List;" } : Jvm.MethodName) jdk_56_method_4_code (3 : Nat) (Option.some (Jvm.ClassFile.FieldType.object "java/util/List"))).before args0 about1 = true := code_word (m := ⟨28, 2⟩) (meth := k28m2) (c := k28c2) (by decide +kernel) rfl rfl rfl (by decide +kernel)
set_option maxRecDepth 65536 in
theorem w_c46 : (Jvm.Cond.code ({ cls := "java/util/ImmutableCollections$ListN", name := "<init>", desc := "([Ljava/lang/Object;Z)V" } : Jvm.MethodName) jdk_45_method_1_code (3 : Nat) (Option.none : Option Jvm.ClassFile.FieldType)).before args0 about1 = true := code_word (m := ⟨32, 0⟩) (meth := k32m0) (c := k32c0) (by decide +kernel) rfl rfl rfl (by decide +kernel)
set_option maxRecDepth 65536 in
theorem w_c47 : (Jvm.Cond.code ({ cls := "java/util/ImmutableCollections$ListN", name := "get", desc := "(I)Ljava/lang/Object;" } : Jvm.MethodName) jdk_45_method_4_code (2 : Nat) (Option.some (Jvm.ClassFile.FieldType.object "java/lang/Object"))).before args0 about1 = true := code_word (m := ⟨32, 1⟩) (meth := k32m1) (c := k32c1) (by decide +kernel) rfl rfl rfl (by decide +kernel)
def codes1 : List Jvm.Cond := [Jvm.Cond.code x code maxLocals ret, Jvm.Cond.code ({ cls := "com/example/levy/levy/api/ApiExceptionStatusPinLaw", name := "type", desc := "(I)Lcom/example/levy/levy/api/ErrorType;" } : Jvm.MethodName) method_2_code (1 : Nat) (Option.some (Jvm.ClassFile.FieldType.object "com/example/levy/levy/api/ErrorType")), Jvm.Cond.code ({ cls := "com/example/levy/levy/api/ApiExceptionStatusPinLaw", name := "name", desc := "(I)Ljava/lang/String;" } : Jvm.MethodName) method_4_code (1 : Nat) (Option.some (Jvm.ClassFile.FieldType.object "java/lang/String")), Jvm.Cond.code ({ cls := "java/lang/String", name := "valueOf", desc := "(C)Ljava/lang/String;" } : Jvm.MethodName) jdk_42_method_139_code (1 : Nat) (Option.some (Jvm.ClassFile.FieldType.object "java/lang/String")), Jvm.Cond.code ({ cls := "java/lang/StringLatin1", name := "canEncode", desc := "(C)Z" } : Jvm.MethodName) jdk_43_method_3_code (1 : Nat) (Option.some Jvm.ClassFile.FieldType.boolean), Jvm.Cond.code ({ cls := "java/lang/StringLatin1", name := "toBytes", desc := "(C)[B" } : Jvm.MethodName) jdk_43_method_46_code (1 : Nat) (Option.some (Jvm.ClassFile.FieldType.array Jvm.ClassFile.FieldType.byte)), Jvm.Cond.code ({ cls := "java/lang/String", name := "<init>", desc := "([BB)V" } : Jvm.MethodName) jdk_42_method_151_code (3 : Nat) (Option.none : Option Jvm.ClassFile.FieldType), Jvm.Cond.code ({ cls := "java/lang/Object", name := "<init>", desc := "()V" } : Jvm.MethodName) object_method_1_code (1 : Nat) (Option.none : Option Jvm.ClassFile.FieldType), Jvm.Cond.code ({ cls := "com/example/levy/levy/api/ApiError", name := "<init>", desc := "(Lcom/example/levy/levy/api/ErrorType;Ljava/lang/String;Ljava/lang/String;)V" } : Jvm.MethodName) prog_1_method_1_code (4 : Nat) (Option.none : Option Jvm.ClassFile.FieldType), Jvm.Cond.code ({ cls := "java/util/ArrayList", name := "<init>", desc := "()V" } : Jvm.MethodName) jdk_38_method_2_code (1 : Nat) (Option.none : Option Jvm.ClassFile.FieldType), Jvm.Cond.code ({ cls := "java/util/AbstractList", name := "<init>", desc := "()V" } : Jvm.MethodName) jdk_39_method_1_code (1 : Nat) (Option.none : Option Jvm.ClassFile.FieldType), Jvm.Cond.code ({ cls := "java/util/AbstractCollection", name := "<init>", desc := "()V" } : Jvm.MethodName) jdk_22_method_1_code (1 : Nat) (Option.none : Option Jvm.ClassFile.FieldType), Jvm.Cond.code ({ cls := "java/util/ArrayList", name := "add", desc := "(Ljava/lang/Object;)Z" } : Jvm.MethodName) jdk_38_method_25_code (2 : Nat) (Option.some Jvm.ClassFile.FieldType.boolean), Jvm.Cond.code ({ cls := "java/util/ArrayList", name := "add", desc := "(Ljava/lang/Object;[Ljava/lang/Object;I)V" } : Jvm.MethodName) jdk_38_method_24_code (4 : Nat) (Option.none : Option Jvm.ClassFile.FieldType), Jvm.Cond.code ({ cls := "java/util/ArrayList", name := "grow", desc := "()[Ljava/lang/Object;" } : Jvm.MethodName) jdk_38_method_7_code (1 : Nat) (Option.some (Jvm.ClassFile.FieldType.array (Jvm.ClassFile.FieldType.object "java/lang/Object"))), Jvm.Cond.code ({ cls := "java/util/ArrayList", name := "grow", desc := "(I)[Ljava/lang/Object;" } : Jvm.MethodName) jdk_38_method_6_code (4 : Nat) (Option.some (Jvm.ClassFile.FieldType.array (Jvm.ClassFile.FieldType.object "java/lang/Object"))), Jvm.Cond.code ({ cls := "java/lang/Math", name := "max", desc := "(II)I" } : Jvm.MethodName) jdk_29_method_65_code (2 : Nat) (Option.some Jvm.ClassFile.FieldType.int), Jvm.Cond.code ({ cls := "com/example/levy/levy/api/ApiException", name := "<init>", desc := "(Ljava/util/List;)V" } : Jvm.MethodName) prog_2_method_1_code (2 : Nat) (Option.none : Option Jvm.ClassFile.FieldType), Jvm.Cond.code ({ cls := "java/util/ArrayList", name := "get", desc := "(I)Ljava/lang/Object;" } : Jvm.MethodName) jdk_38_method_20_code (2 : Nat) (Option.some (Jvm.ClassFile.FieldType.object "java/lang/Object")), Jvm.Cond.code ({ cls := "java/util/Objects", name := "checkIndex", desc := "(II)I" } : Jvm.MethodName) jdk_31_method_17_code (2 : Nat) (Option.some Jvm.ClassFile.FieldType.int), Jvm.Cond.code ({ cls := "jdk/internal/util/Preconditions", name := "checkIndex", desc := "(IILjava/util/function/BiFunction;)I" } : Jvm.MethodName) jdk_41_method_11_code (3 : Nat) (Option.some Jvm.ClassFile.FieldType.int), Jvm.Cond.code ({ cls := "java/util/ArrayList", name := "elementData", desc := "(I)Ljava/lang/Object;" } : Jvm.MethodName) jdk_38_method_18_code (2 : Nat) (Option.some (Jvm.ClassFile.FieldType.object "java/lang/Object")), Jvm.Cond.code ({ cls := "com/example/levy/levy/api/ApiError", name := "message", desc := "()Ljava/lang/String;" } : Jvm.MethodName) prog_1_method_4_code (1 : Nat) (Option.some (Jvm.ClassFile.FieldType.object "java/lang/String")), Jvm.Cond.code ({ cls := "java/lang/RuntimeException", name := "<init>", desc := "(Ljava/lang/String;)V" } : Jvm.MethodName) jdk_58_method_2_code (2 : Nat) (Option.none : Option Jvm.ClassFile.FieldType), Jvm.Cond.code ({ cls := "java/lang/Exception", name := "<init>", desc := "(Ljava/lang/String;)V" } : Jvm.MethodName) jdk_59_method_2_code (2 : Nat) (Option.none : Option Jvm.ClassFile.FieldType), Jvm.Cond.code ({ cls := "java/lang/Throwable", name := "<init>", desc := "(Ljava/lang/String;)V" } : Jvm.MethodName) jdk_78_method_2_code (2 : Nat) (Option.none : Option Jvm.ClassFile.FieldType), Jvm.Cond.code ({ cls := "java/lang/Throwable", name := "<init>", desc := "()V" } : Jvm.MethodName) jdk_78_method_1_code (1 : Nat) (Option.none : Option Jvm.ClassFile.FieldType), Jvm.Cond.code ({ cls := "java/util/List", name := "copyOf", desc := "(Ljava/util/Collection;)Ljava/util/List;" } : Jvm.MethodName) jdk_40_method_48_code (1 : Nat) (Option.some (Jvm.ClassFile.FieldType.object "java/util/List")), Jvm.Cond.code ({ cls := "java/util/ImmutableCollections", name := "listCopy", desc := "(Ljava/util/Collection;)Ljava/util/List;" } : Jvm.MethodName) jdk_56_method_3_code (2 : Nat) (Option.some (Jvm.ClassFile.FieldType.object "java/util/List")), Jvm.Cond.code ({ cls := "java/util/ArrayList", name := "isEmpty", desc := "()Z" } : Jvm.MethodName) jdk_38_method_9_code (1 : Nat) (Option.some Jvm.ClassFile.FieldType.boolean), Jvm.Cond.code ({ cls := "java/util/ArrayList", name := "toArray", desc := "()[Ljava/lang/Object;" } : Jvm.MethodName) jdk_38_method_16_code (1 : Nat) (Option.some (Jvm.ClassFile.FieldType.array (Jvm.ClassFile.FieldType.object "java/lang/Object"))), Jvm.Cond.code ({ cls := "java/util/Arrays", name := "copyOf", desc := "([Ljava/lang/Object;I)[Ljava/lang/Object;" } : Jvm.MethodName) jdk_65_method_119_code (2 : Nat) (Option.some (Jvm.ClassFile.FieldType.array (Jvm.ClassFile.FieldType.object "java/lang/Object"))), Jvm.Cond.code ({ cls := "java/util/Arrays", name := "copyOf", desc := "([Ljava/lang/Object;ILjava/lang/Class;)[Ljava/lang/Object;" } : Jvm.MethodName) jdk_65_method_120_code (4 : Nat) (Option.some (Jvm.ClassFile.FieldType.array (Jvm.ClassFile.FieldType.object "java/lang/Object"))), Jvm.Cond.code ({ cls := "java/lang/Math", name := "min", desc := "(II)I" } : Jvm.MethodName) jdk_29_method_69_code (2 : Nat) (Option.some Jvm.ClassFile.FieldType.int), Jvm.Cond.code ({ cls := "java/util/List", name := "of", desc := "([Ljava/lang/Object;)Ljava/util/List;" } : Jvm.MethodName) jdk_40_method_47_code (2 : Nat) (Option.some (Jvm.ClassFile.FieldType.object "java/util/List")), Jvm.Cond.code ({ cls := "java/util/ImmutableCollections$List12", name := "<init>", desc := "(Ljava/lang/Object;Ljava/lang/Object;)V" } : Jvm.MethodName) jdk_44_method_2_code (3 : Nat) (Option.none : Option Jvm.ClassFile.FieldType), Jvm.Cond.code ({ cls := "java/util/ImmutableCollections$AbstractImmutableList", name := "<init>", desc := "()V" } : Jvm.MethodName) jdk_46_method_1_code (1 : Nat) (Option.none : Option Jvm.ClassFile.FieldType), Jvm.Cond.code ({ cls := "java/util/ImmutableCollections$AbstractImmutableCollection", name := "<init>", desc := "()V" } : Jvm.MethodName) jdk_47_method_1_code (1 : Nat) (Option.none : Option Jvm.ClassFile.FieldType), Jvm.Cond.code ({ cls := "java/util/Objects", name := "requireNonNull", desc := "(Ljava/lang/Object;)Ljava/lang/Object;" } : Jvm.MethodName) jdk_31_method_10_code (1 : Nat) (Option.some (Jvm.ClassFile.FieldType.object "java/lang/Object")), Jvm.Cond.code ({ cls := "com/example/levy/levy/api/ApiException", name := "status", desc := "()I" } : Jvm.MethodName) prog_2_method_6_code (1 : Nat) (Option.some Jvm.ClassFile.FieldType.int), Jvm.Cond.code ({ cls := "java/util/ImmutableCollections$List12", name := "get", desc := "(I)Ljava/lang/Object;" } : Jvm.MethodName) jdk_44_method_5_code (2 : Nat) (Option.some (Jvm.ClassFile.FieldType.object "java/lang/Object")), Jvm.Cond.code ({ cls := "com/example/levy/levy/api/ApiError", name := "type", desc := "()Lcom/example/levy/levy/api/ErrorType;" } : Jvm.MethodName) prog_1_method_2_code (1 : Nat) (Option.some (Jvm.ClassFile.FieldType.object "com/example/levy/levy/api/ErrorType")), Jvm.Cond.code ({ cls := "com/example/levy/levy/api/ErrorType", name := "status", desc := "()I" } : Jvm.MethodName) prog_7_method_5_code (1 : Nat) (Option.some Jvm.ClassFile.FieldType.int), Jvm.Cond.code ({ cls := "com/example/levy/levy/api/ApiExceptionStatusPinLaw", name := "expected", desc := "(I)I" } : Jvm.MethodName) method_3_code (1 : Nat) (Option.some Jvm.ClassFile.FieldType.int), Jvm.Cond.code ({ cls := "java/util/ImmutableCollections$List12", name := "<init>", desc := "(Ljava/lang/Object;)V" } : Jvm.MethodName) jdk_44_method_1_code (2 : Nat) (Option.none : Option Jvm.ClassFile.FieldType), Jvm.Cond.code ({ cls := "java/util/ImmutableCollections", name := "listFromArray", desc := "([Ljava/lang/Object;)Ljava/util/List;" } : Jvm.MethodName) jdk_56_method_4_code (3 : Nat) (Option.some (Jvm.ClassFile.FieldType.object "java/util/List")), Jvm.Cond.code ({ cls := "java/util/ImmutableCollections$ListN", name := "<init>", desc := "([Ljava/lang/Object;Z)V" } : Jvm.MethodName) jdk_45_method_1_code (3 : Nat) (Option.none : Option Jvm.ClassFile.FieldType), Jvm.Cond.code ({ cls := "java/util/ImmutableCollections$ListN", name := "get", desc := "(I)Ljava/lang/Object;" } : Jvm.MethodName) jdk_45_method_4_code (2 : Nat) (Option.some (Jvm.ClassFile.FieldType.object "java/lang/Object"))]
set_option maxRecDepth 65536 in
theorem codes_eq : words1.filter isCode = codes1 := rfl
theorem w_codes : ∀ c ∈ words1.filter isCode, c.before args0 about1 = true := by
  rw [codes_eq]
  intro c hc
  simp only [codes1, List.mem_cons, List.not_mem_nil, or_false] at hc
  rcases hc with rfl | rfl | rfl | rfl | rfl | rfl | rfl | rfl | rfl | rfl | rfl | rfl | rfl | rfl | rfl | rfl | rfl | rfl | rfl | rfl | rfl | rfl | rfl | rfl | rfl | rfl | rfl | rfl | rfl | rfl | rfl | rfl | rfl | rfl | rfl | rfl | rfl | rfl | rfl | rfl | rfl | rfl | rfl | rfl | rfl | rfl | rfl | rfl
  · exact w_c0
  · exact w_c1
  · exact w_c2
  · exact w_c3
  · exact w_c4
  · exact w_c5
  · exact w_c6
  · exact w_c7
  · exact w_c8
  · exact w_c9
  · exact w_c10
  · exact w_c11
  · exact w_c12
  · exact w_c13
  · exact w_c14
  · exact w_c15
  · exact w_c16
  · exact w_c17
  · exact w_c18
  · exact w_c19
  · exact w_c20
  · exact w_c21
  · exact w_c22
  · exact w_c23
  · exact w_c24
  · exact w_c25
  · exact w_c26
  · exact w_c27
  · exact w_c28
  · exact w_c29
  · exact w_c30
  · exact w_c31
  · exact w_c32
  · exact w_c33
  · exact w_c34
  · exact w_c35
  · exact w_c36
  · exact w_c37
  · exact w_c38
  · exact w_c39
  · exact w_c40
  · exact w_c41
  · exact w_c42
  · exact w_c43
  · exact w_c44
  · exact w_c45
  · exact w_c46
  · exact w_c47
set_option maxRecDepth 65536 in
theorem w_t1 : (words1.take 24).all (fun c => isCode c || c.before args0 about1) = true := by decide +kernel
set_option maxRecDepth 65536 in
theorem w_t2 : ((words1.drop 24).take 24).all (fun c => isCode c || c.before args0 about1) = true := by decide +kernel
set_option maxRecDepth 65536 in
theorem w_t3 : (((words1.drop 24).drop 24).take 24).all (fun c => isCode c || c.before args0 about1) = true := by decide +kernel
set_option maxRecDepth 65536 in
theorem w_t4 : ((((words1.drop 24).drop 24).drop 24).take 24).all (fun c => isCode c || c.before args0 about1) = true := by decide +kernel
set_option maxRecDepth 65536 in
theorem w_t5 : (((((words1.drop 24).drop 24).drop 24).drop 24).take 24).all (fun c => isCode c || c.before args0 about1) = true := by decide +kernel
set_option maxRecDepth 65536 in
theorem w_t6 : ((((((words1.drop 24).drop 24).drop 24).drop 24).drop 24).take 24).all (fun c => isCode c || c.before args0 about1) = true := by decide +kernel
set_option maxRecDepth 65536 in
theorem w_t7 : (((((((words1.drop 24).drop 24).drop 24).drop 24).drop 24).drop 24).take 24).all (fun c => isCode c || c.before args0 about1) = true := by decide +kernel
set_option maxRecDepth 65536 in
theorem w_t8 : ((((((((words1.drop 24).drop 24).drop 24).drop 24).drop 24).drop 24).drop 24).take 24).all (fun c => isCode c || c.before args0 about1) = true := by decide +kernel
set_option maxRecDepth 65536 in
theorem w_t9 : (((((((((words1.drop 24).drop 24).drop 24).drop 24).drop 24).drop 24).drop 24).drop 24).take 24).all (fun c => isCode c || c.before args0 about1) = true := by decide +kernel
set_option maxRecDepth 65536 in
theorem w_t10 : ((((((((((words1.drop 24).drop 24).drop 24).drop 24).drop 24).drop 24).drop 24).drop 24).drop 24).take 24).all (fun c => isCode c || c.before args0 about1) = true := by decide +kernel
set_option maxRecDepth 65536 in
theorem w_t11 : (((((((((((words1.drop 24).drop 24).drop 24).drop 24).drop 24).drop 24).drop 24).drop 24).drop 24).drop 24).take 24).all (fun c => isCode c || c.before args0 about1) = true := by decide +kernel
set_option maxRecDepth 65536 in
theorem w_t12 : ((((((((((((words1.drop 24).drop 24).drop 24).drop 24).drop 24).drop 24).drop 24).drop 24).drop 24).drop 24).drop 24).take 24).all (fun c => isCode c || c.before args0 about1) = true := by decide +kernel
set_option maxRecDepth 65536 in
theorem w_t13 : (((((((((((((words1.drop 24).drop 24).drop 24).drop 24).drop 24).drop 24).drop 24).drop 24).drop 24).drop 24).drop 24).drop 24).take 24).all (fun c => isCode c || c.before args0 about1) = true := by decide +kernel
set_option maxRecDepth 65536 in
theorem w_t14 : ((((((((((((((words1.drop 24).drop 24).drop 24).drop 24).drop 24).drop 24).drop 24).drop 24).drop 24).drop 24).drop 24).drop 24).drop 24).take 24).all (fun c => isCode c || c.before args0 about1) = true := by decide +kernel
set_option maxRecDepth 65536 in
theorem w_t15 : (((((((((((((((words1.drop 24).drop 24).drop 24).drop 24).drop 24).drop 24).drop 24).drop 24).drop 24).drop 24).drop 24).drop 24).drop 24).drop 24).take 24).all (fun c => isCode c || c.before args0 about1) = true := by decide +kernel
set_option maxRecDepth 65536 in
theorem w_t16 : (((((((((((((((words1.drop 24).drop 24).drop 24).drop 24).drop 24).drop 24).drop 24).drop 24).drop 24).drop 24).drop 24).drop 24).drop 24).drop 24).drop 24).all (fun c => isCode c || c.before args0 about1) = true := by decide +kernel
theorem w_tables : (allAtoms (Jvm.Cond.code x code maxLocals ret :: tables_1)).before args0 about1 = true := by
  rw [allAtoms_all]
  show words1.all (fun c => c.before args0 about1) = true
  refine all_split ?_ w_codes
  rw [← List.take_append_drop 24 words1, List.all_append, w_t1, ← List.take_append_drop 24 (words1.drop 24), List.all_append, w_t2, ← List.take_append_drop 24 ((words1.drop 24).drop 24), List.all_append, w_t3, ← List.take_append_drop 24 (((words1.drop 24).drop 24).drop 24), List.all_append, w_t4, ← List.take_append_drop 24 ((((words1.drop 24).drop 24).drop 24).drop 24), List.all_append, w_t5, ← List.take_append_drop 24 (((((words1.drop 24).drop 24).drop 24).drop 24).drop 24), List.all_append, w_t6, ← List.take_append_drop 24 ((((((words1.drop 24).drop 24).drop 24).drop 24).drop 24).drop 24), List.all_append, w_t7, ← List.take_append_drop 24 (((((((words1.drop 24).drop 24).drop 24).drop 24).drop 24).drop 24).drop 24), List.all_append, w_t8, ← List.take_append_drop 24 ((((((((words1.drop 24).drop 24).drop 24).drop 24).drop 24).drop 24).drop 24).drop 24), List.all_append, w_t9, ← List.take_append_drop 24 (((((((((words1.drop 24).drop 24).drop 24).drop 24).drop 24).drop 24).drop 24).drop 24).drop 24), List.all_append, w_t10, ← List.take_append_drop 24 ((((((((((words1.drop 24).drop 24).drop 24).drop 24).drop 24).drop 24).drop 24).drop 24).drop 24).drop 24), List.all_append, w_t11, ← List.take_append_drop 24 (((((((((((words1.drop 24).drop 24).drop 24).drop 24).drop 24).drop 24).drop 24).drop 24).drop 24).drop 24).drop 24), List.all_append, w_t12, ← List.take_append_drop 24 ((((((((((((words1.drop 24).drop 24).drop 24).drop 24).drop 24).drop 24).drop 24).drop 24).drop 24).drop 24).drop 24).drop 24), List.all_append, w_t13, ← List.take_append_drop 24 (((((((((((((words1.drop 24).drop 24).drop 24).drop 24).drop 24).drop 24).drop 24).drop 24).drop 24).drop 24).drop 24).drop 24).drop 24), List.all_append, w_t14, ← List.take_append_drop 24 ((((((((((((((words1.drop 24).drop 24).drop 24).drop 24).drop 24).drop 24).drop 24).drop 24).drop 24).drop 24).drop 24).drop 24).drop 24).drop 24), List.all_append, w_t15, w_t16]
  rfl
set_option maxRecDepth 65536 in
theorem w_rest : rest_1_c.before args0 about1 = true := by decide +kernel
set_option maxRecDepth 65536 in
theorem w_case : (Jvm.Cond.and given_1 narrow_1).before args0 about1 = true := by decide +kernel
theorem w_applies : (headSpec (Jvm.Cond.code x code maxLocals ret :: tables_1) room_1).applies x e0.platform about1 = true :=
  (Spec.applies_iff w_frames).mpr ⟨w_running, w_runnable, w_alone, w_named, w_hears, w_ripe, w_room, w_tables⟩
theorem atStart : AtStart classFile x code maxLocals ret World_1 tables_1 room_1 Calls_1 rest_1 Pre_1 launch0 p0 e0 about1 theMethod args0 below0 :=
  ⟨lists_1, trivial, launch0.admits_env _ _ _, launch0.least_env, fairChoices_fair.cas, fairChoices_fair.clock, w_frames, w_args, w_heap, w_applies, ⟨(by decide +kernel : framesKnown about1 = true), ⟨(by decide +kernel : tablesKnown about1 = true), ⟨⟨44, k44, 7, by decide +kernel, rfl, rfl, _, rfl, rfl⟩, trivial⟩⟩⟩, w_rest, w_case⟩
end start1
theorem witness_1 : WitnessClaimed_1 := ⟨start1.p0, start1.e0, start1.about1, start1.theMethod, start1.args0, start1.below0, start1.atStart⟩
end Jvm.Pilot.@@N@@
