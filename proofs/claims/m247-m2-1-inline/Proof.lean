import JvmDerived
import JvmDerived.Pilot.@@N@@Statement
import JvmDerived.Pilot.@@N@@Code
set_option linter.unusedVariables false
set_option linter.unusedSimpArgs false
namespace Jvm.RoadKit
open Sem ClassFile Op Lib Jvm.Stand Jvm.Free Jvm.LawKit
section New
variable {p : Program} {l : Launch} {e : Env} {R : Room} {s : State} {m : MethodId} {args : Array Value} {below : List Frame} {meth : Method} {c : Code} {T : State} {locs : List Loc} {cells slots : Nat}
theorem retI (X : Stand p l e R s m args below meth c T locs cells slots) (hx : p.tables.exec = Jvm.exec) {pc : Nat} {Ls : Array Slot} {z : Int32} {rest : List Value} (hret : meth.sig.returnType = some .int) (hd : decode c.code pc = .ok (.ireturn, 1)) {fs : List Frame}
    (hl : ∀ (f : JFrame) (acts : List Action), f.method = m → f.locked = none → f.entered = [] → (doReturn e (T.setTop f) acts (some (.int z))).1 = T.setFrames fs) : Steps p.tables e below (T.setTop (mkF m pc Ls (.int z :: rest))) (T.setFrames fs) := by
  have hm' : T.vm.method? m = some meth := X.method'
  have hn : narrow .int (.int z) = .int z := rfl
  show Steps p.tables e below (T.setTop { method := m, pc := pc, locals := Ls, stack := _ :: rest, locked := none }) _
  jvm_step X.here [X.here.top, hx, hd, hm', hret, hn]
  first | (intro acts; rw [hl _ acts rfl rfl rfl]) | rw [hl _ _ rfl rfl rfl]
  exact Steps.refl _
end New
end Jvm.RoadKit
namespace Jvm.Pilot.@@N@@
open Jvm Jvm.ClassFile Sem Op Lib Jvm.Free Jvm.Stand Jvm.LawKit Jvm.RoadKit Bundle Jvm.Pilot.@@N@@.Jvm.D
abbrev vI (x : Int32) : Slot := .val (.int x)
abbrev vR (a : Addr) : Slot := .val (.ref a)
theorem own_z0 {Z : State} {n0 : Nat} {h : Heap} (X : Old Z n0 h) : n0 ≤ h.size := X.1 ▸ X.2.1
theorem own_insKeep {Z : State} {h h' : Heap} {ws : List Addr} {a : Addr} {C : String} (F : Ins Z h a C true) (K : Keep h h' ws) : Ins Z h' a C true := by
  obtain ⟨cell, cT, h1, h2, h3⟩ := F
  obtain ⟨c', q, r1, r2, r3⟩ := K.2.2 a cell h1
  exact ⟨c', cT, q, h2, by rw [r1, r2]; exact h3⟩
theorem own_neArv {Z : State} {h : Heap} {a b : Addr} {C : String} {a0 : Array Value} {k : Nat} {kk : ClassId} {ty : FieldType} {z : Int32} {vs : List Value} {d : Value} (F : Exa Z h a C) (wi : (Cond.instantiable C k).before a0 Z = true) (G : Arv Z h b kk ty z vs d) : a ≠ b := by
  obtain ⟨c, A, -⟩ := G
  exact ne_arr F wi A
theorem own_mvM {Z s : State} {a0 args : Array Value} {own host : String} {index : Nat} {y : MethodName} (hZ : Z.Warmed39 s.vm) (w : (Cond.methodLinkNest own index y host).before a0 Z = true) : (Cond.methodLinkNest own index y host).before args s = true := (Cond.methodLinkNest_wide hZ w :)
theorem own_eqI {args : Array Value} {s : State} {t : Term} {k : Int32} (h : (Jvm.Cond.eq t (Jvm.Term.int k)).value args s none s [] = some true) : t.eval args s none [] s = some (.int k) := by
  obtain ⟨x, y, e1, e2, k1, k2⟩ := cmp_v (Or.inl h)
  have e3 : y = .int k := (Option.some.inj e2).symm
  subst e3
  obtain ⟨z, rfl⟩ : ∃ z, x = .int z := k2
  rw [e1, gotT (Cond.eq_ints e1 (Term.int_eval k)) h]
theorem own_fldI {args : Array Value} {s : State} {t : Term} {a : Addr} {C n d : String} {k : Int32} (ev : t.eval args s none [] s = some (.ref a)) (h : (Jvm.Cond.eq (Jvm.Term.field t C n d) (Jvm.Term.int k)).value args s none s [] = some true) : Fld s s.heap a C n d (.int k) := Fld.start ((fld_at ev).symm.trans (own_eqI h))
theorem own_len {args : Array Value} {s : State} {t : Term} {a : Addr} {cl : Cell} {k : Int32} (ev : t.eval args s none [] s = some (.ref a)) (hc : s.heap[a]? = some cl) (h : (Jvm.Cond.eq (Jvm.Term.length t) (Jvm.Term.int k)).value args s none s [] = some true) : cl.slots.size < 2 ^ 31 ∧ cl.slots.size.toInt32 = k := by
  have e := own_eqI h
  have e' := e
  obtain ⟨a', cell, h1, h2, h3⟩ := Term.length_spec e
  cases ev.symm.trans h1
  cases hc.symm.trans (State.arrayAt?_spec h2).1
  refine ⟨?_, (Value.int.inj h3).symm⟩
  by_cases q : cl.slots.size < 2147483648
  · exact q
  · simp [Term.eval, ev, h2, q] at e'
theorem own_elem {args : Array Value} {s : State} {t i : Term} {a : Addr} {cl : Cell} {j k : Int32} (ev : t.eval args s none [] s = some (.ref a)) (hc : s.heap[a]? = some cl) (hi : i.eval args s none [] s = some (.int j)) (h : (Jvm.Cond.eq (Jvm.Term.elem t i) (Jvm.Term.int k)).value args s none s [] = some true) : cl.slots[j.toNatClampNeg]? = some (.int k) := (elem_in (own_eqI h) ev hi hc).2
theorem own_narR {w : Value} {n : String} (h : w.isRef = true) : narrow (.object n) w = w := by cases w <;> simp [Value.isRef] at h <;> rfl
theorem own_fitR {w : Value} {n : String} (h : w.isRef = true) : fits (.object n) w = true := by cases w <;> simp [Value.isRef] at h <;> rfl
theorem own_safeNull {Z : State} {EL : List (String × Nat)} {vm : Vm} {h : Heap} {x : Addr} (hal : Z.vm.Alike vm) (E : Exa Z h x "java/lang/String") (F : Fld Z h x "java/lang/String" "value" "[B" .null) : Safe Z EL vm h x := fun B => by
  obtain ⟨cell, k, e1, e2, e3, -, -⟩ := E
  obtain ⟨cl, cf, kf, i, f, g1, g2, -, -, -, -, g7⟩ := F
  cases e1.symm.trans g1
  obtain ⟨p, -, u, a, -, q, -, S, rfl | rfl⟩ := B
  · cases (show h[q.sa]? = some q.sC from S.ha).symm.trans e1
    obtain ⟨cS, ⟨⟨-, -, -, ⟨c1, k1, i1, f1, -⟩, -, -, -, v1, -⟩, -⟩, -⟩ := S
    obtain ⟨k3, e4, -⟩ := State.fieldFound?_setVm (s := Z) hal g2
    have e5 := (show (Wst Z vm h).fieldFound? _ _ _ = _ from e4).symm.trans f1
    simp only [Option.some.injEq, Prod.mk.injEq] at e5
    rw [e5.2.2.2, v1] at g7
    cases g7
  · cases (show h[q.sd]? = some q.SA from S.hd).symm.trans e1
    obtain ⟨cS, -, -, f0, -⟩ := S
    have f1 : Z.vm.findClass "[B" = some q.SA.cls := by rw [← hal.findClass]; exact f0
    obtain ⟨k1, q1, q2⟩ := Vm.findClass_spec f1
    obtain ⟨k2, q3, q4⟩ := Vm.findClass_spec e2
    cases q1.symm.trans q3
    exact absurd (q2.symm.trans q4) (by decide)
theorem own_catR {w : Value} (h : w.isRef = true) : w.category = 1 := by cases w <;> simp [Value.isRef] at h <;> rfl
theorem own_ret {v w : Value} (h : v = w) : some v = some w := congrArg some h
theorem own_selfPriv {Z : State} {a0 : Array Value} {C : String} {y : MethodName} (w : (Cond.selects C y y).before a0 Z = true) (wp : (Cond.privateMethod y).before a0 Z = true) (wi : (Cond.instanceMethod y).before a0 Z = true) (hy : y.cls ≠ "java/lang/invoke/MethodHandle" ∧ y.cls ≠ "java/lang/invoke/VarHandle") : (Cond.selects y.cls y y).before a0 Z = true := by
  obtain ⟨_, _, _, -, -, q3, -, kP, hkP, hkPi⟩ := Cond.selects_spec w
  exact Jvm.Stand.selects_self_of_private (findClass_of_methodNamed q3) hkP hkPi (Cond.privateMethod_at wp) wi hy
theorem own_sameM {Z : State} {a0 : Array Value} {C : String} {y z z' : MethodName} (w1 : (Cond.declares y).before a0 Z = true) (w2 : (Cond.selects C z z').before a0 Z = true) (hc : z'.cls = y.cls) (hy : y.cls ≠ "java/lang/invoke/MethodHandle" ∧ y.cls ≠ "java/lang/invoke/VarHandle") : (Cond.sameMethod y.cls y.cls y.name y.desc).before a0 Z = true := by
  obtain ⟨m, meth, h1, -, -, -⟩ := Cond.declares_spec w1
  obtain ⟨_, _, m2, -, -, q3, -, kP, hkP, hkPi⟩ := Cond.selects_spec w2
  have f1 := findClass_of_methodNamed h1
  have f2 := findClass_of_methodNamed q3
  rw [hc] at f2
  have e : m.cls = m2.cls := Option.some.inj (f1.symm.trans f2)
  rw [← e] at hkP
  have g : Z.methodFound? y.cls y.name y.desc = some m := State.methodFound?_of_named h1 hy
  have h2 : Z.methodNamed? ⟨y.cls, y.name, y.desc⟩ = some m := h1
  simp only [Cond.before, Cond.holds, Cond.value, f1, g, h2, hkP]
  simp [hkPi]
theorem own_nfSel {s : State} {args : Array Value} {C : String} {y z z' : MethodName} (w : (Cond.selects C z z').before args s = true) (hc : z'.cls = y.cls) : NotFace s y := fun r0 h0 => by
  obtain ⟨_, _, m2, -, -, q3, -, kP, hkP, hkPi⟩ := Cond.selects_spec w
  have f1 := findClass_of_methodNamed h0
  have f2 := findClass_of_methodNamed q3
  rw [hc] at f2
  have e : r0.cls = m2.cls := Option.some.inj (f1.symm.trans f2)
  exact ⟨kP, by rw [e]; exact hkP, hkPi⟩
theorem own_zy {x y m n : Nat} (h : x = y ∨ n ≤ x) (hy : m ≤ y) (hn : m ≤ n) : m ≤ x := by rcases h with rfl | q; exact hy; exact Nat.le_trans hn q
theorem own_inY {x z n : Nat} {ws : List Addr} (h : x = z ∨ n ≤ x) (hz : z ∈ ws) : x ∈ ws ∨ n ≤ x := by rcases h with rfl | q; exact Or.inl hz; exact Or.inr q
theorem own_yy {x y z m n : Nat} (h : x = y ∨ n ≤ x) (hy : y = z ∨ m ≤ y) (hn : m ≤ n) : x = z ∨ m ≤ x := by rcases h with rfl | q; exact hy; exact Or.inr (Nat.le_trans hn q)
theorem own_neY {z x y n : Nat} (h : x = y ∨ n ≤ x) (hy : z ≠ y) (hz : z < n) : z ≠ x := by rcases h with rfl | q; exact hy; exact Nat.ne_of_lt (Nat.lt_of_lt_of_le hz q)
theorem own_safeY {Z : State} {EL : List (String × Nat)} {vm : Vm} {h : Heap} {x y : Addr} (q : x = y ∨ h.size ≤ x) (S : Safe Z EL vm h y) : Safe Z EL vm h x := by
  rcases q with rfl | q
  · exact S
  · exact Safe.new q
theorem own_cut {G : Prop} (P : Prop → Prop) (h1 : P G) (h2 : P G → G) : G := h2 h1
theorem own_loop {G : Prop} (P : Nat → Prop → Prop) (h1 : ∀ k, (∀ j, j < k → P j G) → P k G) (h2 : (∀ k, P k G) → G) : G := h2 fun k => Nat.strongRecOn k h1
theorem w_14 : (Cond.stringLink "java/lang/String" (7 : Nat) "") ∈ tables_1 := List.mem_of_getElem? (i := 14) (by decide +kernel)
theorem w_225 : (Cond.stringLink "com/example/levy/levy/store/StoreExceptionUnknownPinLaw" (32 : Nat) "the data file holds an unknown : ") ∈ tables_1 := List.mem_of_getElem? (i := 225) (by decide +kernel)
theorem w_118 : (Cond.stringLink "com/example/levy/levy/store/StoreException" (23 : Nat) ": ") ∈ tables_1 := List.mem_of_getElem? (i := 118) (by decide +kernel)
theorem w_46 : (Cond.stringLink "com/example/levy/levy/store/StoreException" (17 : Nat) "the data file holds an unknown ") ∈ tables_1 := List.mem_of_getElem? (i := 46) (by decide +kernel)
def own_EL : List (String × Nat) := [("com/example/levy/levy/store/StoreException", 17), ("com/example/levy/levy/store/StoreException", 23), ("com/example/levy/levy/store/StoreExceptionUnknownPinLaw", 32), ("java/lang/String", 7)]
theorem own_EW {Z : State} {a0 : Array Value} (hw : ∀ d ∈ tables_1, d.before a0 Z = true) : EW Z a0 own_EL := (EW.cons (hw _ w_46) (by decide) (EW.cons (hw _ w_118) (by decide) (EW.cons (hw _ w_225) (by decide) (EW.cons (hw _ w_14) (by decide) EW.nil))))
theorem own_wS {Z : State} {a0 : Array Value} (hw : ∀ d ∈ tables_1, d.before a0 Z = true) : ∀ d ∈ Bundle.stringAtoms, d.before a0 Z = true := fun d hd => hw d ((by decide +kernel : ∀ d ∈ Bundle.stringAtoms, d ∈ tables_1) d hd)
def own_Mr (Z : State) (C : String) (mr : Addr) : Prop := ∃ (c : ClassId) (k : Class), Z.vm.findClass C = some c ∧ Z.vm.classes[c]? = some k ∧ k.mirror = some mr
theorem own_gcls {p : Program} {l : Launch} {e : Env} {R : Room} {s : State} {m : MethodId} {args : Array Value} {below : List Frame} {meth : Method} {c : Code} {T : State} {locs : List Loc} {cells slots : Nat} {Z : State} {a0 : Array Value} {h : Heap}
    (X : Stand p l e R s m args below meth c T locs cells slots) (hx : p.tables.exec = Jvm.exec) (hZ : Z.Warmed39 s.vm) {own C : String} {index : Nat} (hown : s.vm.findClass own = some m.cls)
    (w1 : (Cond.methodLink own index ⟨"java/lang/Object", "getClass", "()Ljava/lang/Class;"⟩).before a0 Z = true) (w2 : (Cond.declares ⟨"java/lang/Object", "getClass", "()Ljava/lang/Class;"⟩).before a0 Z = true) (w3 : (Cond.noSuperclass "java/lang/Object").before a0 Z = true) (w4 : (Cond.selects C ⟨"java/lang/Object", "getClass", "()Ljava/lang/Class;"⟩ ⟨"java/lang/Object", "getClass", "()Ljava/lang/Class;"⟩).before a0 Z = true)
    (w5 : (Cond.instanceMethod ⟨"java/lang/Object", "getClass", "()Ljava/lang/Class;"⟩).before a0 Z = true) (w6 : (Cond.native ⟨"java/lang/Object", "getClass", "()Ljava/lang/Class;"⟩).before a0 Z = true) (eT : T.heap = h) {a mr : Addr} (E : Exa Z h a C) (M : own_Mr Z C mr)
    {g : JFrame} (hg : g.method = m) (hsize : g.locals.size = c.maxLocals) {rest : List Value} (hs : g.stack = .ref a :: rest) (hd : decode c.code g.pc = .ok (.invokevirtual index, 3)) (hf : 1 ≤ R.frames) {W : Nat} (hW : 2 * g.monitorRoom + (rest.map fun v => v.category).sum ≤ W) (hl : W + (nativeFrameWords "java/lang/Object" "getClass" 1 + 11) ≤ R.locals) :
    ∃ T', Stand p l e R s m args below meth c T' locs cells slots ∧ T'.heap = h ∧ ∀ target, Steps p.tables e below (T'.setTop { g with pc := g.pc + 3, stack := .ref mr :: rest }) target → Steps p.tables e below (T.setTop g) target := by
  obtain ⟨cB, kB, i1, i2, i3⟩ := isOf hZ eT E
  obtain ⟨cc, kc, m1, m2, m3⟩ := M
  have hc : s.vm.findClass C = some cc := by rw [hZ.alike.findClass]; exact m1
  obtain rfl : cB = cc := Option.some.inj (i1.symm.trans hc)
  obtain ⟨k', q, ek⟩ := hZ.alike.2.2 _ _ m2
  obtain ⟨vm', X', st⟩ := X.getClassOf hx hown (mvT hZ w1) (mvT hZ w2) (nf_top (args := #[]) (mvT hZ w3)) (mvT hZ w4) (mvT hZ w5) (mvT hZ w6) hc i3 q (by rw [ek]; exact m3) hg hsize hs hd hf (by omega)
  exact ⟨_, X', eT, st⟩
theorem own_ldcM {p : Program} {l : Launch} {e : Env} {R : Room} {s : State} {m : MethodId} {args : Array Value} {below : List Frame} {meth : Method} {c : Code} {T : State} {locs : List Loc} {cells slots : Nat} {Z : State} {a0 : Array Value} {h : Heap}
    (X : Stand p l e R s m args below meth c T locs cells slots) (hx : p.tables.exec = Jvm.exec) (hZ : Z.Warmed39 s.vm) {own C : String} {index : Nat} (hown : s.vm.findClass own = some m.cls) (w : (Cond.classLink own index C).before a0 Z = true) (eT : T.heap = h) {mr : Addr} (M : own_Mr Z C mr)
    {g : JFrame} (hg : g.method = m) (hd : decode c.code g.pc = .ok (.ldc index, 2)) :
    ∃ T', Stand p l e R s m args below meth c T' locs cells slots ∧ T'.heap = h ∧ ∀ target, Steps p.tables e below (T'.setTop { g with pc := g.pc + 2, stack := .ref mr :: g.stack }) target → Steps p.tables e below (T.setTop g) target := by
  obtain ⟨cc, kc, m1, m2, m3⟩ := M
  have hc : s.vm.findClass C = some cc := by rw [hZ.alike.findClass]; exact m1
  obtain ⟨k', q, ek⟩ := hZ.alike.2.2 _ _ m2
  have m4 : k'.mirror = some mr := by rw [ek]; exact m3
  obtain ⟨vm', X', st⟩ := X.ldcMirror hx hown (mvT hZ w) (C := C) (a := mr) (by simp [Term.eval, hc, q, m4]) hg hd
  exact ⟨_, X', eT, st⟩
theorem own_kpKeep {Z : State} {h h' : Heap} {a : Addr} (K : Kp Z h h' a) : Keep h h' [a] := ⟨K.1, fun x c q r => by
  obtain ⟨c', q1, -, -, q4, -⟩ := K.2 _ _ q
  rw [q1, q4 (fun z => r (by simp [z]))], fun x c q => by
  obtain ⟨c', q1, q2, q3, -⟩ := K.2 _ _ q
  exact ⟨c', q1, by rw [q2], by rw [q2], q3⟩⟩
theorem own_nsRoot {Z : State} {a0 : Array Value} {O K : String} {n : Nat} (w : (Cond.noSuperclass O).before a0 Z = true) (wk : (Cond.instantiable K n).before a0 Z = true) (hn : O ≠ K) : NS Z O K := by
  obtain ⟨c, k, h1, h2, h3, -, -⟩ := Cond.noSuperclass_spec w
  obtain ⟨t, kt, g1, -⟩ := Cond.instantiable_spec wk
  have ne := ids_ne h1 g1 hn
  refine ⟨c, t, h1, g1, fun fuel => ?_⟩
  cases fuel with
  | zero => rfl
  | succ f => simp [Vm.isSubclassAux, ne, h2, h3]
theorem own_nsNo {Z : State} {a0 : Array Value} {C S K : String} {n : Nat} (w : (Cond.superclass C S).before a0 Z = true) (wk : (Cond.instantiable K n).before a0 Z = true) (hns : NS Z C K) (hn : C ≠ K) : ∃ c t, Z.vm.findClass C = some c ∧ Z.vm.findClass K = some t ∧ Z.vm.assignable c t = false := by
  obtain ⟨c, t, h0, g0, n3⟩ := hns
  obtain ⟨p, k, kp, h1, h2, h3, h4, h5, -, h7⟩ := Cond.superclass_spec h0 w
  obtain ⟨t', kt, g1, g2, g3, g4, -⟩ := Cond.instantiable_spec wk
  cases g0.symm.trans g1
  have ne := ids_ne h0 g0 hn
  have g5 : kt.isInterface = false := by
    cases hq : kt.isInterface
    · rfl
    · rw [hq] at g4; simp at g4
  refine ⟨c, t, h0, g0, ?_⟩
  show Z.vm.assignableAux (255 + 1) c t = false
  simp [Vm.assignableAux, ne, h2, g2, h5, g3, g5, Vm.isSubclass, n3]
def own_i (k : Nat) : Int32 := Int32.ofNat k
theorem own_it {a : Nat} (h : a < 2147483648) : (own_i a).toInt = a := by
  unfold own_i; exact Int32.toInt_ofNat_of_lt (by simpa using h)
theorem own_ilt {a b : Nat} (ha : a < 2147483648) (hb : b < 2147483648) : own_i a < own_i b ↔ a < b := by rw [Int32.lt_iff_toInt_lt, own_it ha, own_it hb]; omega
theorem own_ieq {a b : Nat} (ha : a < 2147483648) (hb : b < 2147483648) : own_i a = own_i b ↔ a = b := by rw [← Int32.toInt_inj, own_it ha, own_it hb]; omega
theorem own_inat {a : Nat} (h : a < 2147483648) : (own_i a).toNatClampNeg = a := by
  show (own_i a).toInt.toNat = a
  rw [own_it h]; rfl
theorem own_iadd (a b : Nat) : own_i a + own_i b = own_i (a + b) := (Int32.ofNat_add a b).symm
theorem own_isub {a b : Nat} (h : b ≤ a) : own_i a - own_i b = own_i (a - b) := by
  obtain ⟨c, rfl⟩ := Nat.exists_eq_add_of_le h
  rw [Nat.add_sub_cancel_left, ← own_iadd, Int32.add_comm, Int32.add_sub_cancel]
theorem own_idec {a : Nat} (h : 1 ≤ a) : own_i a + (-1 : Int32) = own_i (a - 1) := by
  rw [show (-1 : Int32) = -(1 : Int32) from rfl, ← Int32.sub_eq_add_neg]; exact own_isub (b := 1) h
theorem own_i0 {a : Nat} (h : a < 2147483648) : own_i a = (0 : Int32) ↔ a = 0 := own_ieq (b := 0) h (by decide)
theorem own_inn {a : Nat} (h : a < 2147483648) : ¬ own_i a < (0 : Int32) := by rw [Int32.lt_iff_toInt_lt, own_it h]; show ¬ ((a : Int) < 0); omega
theorem own_anti {x y : Int32} (h1 : ¬ x < y) (h2 : ¬ y < x) : x = y := by rw [Int32.lt_iff_toInt_lt] at h1 h2; exact Int32.toInt_inj.mp (by omega)
theorem own_shr0 (x : Int32) : x >>> ((0 : Int32) &&& 31) = x := by rw [show ((0 : Int32) &&& 31) = 0 from rfl]; exact Int32.shiftRight_zero
def own_u (xs : List Int32) (i : Nat) : Int32 := xs.getD i 0 &&& 255
theorem own_gdN (xs : List Int32) (i : Nat) : (xs.map Value.int).getD i (.int 0) = .int (xs.getD i 0) := by
  simp only [List.getD_eq_getElem?_getD, List.getElem?_map]
  cases xs[i]? <;> rfl
theorem own_gd (xs : List Int32) {i : Nat} (h : i < 2147483648) : (xs.map Value.int).getD (own_i i).toNatClampNeg (.int 0) = .int (xs.getD i 0) := by rw [own_inat h]; exact own_gdN xs i
theorem own_nar8 (x : Int32) : nar .char ((x &&& (255 : Int32)).toUInt32.toUInt16.toUInt32.toInt32) = x &&& 255 := by
  simp only [nar, narrow]
  rw [i2c_mask]
  exact i2c_mask x
theorem own_narU (xs : List Int32) (i : Nat) : nar .char (own_u xs i) = own_u xs i := by
  show nar .char (xs.getD i 0 &&& 255) = _
  simp only [nar, narrow]
  exact i2c_mask _
theorem own_cp0 (K : Nat) (d : Value) (us : List Value) : (List.replicate K d).take (0 : Int32).toNatClampNeg ++ us ++ (List.replicate K d).drop ((0 : Int32).toNatClampNeg + K) = us := by
  rw [show (0 : Int32).toNatClampNeg = 0 from rfl, Nat.zero_add, List.take_zero, List.nil_append, List.drop_of_length_le (by simp), List.append_nil]
theorem own_slice (xs : List Int32) {f g : Nat} (hg : g < 2147483648) (h1 : f ≤ g) (h2 : g ≤ xs.length) : ((xs.drop f).take (g - f)).map Value.int = (List.range (own_i (g - f)).toNatClampNeg).map fun i => (xs.map Value.int).getD ((own_i f).toNatClampNeg + i) (.int 0) := by
  rw [own_inat (by omega), own_inat (by omega)]
  apply List.ext_getElem
  · simp; omega
  · intro i q1 q2
    simp only [List.length_map, List.length_take, List.length_drop] at q1
    simp only [List.getElem_map, List.getElem_range, own_gdN, List.getElem_take, List.getElem_drop]
    rw [List.getD_eq_getElem?_getD, List.getElem?_eq_getElem (by omega)]; rfl
def own_b (c : Int32) : Int32 := c.toInt8.toInt32
theorem own_bb (x : Int32) : (x.toInt8.toInt32).toInt8.toInt32 = own_b x := by unfold own_b; simp
def own_e1 (cs : List Int32) : List Int32 := cs.flatMap fun c => [own_b c, own_b (c >>> 8)]
def own_enc : Nat → List Int32 → List Int32
  | 0, cs => cs.map own_b
  | _ + 1, cs => own_e1 cs
def own_wd : Nat → Nat → Nat
  | 0, n => n
  | _ + 1, n => 2 * n
theorem own_e1len (cs : List Int32) : (own_e1 cs).length = 2 * cs.length := by
  induction cs with
  | nil => rfl
  | cons c cs ih =>
    have e : own_e1 (c :: cs) = own_b c :: own_b (c >>> 8) :: own_e1 cs := rfl
    rw [e, List.length_cons, List.length_cons, ih, List.length_cons]; omega
theorem own_enclen (k : Nat) (cs : List Int32) : (own_enc k cs).length = own_wd k cs.length := by
  cases k
  · exact List.length_map _
  · exact own_e1len cs
theorem own_e1app (xs ys : List Int32) : own_e1 (xs ++ ys) = own_e1 xs ++ own_e1 ys := by
  induction xs with
  | nil => rfl
  | cons c cs ih => show own_b c :: own_b (c >>> 8) :: own_e1 (cs ++ ys) = _; rw [ih]; rfl
theorem own_encapp (k : Nat) (xs ys : List Int32) : own_enc k (xs ++ ys) = own_enc k xs ++ own_enc k ys := by
  cases k
  · exact List.map_append
  · exact own_e1app xs ys
def own_Ch (cs : List Int32) : Prop := ∀ c ∈ cs, ¬ c < 0 ∧ ¬ (65535 : Int32) < c
def own_cd (cs : List Int32) : Nat := if cs.all (fun c => decide (¬ (255 : Int32) < c)) then 0 else 1
theorem own_cd01 (cs : List Int32) : own_cd cs = 0 ∨ own_cd cs = 1 := by unfold own_cd; split <;> simp
theorem own_cd0 {cs : List Int32} (h : ∀ j, j < cs.length → ¬ (255 : Int32) < cs.getD j 0) : own_cd cs = 0 := by
  unfold own_cd; rw [if_pos]
  rw [List.all_eq_true]
  intro c hc
  obtain ⟨i, hi, rfl⟩ := List.getElem_of_mem hc
  have q := h i hi
  rw [List.getD_eq_getElem?_getD, List.getElem?_eq_getElem hi] at q
  exact decide_eq_true q
theorem own_cd1 {cs : List Int32} {j : Nat} (hj : j < cs.length) (h : (255 : Int32) < cs.getD j 0) : own_cd cs = 1 := by
  unfold own_cd; rw [if_neg]
  intro q
  rw [List.all_eq_true] at q
  rw [List.getD_eq_getElem?_getD, List.getElem?_eq_getElem hj] at h
  exact absurd h (of_decide_eq_true (q _ (List.getElem_mem hj)))
theorem own_two {c : Int32} (h : ¬ c < 0 ∧ ¬ (65535 : Int32) < c) : ∃ a b : Fin 256, c = own_i (256 * a.val + b.val) := by
  rw [Int32.lt_iff_toInt_lt, Int32.lt_iff_toInt_lt, show (65535 : Int32).toInt = 65535 from rfl, show (0 : Int32).toInt = 0 from rfl] at h
  refine ⟨⟨c.toInt.toNat / 256, by omega⟩, ⟨c.toInt.toNat % 256, by omega⟩, Int32.toInt_inj.mp ?_⟩
  rw [own_it (by show 256 * (c.toInt.toNat / 256) + c.toInt.toNat % 256 < _; omega)]
  show c.toInt = ((256 * (c.toInt.toNat / 256) + c.toInt.toNat % 256 : Nat) : Int)
  omega
theorem own_lo (a b : Nat) : (own_i (256 * a + b)).toInt8 = (own_i b).toInt8 := by
  apply Int8.toBitVec_inj.mp
  apply BitVec.eq_of_toNat_eq
  simp [own_i]
theorem own_shrI (x : Int32) : (x >>> (8 : Int32)).toInt = x.toInt >>> 8 := by
  rw [← Int32.toInt_toBitVec, Int32.toBitVec_shiftRight, BitVec.sshiftRight_eq', BitVec.toInt_sshiftRight]; rfl
theorem own_shrJ (x : Int32) : (x >>> (1 : Int32)).toInt = x.toInt >>> 1 := by
  rw [← Int32.toInt_toBitVec, Int32.toBitVec_shiftRight, BitVec.sshiftRight_eq', BitVec.toInt_sshiftRight]; rfl
theorem own_shr8 {n : Nat} (h : n < 2147483648) : own_i n >>> (8 : Int32) = own_i (n / 256) := by
  apply Int32.toInt_inj.mp
  rw [own_it (by omega), own_shrI, own_it h, Int.shiftRight_eq_div_pow]
  omega
theorem own_b8 (b : Fin 256) : own_b (own_i b.val) &&& (255 : Int32) = own_i b.val := (by decide +kernel : ∀ b : Fin 256, own_b (own_i b.val) &&& (255 : Int32) = own_i b.val) b
theorem own_or8 {a b : Nat} (ha : a < 256) (hb : b < 256) : (own_i b ||| (own_i a <<< (8 : Int32))) = own_i (256 * a + b) := by
  apply Int32.toBitVec_inj.mp
  apply BitVec.eq_of_toNat_eq
  simp [own_i]
  have h1 : b % 4294967296 = b := by omega
  have h2 : (a % 4294967296) <<< 8 % 4294967296 = a <<< 8 := by rw [Nat.shiftLeft_eq, Nat.shiftLeft_eq]; omega
  rw [h1, h2, Nat.or_comm, ← Nat.shiftLeft_add_eq_or_of_lt (by omega : b < 2 ^ 8), Nat.shiftLeft_eq]
  omega
theorem own_c16 {n : Nat} (h : n < 65536) : (own_i n).toUInt32.toUInt16.toUInt32.toInt32 = own_i n := by
  apply Int32.toBitVec_inj.mp
  apply BitVec.eq_of_toNat_eq
  simp [own_i]
  omega
theorem own_n16 {n : Nat} (h : n < 65536) : nar .char (own_i n) = own_i n := own_c16 h
theorem own_lh (a b : Fin 256) : own_b (own_i (256 * a.val + b.val)) &&& (255 : Int32) = own_i b.val ∧ own_b ((own_i (256 * a.val + b.val)) >>> 8) &&& (255 : Int32) = own_i a.val := by
  refine ⟨?_, ?_⟩
  · rw [show own_b (own_i (256 * a.val + b.val)) = own_b (own_i b.val) from congrArg Int8.toInt32 (own_lo _ _)]; exact own_b8 b
  · rw [own_shr8 (by omega), show (256 * a.val + b.val) / 256 = a.val by omega]; exact own_b8 a
theorem own_get16 {c : Int32} (h : ¬ c < 0 ∧ ¬ (65535 : Int32) < c) : nar .char ((((own_b c &&& (255 : Int32)) <<< ((0 : Int32) &&& 31)) ||| ((own_b (c >>> 8) &&& (255 : Int32)) <<< ((8 : Int32) &&& 31))).toUInt32.toUInt16.toUInt32.toInt32) = c := by
  obtain ⟨a, b, rfl⟩ := own_two h
  rw [(own_lh a b).1, (own_lh a b).2, show ((0 : Int32) &&& 31) = 0 from rfl, show ((8 : Int32) &&& 31) = 8 from rfl, Int32.shiftLeft_zero, own_or8 a.isLt b.isLt, own_c16 (by omega)]
  exact own_n16 (by omega)
theorem own_narc {c : Int32} (h : ¬ c < 0 ∧ ¬ (65535 : Int32) < c) : nar .char c = c := by
  obtain ⟨a, b, rfl⟩ := own_two h
  exact own_n16 (by omega)
theorem own_e1at : ∀ (cs : List Int32) (i : Nat), i < cs.length → (own_e1 cs).getD (2 * i) 0 = own_b (cs.getD i 0) ∧ (own_e1 cs).getD (2 * i + 1) 0 = own_b (cs.getD i 0 >>> 8)
  | [], i, h => absurd h (Nat.not_lt_zero _)
  | c :: cs, 0, _ => ⟨rfl, rfl⟩
  | c :: cs, i + 1, h => own_e1at cs i (Nat.lt_of_succ_lt_succ h)
theorem own_getC (cs : List Int32) {i : Nat} (hi : i < cs.length) (hc : own_Ch cs) : nar .char (((((own_e1 cs).getD (2 * i) 0 &&& (255 : Int32)) <<< ((0 : Int32) &&& 31)) ||| (((own_e1 cs).getD (2 * i + 1) 0 &&& (255 : Int32)) <<< ((8 : Int32) &&& 31))).toUInt32.toUInt16.toUInt32.toInt32) = cs.getD i 0 := by
  rw [(own_e1at cs i hi).1, (own_e1at cs i hi).2]
  refine own_get16 ?_
  rw [List.getD_eq_getElem?_getD, List.getElem?_eq_getElem hi]
  exact hc _ (List.getElem_mem hi)
theorem own_shl1 (a : Nat) : own_i a <<< ((1 : Int32) &&& 31) = own_i (2 * a) := by
  rw [show ((1 : Int32) &&& 31) = 1 from rfl]
  apply Int32.toBitVec_inj.mp
  apply BitVec.eq_of_toNat_eq
  simp [own_i, Nat.shiftLeft_eq]
  omega
theorem own_shr1 {a : Nat} (h : a < 2147483648) : own_i a >>> ((1 : Int32) &&& 31) = own_i (a / 2) := by
  rw [show ((1 : Int32) &&& 31) = 1 from rfl]
  apply Int32.toInt_inj.mp
  rw [own_it (by omega), own_shrJ, own_it h, Int.shiftRight_eq_div_pow]
  omega
theorem own_takeS {xs : List Int32} {i : Nat} (h : i < xs.length) : xs.take i ++ [xs.getD i 0] = xs.take (i + 1) := by
  rw [List.take_succ, List.getD_eq_getElem?_getD, List.getElem?_eq_getElem h]; rfl
theorem own_put2 {ys : List Int32} {ix : Nat} (h : ys.length = ix) (c : Int32) : ((((own_e1 ys).map Value.int ++ [(Value.int (0 : Int32)), (Value.int (0 : Int32))]).set (2 * ix) (.int ((c >>> ((0 : Int32) &&& 31)).toInt8.toInt32).toInt8.toInt32)).set (2 * ix + 1) (.int ((c >>> ((8 : Int32) &&& 31)).toInt8.toInt32).toInt8.toInt32)) = (own_e1 (ys ++ [c])).map Value.int := by
  have hl : ((own_e1 ys).map Value.int).length = 2 * ix := by rw [List.length_map, own_e1len, h]
  rw [own_bb, own_bb, show ((0 : Int32) &&& 31) = 0 from rfl, show ((8 : Int32) &&& 31) = 8 from rfl, Int32.shiftRight_zero, List.set_append_right _ _ (by omega), hl, Nat.sub_self, List.set_append_right _ _ (by rw [hl]; omega), hl, Nat.add_sub_cancel_left, own_e1app, List.map_append]
  rfl
theorem own_put1 {ys : List Int32} {ix : Nat} (h : ys.length = ix) (c : Int32) : (((ys.map own_b).map Value.int ++ [(Value.int (0 : Int32))]).set ix (.int (c.toInt8.toInt32).toInt8.toInt32)) = ((ys ++ [c]).map own_b).map Value.int := by
  have hl : ((ys.map own_b).map Value.int).length = ix := by rw [List.length_map, List.length_map, h]
  rw [own_bb, List.set_append_right _ _ (by omega), hl, Nat.sub_self, List.map_append, List.map_append]
  rfl
theorem own_cfa1 {N : Nat} (h1 : 0 < N) (h2 : N ≤ 64) : (((own_i N - own_i (2 * N)).toUInt32 >>> ((31 : Int32) &&& 31).toUInt32).toInt32).toInt8.toInt32 = 1 := by
  have q : ∀ n : Fin 64, (((own_i (n.val + 1) - own_i (2 * (n.val + 1))).toUInt32 >>> ((31 : Int32) &&& 31).toUInt32).toInt32).toInt8.toInt32 = 1 := by decide +kernel
  have := q ⟨N - 1, by omega⟩
  rwa [show N - 1 + 1 = N by omega] at this
theorem own_cfa0 (x : Int32) : (((x - x).toUInt32 >>> ((31 : Int32) &&& 31).toUInt32).toInt32).toInt8.toInt32 = 0 := by
  rw [Int32.sub_self]; rfl
theorem own_subpos {a b : Nat} (ha : a < 1073741824) (hb : b < 1073741824) : (0 : Int32) < own_i a - own_i b ↔ b < a := by
  by_cases q : b ≤ a
  · rw [own_isub q]
    exact (own_ilt (a := 0) (by decide) (by omega)).trans (by omega)
  · have e : own_i a - own_i b = -(own_i (b - a)) := by
      rw [← own_isub (by omega), Int32.neg_sub]
    rw [e, Int32.lt_iff_toInt_lt, Int32.toInt_neg, own_it (by omega)]
    constructor
    · intro z
      rw [show (0 : Int32).toInt = 0 from rfl] at z
      have : (-((b - a : Nat) : Int)).bmod (2 ^ 32) = -((b - a : Nat) : Int) := by
        apply Int.bmod_eq_of_le <;> omega
      rw [this] at z
      omega
    · intro z; omega
theorem own_cpT (A us : List Value) (d : Value) {dp nn cap : Nat} (hA : A.length = dp) (hu : us.length = nn) : ∀ i, (A ++ us).getD i d = ((A ++ List.replicate cap d).take dp ++ us ++ (A ++ List.replicate cap d).drop (dp + nn)).getD i d := by
  intro i
  rw [List.take_append_of_le_length (by omega), List.take_of_length_le (by omega), show (A ++ List.replicate cap d).drop (dp + nn) = List.replicate (cap - nn) d from by rw [List.drop_append, List.drop_of_length_le (by omega), List.nil_append, hA, Nat.add_sub_cancel_left, List.drop_replicate]]
  exact (pad_rep (A ++ us) d (cap - nn) i).symm
theorem own_rng (xs : List Int32) {n : Nat} (h : n = xs.length) : xs.map Value.int = (List.range n).map fun i => (xs.map Value.int).getD (0 + i) (.int 0) := by
  subst h
  apply List.ext_getElem
  · simp
  · intro i q1 q2
    rw [List.length_map] at q1
    simp only [List.getElem_map, List.getElem_range, Nat.zero_add, own_gdN]
    rw [List.getD_eq_getElem?_getD, List.getElem?_eq_getElem q1]; rfl
def own_pad (xs : List Int32) (n : Nat) : List Value := (List.range n).map fun i => (xs.map Value.int).getD (0 + i) (.int 0)
theorem own_padl (xs : List Int32) (n : Nat) : (own_pad xs n).length = n := by unfold own_pad; simp
theorem own_padg (xs : List Int32) {n : Nat} (h : xs.length ≤ n) : ∀ i, (xs.map Value.int).getD i (.int 0) = ([] ++ own_pad xs n).getD i (.int 0) := fun i => by
  rw [List.nil_append]
  unfold own_pad
  by_cases q : i < n
  · rw [List.getD_eq_getElem?_getD (l := List.map _ (List.range n)), List.getElem?_eq_getElem (by simpa using q)]
    simp
  · rw [List.getD_eq_getElem?_getD (l := List.map _ (List.range n)), List.getElem?_eq_none (by simpa using q), List.getD_eq_getElem?_getD, List.getElem?_eq_none (by simp; omega)]
theorem own_cdle (cs : List Int32) : own_cd cs ≤ 1 := by rcases own_cd01 cs with h | h <;> omega
theorem own_cdapp (xs ys : List Int32) : own_cd (xs ++ ys) = max (own_cd xs) (own_cd ys) := by
  unfold own_cd
  rw [List.all_append]
  cases xs.all (fun c => decide (¬ (255 : Int32) < c)) <;> cases ys.all (fun c => decide (¬ (255 : Int32) < c)) <;> rfl
theorem own_shrK {k a : Nat} (hk : k ≤ 1) (h : own_wd k a < 2147483648) : own_i (own_wd k a) >>> (own_i k &&& 31) = own_i a := by
  rcases (show k = 0 ∨ k = 1 by omega) with rfl | rfl
  · exact own_shr0 _
  · refine (own_shr1 h).trans ?_
    show own_i (2 * a / 2) = _
    rw [Nat.mul_div_cancel_left _ (by decide)]
theorem own_shl0 (x : Int32) : x <<< ((0 : Int32) &&& 31) = x := by rw [show ((0 : Int32) &&& 31) = 0 from rfl]; exact Int32.shiftLeft_zero
theorem own_shlK {k : Nat} (a : Nat) (hk : k ≤ 1) : own_i a <<< (own_i k &&& 31) = own_i (own_wd k a) := by
  rcases (show k = 0 ∨ k = 1 by omega) with rfl | rfl
  · exact own_shl0 _
  · exact own_shl1 _
theorem own_narB {k : Nat} (hk : k ≤ 1) : nar .byte (own_i k) = own_i k := by
  rcases (show k = 0 ∨ k = 1 by omega) with rfl | rfl <;> rfl
theorem own_wdm {k a b : Nat} : own_wd k a ≤ own_wd k b ↔ a ≤ b := by
  cases k
  · exact Iff.rfl
  · show 2 * a ≤ 2 * b ↔ a ≤ b; omega
theorem own_wd2 {k : Nat} (a : Nat) : own_wd k a ≤ 2 * a := by
  cases k
  · show a ≤ 2 * a; omega
  · exact Nat.le_refl _
theorem own_wds {k a b : Nat} (h : b ≤ a) : own_wd k a - own_wd k b = own_wd k (a - b) := by
  cases k
  · rfl
  · show 2 * a - 2 * b = 2 * (a - b); omega
theorem own_wda {k a b : Nat} : own_wd k a + own_wd k b = own_wd k (a + b) := by
  cases k
  · rfl
  · show 2 * a + 2 * b = 2 * (a + b); omega
theorem own_wdx {k a b : Nat} : max (own_wd k a) (own_wd k b) = own_wd k (max a b) := by
  cases k
  · rfl
  · show max (2 * a) (2 * b) = 2 * max a b; omega
def own_nc (cp mm : Nat) : Nat := cp + max (mm - cp) (cp + 2)
def own_ec (cp mm : Nat) : Nat := if mm ≤ cp then cp else own_nc cp mm
theorem own_ecp {cp mm : Nat} (h : mm ≤ cp) : own_ec cp mm = cp := if_pos h
theorem own_ecn {cp mm : Nat} (h : cp < mm) : own_ec cp mm = own_nc cp mm := if_neg (Nat.not_le.mpr h)
theorem own_ecle (cp mm : Nat) : mm ≤ own_ec cp mm := by
  by_cases h : mm ≤ cp
  · rw [own_ecp h]; exact h
  · rw [own_ecn (by omega)]; unfold own_nc; omega
theorem own_ecge (cp mm : Nat) : cp ≤ own_ec cp mm := by
  by_cases h : mm ≤ cp
  · rw [own_ecp h]; exact Nat.le_refl _
  · rw [own_ecn (by omega)]; unfold own_nc; omega
theorem own_u8 {c : Int32} (h : ¬ c < 0 ∧ ¬ (65535 : Int32) < c) (h2 : ¬ (255 : Int32) < c) : own_b c &&& (255 : Int32) = c := by
  obtain ⟨a, b, rfl⟩ := own_two h
  have q : ∀ b : Fin 256, own_b (own_i (256 * 0 + b.val)) &&& (255 : Int32) = own_i (256 * 0 + b.val) := by decide +kernel
  have e : a.val = 0 := by
    rw [show (255 : Int32) = own_i 255 from rfl, own_ilt (by decide) (by omega)] at h2
    omega
  rw [e]; exact q b
theorem own_cdget {cs : List Int32} (h : own_cd cs = 0) {j : Nat} (hj : j < cs.length) : ¬ (255 : Int32) < cs.getD j 0 := fun q => by
  rw [own_cd1 hj q] at h; exact absurd h (by decide)
theorem own_chget {cs : List Int32} (h : own_Ch cs) {j : Nat} (hj : j < cs.length) : ¬ cs.getD j 0 < 0 ∧ ¬ (65535 : Int32) < cs.getD j 0 := by
  rw [List.getD_eq_getElem?_getD, List.getElem?_eq_getElem hj]
  exact h _ (List.getElem_mem hj)
theorem own_bget (cs : List Int32) {j : Nat} (hj : j < cs.length) : (cs.map own_b).getD j 0 = own_b (cs.getD j 0) := by
  simp only [List.getD_eq_getElem?_getD, List.getElem?_map, List.getElem?_eq_getElem hj]; rfl
theorem own_wdp (k : Nat) : 0 < own_wd k 2 := by
  cases k
  · decide
  · show 0 < 2 * 2; decide
theorem own_or0 {a b : Int32} (ha : ¬ a < 0) (hb : ¬ b < 0) : ¬ (a ||| b) < 0 := by
  have key : ∀ x : Int32, x < 0 ↔ x.toBitVec.msb = true := fun x => by
    rw [Int32.lt_iff_toInt_lt, BitVec.msb_eq_toInt]; exact decide_eq_true_iff.symm
  rw [key] at ha hb ⊢
  rw [Int32.toBitVec_or, BitVec.msb_or]
  simp_all
theorem own_infS {ys ds : List Int32} {i : Nat} (hi : i < ds.length) (hc : own_Ch ds) (h0 : own_cd ds = 0) : (ys ++ ds.take i) ++ [((ds.map own_b).getD i 0) &&& (255 : Int32)] = ys ++ ds.take (i + 1) := by
  rw [own_bget ds hi, own_u8 (own_chget hc hi) (own_cdget h0 hi), List.append_assoc, own_takeS hi]
theorem own_cpE {A B : List Int32} {d : Value} {dp nn cap : Nat} {T : List Int32} (hT : T = A ++ B) (hA : A.length = dp) (hB : B.length = nn) : ∀ i, (T.map Value.int).getD i d = ((A.map Value.int ++ List.replicate cap d).take dp ++ B.map Value.int ++ (A.map Value.int ++ List.replicate cap d).drop (dp + nn)).getD i d := by
  subst hT
  rw [List.map_append]
  exact own_cpT _ _ _ (by rw [List.length_map, hA]) (by rw [List.length_map, hB])
def own_k1 : List Int32 := [116, 104, 101, 32, 100, 97, 116, 97, 32, 102, 105, 108, 101, 32, 104, 111, 108, 100, 115, 32, 97, 110, 32, 117, 110, 107, 110, 111, 119, 110, 32]
def own_k2 : List Int32 := [58, 32]
theorem own_chk1 : own_Ch own_k1 := by unfold own_Ch own_k1; decide
theorem own_chk2 : own_Ch own_k2 := by unfold own_Ch own_k2; decide
def own_nil : List Int32 := []
theorem own_chn : own_Ch own_nil := fun c h => absurd h List.not_mem_nil
theorem own_cha {xs ys : List Int32} (h1 : own_Ch xs) (h2 : own_Ch ys) : own_Ch (xs ++ ys) := fun c h => (List.mem_append.mp h).elim (h1 c) (h2 c)
theorem own_ch2 {a b : Int32} (h1 : ¬ a < 0 ∧ ¬ (65535 : Int32) < a) (h2 : ¬ b < 0 ∧ ¬ (65535 : Int32) < b) : own_Ch [a, b] := fun c h => by
  simp only [List.mem_cons, List.not_mem_nil, or_false] at h
  rcases h with rfl | rfl
  · exact h1
  · exact h2
def own_xs (dw dc : List Int32) : List Int32 := (((([] : List Int32) ++ own_k1) ++ dw) ++ own_k2) ++ dc
theorem own_chx {dw dc : List Int32} (h1 : own_Ch dw) (h2 : own_Ch dc) : own_Ch (own_xs dw dc) := own_cha (own_cha (own_cha (own_cha own_chn own_chk1) h1) own_chk2) h2
theorem own_putx {xs : List Int32} {i : Nat} (h : i < xs.length) {c : Int32} (hc : nar .char c = xs.getD i 0) : (((xs.take i).map Value.int ++ [(Value.int (0 : Int32))]).set i (.int (nar .char c))) = (xs.take (i + 1)).map Value.int := by
  have hl : ((xs.take i).map Value.int).length = i := by rw [List.length_map, List.length_take]; omega
  rw [List.set_append_right _ _ (by omega), hl, Nat.sub_self, ← own_takeS h, List.map_append, hc]
  rfl
theorem own_i2c (x : Int32) : ¬ (x.toUInt32.toUInt16.toUInt32.toInt32) < (0 : Int32) ∧ ¬ (65535 : Int32) < (x.toUInt32.toUInt16.toUInt32.toInt32) := by
  have e : (x.toUInt32.toUInt16.toUInt32.toInt32) = own_i x.toUInt32.toUInt16.toNat := by
    apply Int32.toBitVec_inj.mp
    apply BitVec.eq_of_toNat_eq
    simp [own_i]
    have z : x.toUInt32.toNat = x.toBitVec.toNat := rfl
    omega
  have q := x.toUInt32.toUInt16.toNat_lt
  rw [e]
  refine ⟨own_inn (by omega), ?_⟩
  rw [show (65535 : Int32) = own_i 65535 from rfl, own_ilt (by decide) (by omega)]
  omega
theorem own_stx {p : Program} {l : Launch} {e : Env} {R : Room} {s : State} {m : MethodId} {args : Array Value} {below : List Frame} {meth : Method} {c : Code} {T : State} {locs : List Loc} {cells slots : Nat} {Z : State} {h h0 : Heap} {b : Addr} {k : ClassId} {n : Int32} {xs : List Int32} {i n0 : Nat} {ws : List Addr} {j x : Int32}
    (X : Stand p l e R s m args below meth c T locs cells slots) (hx : p.tables.exec = Jvm.exec) (hZ : Z.Warmed39 s.vm) (eT : T.heap = h) (V : Arv Z h b k .char n ((xs.take i).map Value.int) (.int 0)) (N : Fr n0 locs) (O : Old Z n0 h) (K : Keep h0 h ws) (q : h0.size ≤ b) (z0 : n0 ≤ h0.size)
    (hj : j.toNatClampNeg = i) (hin : ¬ j < 0 ∧ j < n) (hl : i < xs.length) (hc : nar .char x = xs.getD i 0) {g : JFrame} (hg : g.method = m) {rest : List Value} (hs : g.stack = .int x :: .int j :: .ref b :: rest) (hd : decode c.code g.pc = .ok (.castore, 1)) :
    ∃ T' h' L', Stand p l e R s m args below meth c T' L' cells slots ∧ T'.heap = h' ∧ Wr h h' b j.toNatClampNeg (.int (nar .char x)) ∧ Fr n0 L' ∧ Old Z n0 h' ∧ Keep h0 h' ws ∧ Arv Z h' b k .char n ((xs.take (i + 1)).map Value.int) (.int 0) ∧ ∀ target, Steps p.tables e below (T'.setTop { g with pc := g.pc + 1, stack := rest }) target → Steps p.tables e below (T.setTop g) target := by
  obtain ⟨cl, Ar, q1, S, Ng, H, G⟩ := V.pad (pad_rep _ _ 1)
  obtain ⟨T', h', X', e', W, st⟩ := stC X hx hZ eT Ar (j := j) (inb_of S hin) hg hs hd
  have hn := Nat.le_trans z0 q
  refine ⟨T', h', _, X', e', W, Fr.snoc X' N hn, O.wr W hn, K.wr W (Or.inr q), ?_, st⟩
  have V2 := Arv.set Ar q1 S Ng H G (fits_nar_char _) W i hj (by rw [List.length_append, List.length_map, List.length_take]; show _ < _ + 1; omega)
  rw [← own_putx hl hc]
  exact V2
abbrev c16_ := jdk_29_method_69_code
theorem d16_0 : decode c16_ 0 = .ok (.iload_n 0, 1) := by decide +kernel
theorem d16_1 : decode c16_ 1 = .ok (.iload_n 1, 1) := by decide +kernel
theorem d16_2 : decode c16_ 2 = .ok (.if_icmp .gt 7, 3) := by decide +kernel
theorem d16_9 : decode c16_ 9 = .ok (.iload_n 1, 1) := by decide +kernel
theorem d16_10 : decode c16_ 10 = .ok (.ireturn, 1) := by decide +kernel
abbrev mN0 : MethodName := ⟨"java/lang/Math", "min", "(II)I"⟩
theorem ef_minG (m : MethodId) (x0 : Int32) (x1 : Int32) : entryFrame m #[(.int x0), (.int x1)] 2 = mkF m 0 #[vI x0, vI x1] [] := by first | (simp [entryFrame, mkF, argsToLocals, Value.category]; done) | rfl
def QminG (Z : State) (xx : Int32) (yy : Int32) (h0 : Heap) (n0 : Nat) (v : Option Value) (h : Heap) (L : List Loc) : Prop := v = some (.int yy) ∧ Fr n0 L ∧ h = h0
theorem pn_b16 : plainFor (⟨"java/lang/Math", "min", "(II)I"⟩ : MethodName) = true := by decide +kernel
set_option maxRecDepth 65536 in
set_option maxHeartbeats 40000000 in
theorem rmminG (l : Launch) (Z : State) (a0 : Array Value) (hw : ∀ d ∈ tables_1, d.before a0 Z = true) (ws : List Jvm.Cond) (xx : Int32) (yy : Int32) (h0 : Heap) (n0 : Nat) (O0 : Old Z n0 h0) (h : (yy < xx)) :
    MetFree l mN0 (head1 (Jvm.Cond.code mN0 jdk_29_method_69_code 2 (some .int) :: ws) ({ frames := 0, cells := 0, slots := 0, locals := 0 } : Room)) (fun as_ U => as_ = #[(.int xx), (.int yy)] ∧ Z.Warmed39 U.vm ∧ U.heap = h0) (fun _ _ _ _ _ => True) (fun _ U o U' => ∃ v L, o = .returned v ∧ QminG Z xx yy h0 n0 v U'.heap L ∧ FrameEnd U o U' L ({ frames := 0, cells := 0, slots := 0, locals := 0 } : Room).cells ({ frames := 0, cells := 0, slots := 0, locals := 0 } : Room).slots) := by
  refine MetFree.of_bodySF pn_b16 hisR ?_
  intro p e s m args below meth c s₁ Bd hml0 hP hK
  obtain ⟨rfl, hZ, hh⟩ := hP
  have hx := Bd.exec
  have hby := Bd.bytes
  have hml : c.maxLocals = 2 := hml0
  have hown : s.vm.findClass "java/lang/Math" = some m.cls := findClass_of_methodNamed Bd.named
  have hnm := (name_of_methodNamed Bd.named Bd.method).1
  have X0 : Stand p l e ({ frames := 0, cells := 0, slots := 0, locals := 0 } : Room) s m #[(.int xx), (.int yy)] below meth c s₁ [] 0 0 := Stand.of_body Bd
  have e0 : s₁.heap = h0 := by rw [← hh, Bd.state]; rfl
  have N0 := Fr.nil n0
  have Z0 := own_z0 O0
  have pre0 : ∀ tg_, Steps p.tables e below (s₁.setTop (mkF m 0 #[vI xx, vI yy] [])) tg_ → Steps p.tables e below (s₁.setTop (entryFrame m #[(.int xx), (.int yy)] 2)) tg_ := fun tg_ kt_ => castTop (ef_minG m xx yy) kt_
  obtain ⟨fs, hr, hrun, hended, hW, hsame⟩ := X0.leave (v := some (.int yy)) (fun h => by rw [Bd.returns] at h; cases h)
  refine ⟨_, _, pre0 _ ?_, hrun, hended, _, _, rfl, ?_, ⟨_, rfl⟩, hW, hsame.mono (by decide) (by decide)⟩
  · refine XS.iloadN X0.here hx rfl (hb hby d16_0) rfl ?_
    refine XS.iloadN X0.here hx rfl (hb hby d16_1) rfl ?_
    refine XS.icmpYes X0.here hx rfl (pc0 := 2) (pc' := 9) rfl (hb hby d16_2) rfl (tlt h).2.2.1 (by decide) (by decide) ?_
    refine XS.iloadN X0.here hx rfl (hb hby d16_9) rfl ?_
    exact retI X0 hx Bd.returns (hb hby d16_10) hr
  · show QminG Z xx yy h0 n0 _ s₁.heap _
    rw [e0]
    exact ⟨rfl, N0, rfl⟩
theorem d16_5 : decode c16_ 5 = .ok (.iload_n 0, 1) := by decide +kernel
theorem d16_6 : decode c16_ 6 = .ok (.goto 4, 3) := by decide +kernel
theorem ef_minL (m : MethodId) (x0 : Int32) (x1 : Int32) : entryFrame m #[(.int x0), (.int x1)] 2 = mkF m 0 #[vI x0, vI x1] [] := by first | (simp [entryFrame, mkF, argsToLocals, Value.category]; done) | rfl
def QminL (Z : State) (xx : Int32) (yy : Int32) (h0 : Heap) (n0 : Nat) (v : Option Value) (h : Heap) (L : List Loc) : Prop := v = some (.int xx) ∧ Fr n0 L ∧ h = h0
set_option maxRecDepth 65536 in
set_option maxHeartbeats 40000000 in
theorem rmminL (l : Launch) (Z : State) (a0 : Array Value) (hw : ∀ d ∈ tables_1, d.before a0 Z = true) (ws : List Jvm.Cond) (xx : Int32) (yy : Int32) (h0 : Heap) (n0 : Nat) (O0 : Old Z n0 h0) (h : (¬ (yy < xx))) :
    MetFree l mN0 (head1 (Jvm.Cond.code mN0 jdk_29_method_69_code 2 (some .int) :: ws) ({ frames := 0, cells := 0, slots := 0, locals := 0 } : Room)) (fun as_ U => as_ = #[(.int xx), (.int yy)] ∧ Z.Warmed39 U.vm ∧ U.heap = h0) (fun _ _ _ _ _ => True) (fun _ U o U' => ∃ v L, o = .returned v ∧ QminL Z xx yy h0 n0 v U'.heap L ∧ FrameEnd U o U' L ({ frames := 0, cells := 0, slots := 0, locals := 0 } : Room).cells ({ frames := 0, cells := 0, slots := 0, locals := 0 } : Room).slots) := by
  refine MetFree.of_bodySF pn_b16 hisR ?_
  intro p e s m args below meth c s₁ Bd hml0 hP hK
  obtain ⟨rfl, hZ, hh⟩ := hP
  have hx := Bd.exec
  have hby := Bd.bytes
  have hml : c.maxLocals = 2 := hml0
  have hown : s.vm.findClass "java/lang/Math" = some m.cls := findClass_of_methodNamed Bd.named
  have hnm := (name_of_methodNamed Bd.named Bd.method).1
  have X0 : Stand p l e ({ frames := 0, cells := 0, slots := 0, locals := 0 } : Room) s m #[(.int xx), (.int yy)] below meth c s₁ [] 0 0 := Stand.of_body Bd
  have e0 : s₁.heap = h0 := by rw [← hh, Bd.state]; rfl
  have N0 := Fr.nil n0
  have Z0 := own_z0 O0
  have pre0 : ∀ tg_, Steps p.tables e below (s₁.setTop (mkF m 0 #[vI xx, vI yy] [])) tg_ → Steps p.tables e below (s₁.setTop (entryFrame m #[(.int xx), (.int yy)] 2)) tg_ := fun tg_ kt_ => castTop (ef_minL m xx yy) kt_
  obtain ⟨fs, hr, hrun, hended, hW, hsame⟩ := X0.leave (v := some (.int xx)) (fun h => by rw [Bd.returns] at h; cases h)
  refine ⟨_, _, pre0 _ ?_, hrun, hended, _, _, rfl, ?_, ⟨_, rfl⟩, hW, hsame.mono (by decide) (by decide)⟩
  · refine XS.iloadN X0.here hx rfl (hb hby d16_0) rfl ?_
    refine XS.iloadN X0.here hx rfl (hb hby d16_1) rfl ?_
    refine XS.icmpNo X0.here hx rfl (hb hby d16_2) rfl (flt h).2.2.1 ?_
    refine XS.iloadN X0.here hx rfl (hb hby d16_5) rfl ?_
    refine XS.goto X0.here hx rfl (pc0 := 6) (pc' := 10) rfl (hb hby d16_6) (by decide) (by decide) ?_
    exact retI X0 hx Bd.returns (hb hby d16_10) hr
  · show QminL Z xx yy h0 n0 _ s₁.heap _
    rw [e0]
    exact ⟨rfl, N0, rfl⟩
theorem w_67 : (Cond.fieldLink "java/lang/String" (38 : Nat) "java/lang/String" "COMPACT_STRINGS" "Z") ∈ tables_1 := List.mem_of_getElem? (i := 67) (by decide +kernel)
abbrev c10_ := jdk_42_method_152_code
theorem d10_0 : decode c10_ 0 = .ok (.getstatic 38, 3) := by decide +kernel
theorem d10_3 : decode c10_ 3 = .ok (.ifCond .eq 10, 3) := by decide +kernel
theorem d10_6 : decode c10_ 6 = .ok (.aload_n 0, 1) := by decide +kernel
theorem w_21 : (Cond.fieldLink "java/lang/String" (15 : Nat) "java/lang/String" "coder" "B") ∈ tables_1 := List.mem_of_getElem? (i := 21) (by decide +kernel)
theorem d10_7 : decode c10_ 7 = .ok (.getfield 15, 3) := by decide +kernel
theorem d10_10 : decode c10_ 10 = .ok (.goto 4, 3) := by decide +kernel
theorem d10_14 : decode c10_ 14 = .ok (.ireturn, 1) := by decide +kernel
abbrev mN1 : MethodName := ⟨"java/lang/String", "coder", "()B"⟩
theorem ef_coderK (m : MethodId) (x0 : Addr) : entryFrame m #[(.ref x0)] 1 = mkF m 0 #[vR x0] [] := by first | (simp [entryFrame, mkF, argsToLocals, Value.category]; done) | rfl
def QcoderK (Z : State) (a : Addr) (kk : Nat) (cz : Int32) (h0 : Heap) (n0 : Nat) (v : Option Value) (h : Heap) (L : List Loc) : Prop := v = some (.int (own_i kk)) ∧ Fr n0 L ∧ h = h0
theorem pn_java_lang_String : plainName "java/lang/String" = true := by first | (simp [plainName, overriddenIn]; done) | decide +kernel
set_option maxRecDepth 65536 in
set_option maxHeartbeats 40000000 in
theorem rmcoderK (l : Launch) (Z : State) (a0 : Array Value) (hw : ∀ d ∈ tables_1, d.before a0 Z = true) (ws : List Jvm.Cond) (a : Addr) (kk : Nat) (cz : Int32) (h0 : Heap) (n0 : Nat) (O0 : Old Z n0 h0) (hp0 : Fld Z h0 a "java/lang/String" "coder" "B" (.int (own_i kk))) (hp1 : Sta Z Z.heap "java/lang/String" "COMPACT_STRINGS" "Z" (.int cz)) (hcz : (¬ (cz = (0 : Int32)))) (hk1 : (kk ≤ 1)) :
    MetFree l mN1 (head1 (Jvm.Cond.code mN1 jdk_42_method_152_code 1 (some .byte) :: ws) ({ frames := 0, cells := 0, slots := 0, locals := 0 } : Room)) (fun as_ U => as_ = #[(.ref a)] ∧ Z.Warmed39 U.vm ∧ U.heap = h0) (fun _ _ _ _ _ => True) (fun _ U o U' => ∃ v L, o = .returned v ∧ QcoderK Z a kk cz h0 n0 v U'.heap L ∧ FrameEnd U o U' L ({ frames := 0, cells := 0, slots := 0, locals := 0 } : Room).cells ({ frames := 0, cells := 0, slots := 0, locals := 0 } : Room).slots) := by
  refine MetFree.of_bodySF (plainFor_of_name pn_java_lang_String) hisR ?_
  intro p e s m args below meth c s₁ Bd hml0 hP hK
  obtain ⟨rfl, hZ, hh⟩ := hP
  have hx := Bd.exec
  have hby := Bd.bytes
  have hml : c.maxLocals = 1 := hml0
  have hown : s.vm.findClass "java/lang/String" = some m.cls := findClass_of_methodNamed Bd.named
  have hnm := (name_of_methodNamed Bd.named Bd.method).1
  have X0 : Stand p l e ({ frames := 0, cells := 0, slots := 0, locals := 0 } : Room) s m #[(.ref a)] below meth c s₁ [] 0 0 := Stand.of_body Bd
  have e0 : s₁.heap = h0 := by rw [← hh, Bd.state]; rfl
  have N0 := Fr.nil n0
  have Z0 := own_z0 O0
  have pre0 : ∀ tg_, Steps p.tables e below (s₁.setTop (mkF m 0 #[vR a] [])) tg_ → Steps p.tables e below (s₁.setTop (entryFrame m #[(.ref a)] 1)) tg_ := fun tg_ kt_ => castTop (ef_coderK m a) kt_
  obtain ⟨T1, X1, e1, st1⟩ := getS2 X0 hx hZ hown (host := "") (Or.inl (hw _ w_67)) Via.refl e0 (hp1.ext O0.2) (g := (mkF m 0 #[vR a] [])) rfl (hb hby d10_0)
  obtain ⟨T2, X2, e2, st2⟩ := getF X1 hx hZ hown (host := "") (Or.inl (hw _ w_21)) Via.refl e1 hp0 (g := (mkF m 7 #[vR a] [(.ref a)])) rfl rfl (hb hby d10_7)
  obtain ⟨fs, hr, hrun, hended, hW, hsame⟩ := X2.leave (v := some (.int (nar .byte (own_i kk)))) (fun h => by rw [Bd.returns] at h; cases h)
  refine ⟨_, _, pre0 _ ?_, hrun, hended, _, _, rfl, ?_, ⟨_, rfl⟩, hW, hsame.mono (by decide) (by decide)⟩
  · refine st1 _ ?_
    refine XS.ifNo X1.here hx rfl (hb hby d10_3) rfl ((if0 _ _).trans (feq hcz).1) ?_
    refine XS.aloadN X1.here hx rfl (hb hby d10_6) rfl rfl ?_
    refine st2 _ ?_
    refine XS.goto X2.here hx rfl (pc0 := 10) (pc' := 14) rfl (hb hby d10_10) (by decide) (by decide) ?_
    exact retN X2 hx (t := .byte) Bd.returns (by simp) (hb hby d10_14) hr
  · show QcoderK Z a kk cz h0 n0 _ T2.heap _
    rw [e2]
    exact ⟨(own_ret (congrArg Value.int (own_narB hk1))), N0, rfl⟩
abbrev c9_ := jdk_42_method_54_code
theorem d9_0 : decode c9_ 0 = .ok (.aload_n 0, 1) := by decide +kernel
theorem w_20 : (Cond.fieldLink "java/lang/String" (9 : Nat) "java/lang/String" "value" "[B") ∈ tables_1 := List.mem_of_getElem? (i := 20) (by decide +kernel)
theorem d9_1 : decode c9_ 1 = .ok (.getfield 9, 3) := by decide +kernel
theorem d9_4 : decode c9_ 4 = .ok (.arraylength, 1) := by decide +kernel
theorem d9_5 : decode c9_ 5 = .ok (.aload_n 0, 1) := by decide +kernel
theorem w_62 : (Cond.methodLink "java/lang/String" (335 : Nat) mN1) ∈ tables_1 := List.mem_of_getElem? (i := 62) (by decide +kernel)
theorem w_66 : (Cond.code mN1 jdk_42_method_152_code (1 : Nat) (Option.some FieldType.byte)) ∈ tables_1 := List.mem_of_getElem? (i := 66) (by decide +kernel)
theorem w_2 : (Cond.initialized "java/lang/String") ∈ tables_1 := List.mem_of_getElem? (i := 2) (by decide +kernel)
theorem pd___B : parseMethodDescriptor "()B" = some ⟨[], some .byte⟩ := by decide +kernel
theorem d9_6 : decode c9_ 6 = .ok (.invokevirtual 335, 3) := by decide +kernel
theorem w_65 : (Cond.selects "java/lang/String" mN1 mN1) ∈ tables_1 := List.mem_of_getElem? (i := 65) (by decide +kernel)
theorem w_63 : (Cond.declares mN1) ∈ tables_1 := List.mem_of_getElem? (i := 63) (by decide +kernel)
theorem w_64 : (Cond.instanceMethod mN1) ∈ tables_1 := List.mem_of_getElem? (i := 64) (by decide +kernel)
theorem d9_9 : decode c9_ 9 = .ok (.ishr, 1) := by decide +kernel
theorem d9_10 : decode c9_ 10 = .ok (.ireturn, 1) := by decide +kernel
abbrev mN2 : MethodName := ⟨"java/lang/String", "length", "()I"⟩
theorem ef_slenK (m : MethodId) (x0 : Addr) : entryFrame m #[(.ref x0)] 1 = mkF m 0 #[vR x0] [] := by first | (simp [entryFrame, mkF, argsToLocals, Value.category]; done) | rfl
def QslenK (Z : State) (a : Addr) (t : Addr) (kt : ClassId) (ds : List Int32) (cz : Int32) (h0 : Heap) (n0 : Nat) (v : Option Value) (h : Heap) (L : List Loc) : Prop := v = some (.int (own_i ds.length)) ∧ Fr n0 L ∧ h = h0
set_option maxRecDepth 65536 in
set_option maxHeartbeats 40000000 in
theorem rmslenK (l : Launch) (Z : State) (a0 : Array Value) (hw : ∀ d ∈ tables_1, d.before a0 Z = true) (ws : List Jvm.Cond) (a : Addr) (t : Addr) (kt : ClassId) (ds : List Int32) (cz : Int32) (h0 : Heap) (n0 : Nat) (O0 : Old Z n0 h0) (hp0 : Exa Z h0 a "java/lang/String") (hp1 : Fld Z h0 a "java/lang/String" "value" "[B" (.ref t)) (hp2 : Fld Z h0 a "java/lang/String" "coder" "B" (.int (own_i (own_cd ds)))) (hp3 : Arv Z h0 t kt .byte (own_i (own_wd (own_cd ds) ds.length)) ((own_enc (own_cd ds) ds).map Value.int) (.int 0)) (hp4 : Sta Z Z.heap "java/lang/String" "COMPACT_STRINGS" "Z" (.int cz)) (hcz : (¬ (cz = (0 : Int32)))) (hdl : (ds.length ≤ 1000)) :
    MetFree l mN2 (head1 (Jvm.Cond.code mN2 jdk_42_method_54_code 1 (some .int) :: ws) ({ frames := 1, cells := 0, slots := 0, locals := 13 } : Room)) (fun as_ U => as_ = #[(.ref a)] ∧ Z.Warmed39 U.vm ∧ U.heap = h0) (fun _ _ _ _ _ => True) (fun _ U o U' => ∃ v L, o = .returned v ∧ QslenK Z a t kt ds cz h0 n0 v U'.heap L ∧ FrameEnd U o U' L ({ frames := 1, cells := 0, slots := 0, locals := 13 } : Room).cells ({ frames := 1, cells := 0, slots := 0, locals := 13 } : Room).slots) := by
  refine MetFree.of_bodySF (plainFor_of_name pn_java_lang_String) hisR ?_
  intro p e s m args below meth c s₁ Bd hml0 hP hK
  obtain ⟨rfl, hZ, hh⟩ := hP
  have hx := Bd.exec
  have hby := Bd.bytes
  have hml : c.maxLocals = 1 := hml0
  have hown : s.vm.findClass "java/lang/String" = some m.cls := findClass_of_methodNamed Bd.named
  have hnm := (name_of_methodNamed Bd.named Bd.method).1
  have X0 : Stand p l e ({ frames := 1, cells := 0, slots := 0, locals := 13 } : Room) s m #[(.ref a)] below meth c s₁ [] 0 0 := Stand.of_body Bd
  have e0 : s₁.heap = h0 := by rw [← hh, Bd.state]; rfl
  have N0 := Fr.nil n0
  have Z0 := own_z0 O0
  have pre0 : ∀ tg_, Steps p.tables e below (s₁.setTop (mkF m 0 #[vR a] [])) tg_ → Steps p.tables e below (s₁.setTop (entryFrame m #[(.ref a)] 1)) tg_ := fun tg_ kt_ => castTop (ef_slenK m a) kt_
  obtain ⟨T1, X1, e1, st1⟩ := getF X0 hx hZ hown (host := "") (Or.inl (hw _ w_20)) Via.refl e0 hp1 (g := (mkF m 1 #[vR a] [(.ref a)])) rfl rfl (hb hby d9_1)
  obtain ⟨cl2, Ar2, -, S2, Ng2, -, -⟩ := id hp3
  obtain ⟨cq3, kq3, q3a, q3b, q3c⟩ := isOf hZ e1 hp0
  obtain ⟨_, _, ⟨T3, L3, k3, n3⟩, -, X3, ⟨Lc3, hQ3, l3, y3, z3⟩, st3⟩ := X1.virtualBack hx (y := mN1) (z := mN1) hown (mvT hZ (hw _ w_62)) (mvT hZ (hw _ w_63)) (notFace_of_selects (args := #[]) (mvT hZ (hw _ w_65))) (mvT hZ (hw _ w_65)) (mvT hZ (hw _ w_64)) (by decide) (backOf (W := 1) (rmcoderK l Z a0 hw [] a (own_cd ds) cz h0 n0 O0 hp2 hp4 hcz (own_cdle _)) hZ (hw _ w_66) (hw _ w_2) (by decide) (by decide)) q3a q3c (g := (mkF m 6 #[vR a] [(.ref a), (.int (own_i (own_wd (own_cd ds) ds.length)))])) rfl (by rw [hml]; rfl) (Steps.refl _) (argsL := []) (rest := [(.int (own_i (own_wd (own_cd ds) ds.length)))]) (lenOf pd___B rfl) rfl (by show 2 * 0 + _ ≤ _; exact Nat.le_of_eq rfl) (hb hby d9_6) (fun _ _ => ⟨rfl, e1, (by decide : 0 + 0 ≤ _), (by decide : 0 + 0 ≤ _)⟩)
  dsimp only [Pt.U, Pt.locs, Pt.cells, Pt.slots] at X3 l3 y3 z3 st3 hQ3
  subst l3 y3 z3
  obtain ⟨rfl, N3q, eh3⟩ := hQ3
  have N3 := Fr.app N0 N3q
  obtain ⟨fs, hr, hrun, hended, hW, hsame⟩ := X3.leave (v := some (.int ((own_i (own_wd (own_cd ds) ds.length)) >>> ((own_i (own_cd ds)) &&& 31)))) (fun h => by rw [Bd.returns] at h; cases h)
  refine ⟨_, _, pre0 _ ?_, hrun, hended, _, _, rfl, ?_, ⟨_, rfl⟩, hW, hsame.mono (by decide) (by decide)⟩
  · refine XS.aloadN X0.here hx rfl (hb hby d9_0) rfl rfl ?_
    refine st1 _ ?_
    refine X1.arraylength hx (by rw [e1]; exact Ar2.1) (State.isArrayOf_alike hZ.alike Ar2.2.1) (g := (mkF m 4 #[vR a] [(.ref t)])) rfl rfl (hb hby d9_4) _ ?_
    rw [len_of S2 Ng2]
    refine XS.aloadN X1.here hx rfl (hb hby d9_5) rfl rfl ?_
    refine st3.trans ?_
    refine XS.ishr X3.here hx rfl (hb hby d9_9) rfl ?_
    exact retI X3 hx Bd.returns (hb hby d9_10) hr
  · show QslenK Z a t kt ds cz h0 n0 _ T3.heap _
    rw [eh3]
    exact ⟨(own_ret (congrArg Value.int (own_shrK (own_cdle _) (by have z := own_wd2 (k := own_cd ds) ds.length; omega)))), N3, rfl⟩
abbrev c45_ := jdk_52_method_3_code
theorem d45_0 : decode c45_ 0 = .ok (.iload_n 0, 1) := by decide +kernel
theorem d45_1 : decode c45_ 1 = .ok (.ifCond .ge 11, 3) := by decide +kernel
theorem d45_12 : decode c45_ 12 = .ok (.iload_n 0, 1) := by decide +kernel
theorem w_255 : (Cond.constant "java/lang/StringUTF16" (20 : Nat) (1073741823 : Int32)) ∈ tables_1 := List.mem_of_getElem? (i := 255) (by decide +kernel)
theorem d45_13 : decode c45_ 13 = .ok (.ldc 20, 2) := by decide +kernel
theorem d45_15 : decode c45_ 15 = .ok (.if_icmp .lt 40, 3) := by decide +kernel
theorem d45_55 : decode c45_ 55 = .ok (.iload_n 0, 1) := by decide +kernel
theorem d45_56 : decode c45_ 56 = .ok (.iconst 1, 1) := by decide +kernel
theorem d45_57 : decode c45_ 57 = .ok (.ishl, 1) := by decide +kernel
theorem d45_58 : decode c45_ 58 = .ok (.ireturn, 1) := by decide +kernel
abbrev mN3 : MethodName := ⟨"java/lang/StringUTF16", "newBytesLength", "(I)I"⟩
theorem ef_nbl (m : MethodId) (x0 : Int32) : entryFrame m #[(.int x0)] 1 = mkF m 0 #[vI x0] [] := by first | (simp [entryFrame, mkF, argsToLocals, Value.category]; done) | rfl
def Qnbl (Z : State) (nb : Nat) (h0 : Heap) (n0 : Nat) (v : Option Value) (h : Heap) (L : List Loc) : Prop := v = some (.int (own_i (2 * nb))) ∧ Fr n0 L ∧ h = h0
theorem pn_java_lang_StringUTF16 : plainName "java/lang/StringUTF16" = true := by first | (simp [plainName, overriddenIn]; done) | decide +kernel
set_option maxRecDepth 65536 in
set_option maxHeartbeats 40000000 in
theorem rmnbl (l : Launch) (Z : State) (a0 : Array Value) (hw : ∀ d ∈ tables_1, d.before a0 Z = true) (ws : List Jvm.Cond) (nb : Nat) (h0 : Heap) (n0 : Nat) (O0 : Old Z n0 h0) (hnb : (nb ≤ 1000)) :
    MetFree l mN3 (head1 (Jvm.Cond.code mN3 jdk_52_method_3_code 1 (some .int) :: ws) ({ frames := 0, cells := 0, slots := 0, locals := 0 } : Room)) (fun as_ U => as_ = #[(.int (own_i nb))] ∧ Z.Warmed39 U.vm ∧ U.heap = h0) (fun _ _ _ _ _ => True) (fun _ U o U' => ∃ v L, o = .returned v ∧ Qnbl Z nb h0 n0 v U'.heap L ∧ FrameEnd U o U' L ({ frames := 0, cells := 0, slots := 0, locals := 0 } : Room).cells ({ frames := 0, cells := 0, slots := 0, locals := 0 } : Room).slots) := by
  refine MetFree.of_bodySF (plainFor_of_name pn_java_lang_StringUTF16) hisR ?_
  intro p e s m args below meth c s₁ Bd hml0 hP hK
  obtain ⟨rfl, hZ, hh⟩ := hP
  have hx := Bd.exec
  have hby := Bd.bytes
  have hml : c.maxLocals = 1 := hml0
  have hown : s.vm.findClass "java/lang/StringUTF16" = some m.cls := findClass_of_methodNamed Bd.named
  have hnm := (name_of_methodNamed Bd.named Bd.method).1
  have X0 : Stand p l e ({ frames := 0, cells := 0, slots := 0, locals := 0 } : Room) s m #[(.int (own_i nb))] below meth c s₁ [] 0 0 := Stand.of_body Bd
  have e0 : s₁.heap = h0 := by rw [← hh, Bd.state]; rfl
  have N0 := Fr.nil n0
  have Z0 := own_z0 O0
  have pre0 : ∀ tg_, Steps p.tables e below (s₁.setTop (mkF m 0 #[vI (own_i nb)] [])) tg_ → Steps p.tables e below (s₁.setTop (entryFrame m #[(.int (own_i nb))] 1)) tg_ := fun tg_ kt_ => castTop (ef_nbl m (own_i nb)) kt_
  have pre1 := fun tg_ (kt_ : Steps p.tables e below (s₁.setTop (mkF m 58 #[vI (own_i nb)] [(.int ((own_i nb) <<< ((1 : Int32) &&& 31)))])) tg_) => pre0 tg_ (by
    refine XS.iloadN X0.here hx rfl (hb hby d45_0) rfl ?_
    refine XS.ifYes X0.here hx rfl (pc0 := 1) (pc' := 12) rfl (hb hby d45_1) rfl ((if0 _ _).trans (flt (own_inn (by omega) : ¬ ((own_i nb) < (0 : Int32)))).2.1) (by decide) (by decide) ?_
    refine XS.iloadN X0.here hx rfl (hb hby d45_12) rfl ?_
    refine X0.ldcInt hx hown (mvT hZ (hw _ w_255)) (g := (mkF m 13 #[vI (own_i nb)] [(.int (own_i nb))])) rfl (hb hby d45_13) _ ?_
    refine XS.icmpYes X0.here hx rfl (pc0 := 15) (pc' := 55) rfl (hb hby d45_15) rfl (tlt ((own_ilt (b := 1073741823) (by omega) (by decide)).mpr (by omega) : (own_i nb) < (1073741823 : Int32))).1 (by decide) (by decide) ?_
    refine XS.iloadN X0.here hx rfl (hb hby d45_55) rfl ?_
    refine XS.iconst X0.here hx rfl (hb hby d45_56) ?_
    refine XS.ishl X0.here hx rfl (hb hby d45_57) rfl ?_
    exact kt_)
  have pre2 := fun tg_ (kt_ : Steps p.tables e below (s₁.setTop (mkF m 58 #[vI (own_i nb)] [(.int (own_i (2 * nb)))])) tg_) => pre1 tg_ (by
    rw [show ((own_i nb) <<< ((1 : Int32) &&& 31)) = (own_i (2 * nb)) from own_shl1 _]
    exact kt_)
  obtain ⟨fs, hr, hrun, hended, hW, hsame⟩ := X0.leave (v := some (.int (own_i (2 * nb)))) (fun h => by rw [Bd.returns] at h; cases h)
  refine ⟨_, _, pre2 _ ?_, hrun, hended, _, _, rfl, ?_, ⟨_, rfl⟩, hW, hsame.mono (by decide) (by decide)⟩
  · exact retI X0 hx Bd.returns (hb hby d45_58) hr
  · show Qnbl Z nb h0 n0 _ s₁.heap _
    rw [e0]
    exact ⟨rfl, N0, rfl⟩
abbrev c44_ := jdk_52_method_2_code
theorem d44_0 : decode c44_ 0 = .ok (.iload_n 0, 1) := by decide +kernel
theorem w_252 : (Cond.methodLink "java/lang/StringUTF16" (11 : Nat) mN3) ∈ tables_1 := List.mem_of_getElem? (i := 252) (by decide +kernel)
theorem w_254 : (Cond.code mN3 jdk_52_method_3_code (1 : Nat) (Option.some FieldType.int)) ∈ tables_1 := List.mem_of_getElem? (i := 254) (by decide +kernel)
theorem w_238 : (Cond.initialized "java/lang/StringUTF16") ∈ tables_1 := List.mem_of_getElem? (i := 238) (by decide +kernel)
theorem pd__I_I : parseMethodDescriptor "(I)I" = some ⟨[.int], some .int⟩ := by decide +kernel
theorem d44_1 : decode c44_ 1 = .ok (.invokestatic 11, 3) := by decide +kernel
theorem w_253 : (Cond.static mN3) ∈ tables_1 := List.mem_of_getElem? (i := 253) (by decide +kernel)
theorem w_15 : (Cond.arrayClass FieldType.byte) ∈ tables_1 := List.mem_of_getElem? (i := 15) (by decide +kernel)
theorem d44_4 : decode c44_ 4 = .ok (.newarray .byte, 2) := by decide +kernel
theorem d44_6 : decode c44_ 6 = .ok (.areturn, 1) := by decide +kernel
abbrev mN4 : MethodName := ⟨"java/lang/StringUTF16", "newBytesFor", "(I)[B"⟩
theorem ef_nbf (m : MethodId) (x0 : Int32) : entryFrame m #[(.int x0)] 1 = mkF m 0 #[vI x0] [] := by first | (simp [entryFrame, mkF, argsToLocals, Value.category]; done) | rfl
def Qnbf (Z : State) (nb : Nat) (h0 : Heap) (n0 : Nat) (v : Option Value) (h : Heap) (L : List Loc) : Prop := ∃ (r : Addr), ∃ (kr : ClassId), v = some (.ref r) ∧ Fr n0 L ∧ Keep h0 h [] ∧ h0.size ≤ r ∧ Arv Z h r kr .byte (own_i (2 * nb)) [] (.int 0)
set_option maxRecDepth 65536 in
set_option maxHeartbeats 40000000 in
theorem rmnbf (l : Launch) (Z : State) (a0 : Array Value) (hw : ∀ d ∈ tables_1, d.before a0 Z = true) (ws : List Jvm.Cond) (nb : Nat) (h0 : Heap) (n0 : Nat) (O0 : Old Z n0 h0) (hnb : (nb ≤ 80)) :
    MetFree l mN4 (head1 (Jvm.Cond.code mN4 jdk_52_method_2_code 1 (some (.array .byte)) :: ws) ({ frames := 1, cells := 1, slots := 160, locals := 12 } : Room)) (fun as_ U => as_ = #[(.int (own_i nb))] ∧ Z.Warmed39 U.vm ∧ U.heap = h0) (fun _ _ _ _ _ => True) (fun _ U o U' => ∃ v L, o = .returned v ∧ Qnbf Z nb h0 n0 v U'.heap L ∧ FrameEnd U o U' L ({ frames := 1, cells := 1, slots := 160, locals := 12 } : Room).cells ({ frames := 1, cells := 1, slots := 160, locals := 12 } : Room).slots) := by
  refine MetFree.of_bodySF (plainFor_of_name pn_java_lang_StringUTF16) hisR ?_
  intro p e s m args below meth c s₁ Bd hml0 hP hK
  obtain ⟨rfl, hZ, hh⟩ := hP
  have hx := Bd.exec
  have hby := Bd.bytes
  have hml : c.maxLocals = 1 := hml0
  have hown : s.vm.findClass "java/lang/StringUTF16" = some m.cls := findClass_of_methodNamed Bd.named
  have hnm := (name_of_methodNamed Bd.named Bd.method).1
  have X0 : Stand p l e ({ frames := 1, cells := 1, slots := 160, locals := 12 } : Room) s m #[(.int (own_i nb))] below meth c s₁ [] 0 0 := Stand.of_body Bd
  have e0 : s₁.heap = h0 := by rw [← hh, Bd.state]; rfl
  have N0 := Fr.nil n0
  have Z0 := own_z0 O0
  have pre0 : ∀ tg_, Steps p.tables e below (s₁.setTop (mkF m 0 #[vI (own_i nb)] [])) tg_ → Steps p.tables e below (s₁.setTop (entryFrame m #[(.int (own_i nb))] 1)) tg_ := fun tg_ kt_ => castTop (ef_nbf m (own_i nb)) kt_
  obtain ⟨_, _, ⟨T1, L1, k1, n1⟩, -, X1, ⟨Lc1, hQ1, l1, y1, z1⟩, st1⟩ := Jvm.LawKit.callS X0 hx (y := mN3) hown (mvT hZ (hw _ w_252)) (mvT hZ (hw _ w_253)) (mvT hZ (hw _ w_238)) (mvT hZ (hw _ w_254)) (by decide) (backOf (W := 0) (rmnbl l Z a0 hw [] nb h0 n0 O0 (by omega)) hZ (hw _ w_254) (hw _ w_238) (by decide) (by decide)) (g := (mkF m 1 #[vI (own_i nb)] [(.int (own_i nb))])) rfl (by rw [hml]; rfl) (argsL := [(.int (own_i nb))]) (rest := []) (lenOf pd__I_I rfl) rfl (by show 2 * 0 + _ ≤ _; exact Nat.le_of_eq rfl) (hb hby d44_1) (fun _ _ => ⟨rfl, e0, (by decide : 0 + 0 ≤ _), (by decide : 0 + 0 ≤ _)⟩)
  dsimp only [Pt.U, Pt.locs, Pt.cells, Pt.slots] at X1 l1 y1 z1 st1 hQ1
  subst l1 y1 z1
  obtain ⟨rfl, N1q, eh1⟩ := hQ1
  have N1 := Fr.app N0 N1q
  obtain ⟨T2, h2, k2, X2, e2, E2, A2, st2⟩ := newP X1 hx hZ (hw (Jvm.Cond.arrayClass (newarray.typeOf .byte)) w_15) eh1 (g := (mkF m 4 #[vI (own_i nb)] [(.int (own_i (2 * nb)))])) rfl (hb hby d44_4) rfl (own_inn (by omega)) (cap := 160) (by rw [own_inat (by omega)]; omega) (by decide) (by decide) (by decide)
  obtain ⟨b2, g2⟩ : ∃ z, z = h0.size := ⟨_, rfl⟩
  rw [← g2] at A2 st2
  have sz2 : h0.size ≤ b2 := Nat.le_trans (Keep.refl h0 []).1 (Nat.le_of_eq g2.symm)
  have gn2 : n0 ≤ b2 := Nat.le_trans Z0 sz2
  have O2 : Old Z n0 h2 := O0.ext E2
  have K2 : Keep h0 h2 [] := (Keep.refl h0 []).ext E2
  have V2 : Arv Z h2 b2 k2 .byte (own_i (2 * nb)) [] (.int 0) := Arv.new A2 (own_inn (by omega))
  obtain ⟨fs, hr, hrun, hended, hW, hsame⟩ := X2.leave (v := some (.ref b2)) (fun h => by rw [Bd.returns] at h; cases h)
  refine ⟨_, _, pre0 _ ?_, hrun, hended, _, _, rfl, ?_, ⟨_, rfl⟩, hW, hsame.mono (by decide) (by decide)⟩
  · refine XS.iloadN X0.here hx rfl (hb hby d44_0) rfl ?_
    refine st1 _ ?_
    refine st2 _ ?_
    jvm_step X2.here [X2.here.top, hx, (hb hby d44_6), X2.method', Bd.returns, Value.isRef, FieldType.isReference]
    first | (intro acts; rw [hr _ acts rfl rfl rfl]) | rw [hr _ _ rfl rfl rfl]
    exact Steps.refl _
  · show Qnbf Z nb h0 n0 _ T2.heap _
    rw [e2]
    exact ⟨b2, k2, rfl, N1, K2, sz2, V2⟩
theorem w_259 : (Cond.fieldLink "java/lang/StringUTF16" (44 : Nat) "java/lang/StringUTF16" "$assertionsDisabled" "Z") ∈ tables_1 := List.mem_of_getElem? (i := 259) (by decide +kernel)
abbrev c46_ := jdk_52_method_4_code
theorem d46_0 : decode c46_ 0 = .ok (.getstatic 44, 3) := by decide +kernel
theorem d46_3 : decode c46_ 3 = .ok (.ifCond .ne 25, 3) := by decide +kernel
theorem d46_28 : decode c46_ 28 = .ok (.iload_n 1, 1) := by decide +kernel
theorem d46_29 : decode c46_ 29 = .ok (.iconst 1, 1) := by decide +kernel
theorem d46_30 : decode c46_ 30 = .ok (.ishl, 1) := by decide +kernel
theorem d46_31 : decode c46_ 31 = .ok (.istore_n 1, 1) := by decide +kernel
theorem d46_32 : decode c46_ 32 = .ok (.aload_n 0, 1) := by decide +kernel
theorem d46_33 : decode c46_ 33 = .ok (.iload_n 1, 1) := by decide +kernel
theorem d46_34 : decode c46_ 34 = .ok (.iinc 1 1, 3) := by decide +kernel
theorem d46_37 : decode c46_ 37 = .ok (.iload_n 2, 1) := by decide +kernel
theorem w_260 : (Cond.fieldLink "java/lang/StringUTF16" (59 : Nat) "java/lang/StringUTF16" "HI_BYTE_SHIFT" "I") ∈ tables_1 := List.mem_of_getElem? (i := 260) (by decide +kernel)
theorem d46_38 : decode c46_ 38 = .ok (.getstatic 59, 3) := by decide +kernel
theorem d46_41 : decode c46_ 41 = .ok (.ishr, 1) := by decide +kernel
theorem d46_42 : decode c46_ 42 = .ok (.i2b, 1) := by decide +kernel
theorem d46_43 : decode c46_ 43 = .ok (.bastore, 1) := by decide +kernel
theorem d46_44 : decode c46_ 44 = .ok (.aload_n 0, 1) := by decide +kernel
theorem d46_45 : decode c46_ 45 = .ok (.iload_n 1, 1) := by decide +kernel
theorem d46_46 : decode c46_ 46 = .ok (.iload_n 2, 1) := by decide +kernel
theorem w_261 : (Cond.fieldLink "java/lang/StringUTF16" (63 : Nat) "java/lang/StringUTF16" "LO_BYTE_SHIFT" "I") ∈ tables_1 := List.mem_of_getElem? (i := 261) (by decide +kernel)
theorem d46_47 : decode c46_ 47 = .ok (.getstatic 63, 3) := by decide +kernel
theorem d46_50 : decode c46_ 50 = .ok (.ishr, 1) := by decide +kernel
theorem d46_51 : decode c46_ 51 = .ok (.i2b, 1) := by decide +kernel
theorem d46_52 : decode c46_ 52 = .ok (.bastore, 1) := by decide +kernel
theorem d46_53 : decode c46_ 53 = .ok (.return_, 1) := by decide +kernel
abbrev mN5 : MethodName := ⟨"java/lang/StringUTF16", "putChar", "([BII)V"⟩
theorem ef_putC (m : MethodId) (x0 : Addr) (x1 : Int32) (x2 : Int32) : entryFrame m #[(.ref x0), (.int x1), (.int x2)] 3 = mkF m 0 #[vR x0, vI x1, vI x2] [] := by first | (simp [entryFrame, mkF, argsToLocals, Value.category]; done) | rfl
def QputC (Z : State) (d : Addr) (cc : Int32) (ix : Nat) (cap : Nat) (ys : List Int32) (kd : ClassId) (h0 : Heap) (n0 : Nat) (v : Option Value) (h : Heap) (L : List Loc) : Prop := v = none ∧ Fr n0 L ∧ Keep h0 h [d] ∧ Arv Z h d kd .byte (own_i cap) ((own_e1 (ys ++ [cc])).map Value.int) (.int 0)
set_option maxRecDepth 65536 in
set_option maxHeartbeats 40000000 in
theorem rmputC (l : Launch) (Z : State) (a0 : Array Value) (hw : ∀ d ∈ tables_1, d.before a0 Z = true) (ws : List Jvm.Cond) (d : Addr) (cc : Int32) (ix : Nat) (cap : Nat) (ys : List Int32) (kd : ClassId) (h0 : Heap) (n0 : Nat) (O0 : Old Z n0 h0) (hp0 : n0 ≤ d) (hp1 : Arv Z h0 d kd .byte (own_i cap) ((own_e1 ys).map Value.int) (.int 0)) (hix : (ys.length = ix)) (hcp : (2 * ix + 2 ≤ cap)) (hcl : (cap ≤ 1000)) (hp5 : Sta Z Z.heap "java/lang/StringUTF16" "$assertionsDisabled" "Z" (.int 1)) (hp6 : Sta Z Z.heap "java/lang/StringUTF16" "HI_BYTE_SHIFT" "I" (.int 0)) (hp7 : Sta Z Z.heap "java/lang/StringUTF16" "LO_BYTE_SHIFT" "I" (.int 8)) :
    MetFree l mN5 (head1 (Jvm.Cond.code mN5 jdk_52_method_4_code 3 none :: ws) ({ frames := 0, cells := 0, slots := 0, locals := 0 } : Room)) (fun as_ U => as_ = #[(.ref d), (.int (own_i ix)), (.int cc)] ∧ Z.Warmed39 U.vm ∧ U.heap = h0) (fun _ _ _ _ _ => True) (fun _ U o U' => ∃ v L, o = .returned v ∧ QputC Z d cc ix cap ys kd h0 n0 v U'.heap L ∧ FrameEnd U o U' L ({ frames := 0, cells := 0, slots := 0, locals := 0 } : Room).cells ({ frames := 0, cells := 0, slots := 0, locals := 0 } : Room).slots) := by
  refine MetFree.of_bodySF (plainFor_of_name pn_java_lang_StringUTF16) hisR ?_
  intro p e s m args below meth c s₁ Bd hml0 hP hK
  obtain ⟨rfl, hZ, hh⟩ := hP
  have hx := Bd.exec
  have hby := Bd.bytes
  have hml : c.maxLocals = 3 := hml0
  have hown : s.vm.findClass "java/lang/StringUTF16" = some m.cls := findClass_of_methodNamed Bd.named
  have hnm := (name_of_methodNamed Bd.named Bd.method).1
  have X0 : Stand p l e ({ frames := 0, cells := 0, slots := 0, locals := 0 } : Room) s m #[(.ref d), (.int (own_i ix)), (.int cc)] below meth c s₁ [] 0 0 := Stand.of_body Bd
  have e0 : s₁.heap = h0 := by rw [← hh, Bd.state]; rfl
  have N0 := Fr.nil n0
  have Z0 := own_z0 O0
  have pre0 : ∀ tg_, Steps p.tables e below (s₁.setTop (mkF m 0 #[vR d, vI (own_i ix), vI cc] [])) tg_ → Steps p.tables e below (s₁.setTop (entryFrame m #[(.ref d), (.int (own_i ix)), (.int cc)] 3)) tg_ := fun tg_ kt_ => castTop (ef_putC m d (own_i ix) cc) kt_
  obtain ⟨T1, X1, e1, st1⟩ := getS2 X0 hx hZ hown (host := "") (Or.inl (hw _ w_259)) Via.refl e0 (hp5.ext O0.2) (g := (mkF m 0 #[vR d, vI (own_i ix), vI cc] [])) rfl (hb hby d46_0)
  have pre2 := fun tg_ (kt_ : Steps p.tables e below (T1.setTop (mkF m 31 #[vR d, vI (own_i ix), vI cc] [(.int ((own_i ix) <<< ((1 : Int32) &&& 31)))])) tg_) => pre0 tg_ (by
    refine st1 _ ?_
    refine XS.ifYes X1.here hx rfl (pc0 := 3) (pc' := 28) rfl (hb hby d46_3) rfl ((if0 _ _).trans (feq (by decide : ¬ ((1 : Int32) = (0 : Int32)))).2) (by decide) (by decide) ?_
    refine XS.iloadN X1.here hx rfl (hb hby d46_28) rfl ?_
    refine XS.iconst X1.here hx rfl (hb hby d46_29) ?_
    refine XS.ishl X1.here hx rfl (hb hby d46_30) rfl ?_
    exact kt_)
  have pre3 := fun tg_ (kt_ : Steps p.tables e below (T1.setTop (mkF m 31 #[vR d, vI (own_i ix), vI cc] [(.int (own_i (2 * ix)))])) tg_) => pre2 tg_ (by
    rw [show ((own_i ix) <<< ((1 : Int32) &&& 31)) = (own_i (2 * ix)) from own_shl1 _]
    exact kt_)
  have pre4 := fun tg_ (kt_ : Steps p.tables e below (T1.setTop (mkF m 37 #[vR d, vI ((own_i (2 * ix)) + (1 : Int32)), vI cc] [(.int (own_i (2 * ix))), (.ref d)])) tg_) => pre3 tg_ (by
    refine XS.istoreN X1.here hx rfl (hb hby d46_31) rfl (l' := #[vR d, vI (own_i (2 * ix)), vI cc]) rfl ?_
    refine XS.aloadN X1.here hx rfl (hb hby d46_32) rfl rfl ?_
    refine XS.iloadN X1.here hx rfl (hb hby d46_33) rfl ?_
    refine XS.iinc X1.here hx rfl (hb hby d46_34) rfl (l' := #[vR d, vI ((own_i (2 * ix)) + (1 : Int32)), vI cc]) rfl ?_
    exact kt_)
  have pre5 := fun tg_ (kt_ : Steps p.tables e below (T1.setTop (mkF m 37 #[vR d, vI (own_i (2 * ix + 1)), vI cc] [(.int (own_i (2 * ix))), (.ref d)])) tg_) => pre4 tg_ (by
    rw [show ((own_i (2 * ix)) + (1 : Int32)) = (own_i (2 * ix + 1)) from own_iadd _ 1]
    exact kt_)
  obtain ⟨T6, X6, e6, st6⟩ := getS2 X1 hx hZ hown (host := "") (Or.inl (hw _ w_260)) Via.refl e1 (hp6.ext O0.2) (g := (mkF m 38 #[vR d, vI (own_i (2 * ix + 1)), vI cc] [(.int cc), (.int (own_i (2 * ix))), (.ref d)])) rfl (hb hby d46_38)
  have Vp7 : Arv Z h0 d kd .byte (own_i cap) (((own_e1 ys).map Value.int) ++ [(Value.int (0 : Int32)), (Value.int (0 : Int32))]) (.int 0) := (hp1).pad (pad_rep _ _ 2)
  obtain ⟨cl8, Ar8, q8, S8, Ng8, H8, G8⟩ := id Vp7
  have hin8 : ¬ ((own_i (2 * ix)) < 0 ∨ cl8.slots.size ≤ ((own_i (2 * ix))).toNatClampNeg) := inb_of S8 ⟨own_inn (by omega), (own_ilt (by omega) (by omega)).mpr (by omega)⟩
  obtain ⟨T8, h8, X8, e8, W8, st8⟩ := stB X6 hx hZ e6 Ar8 (j := (own_i (2 * ix))) hin8 (g := (mkF m 43 #[vR d, vI (own_i (2 * ix + 1)), vI cc] [(.int ((cc >>> ((0 : Int32) &&& 31)).toInt8.toInt32)), (.int (own_i (2 * ix))), (.ref d)])) rfl rfl (hb hby d46_43)
  have V8 : Arv Z h8 d kd .byte (own_i cap) ((((own_e1 ys).map Value.int) ++ [(Value.int (0 : Int32)), (Value.int (0 : Int32))]).set (2 * ix) (.int ((cc >>> ((0 : Int32) &&& 31)).toInt8.toInt32).toInt8.toInt32)) (.int 0) := Arv.set Ar8 q8 S8 Ng8 H8 G8 (fits_nar_byte _) W8 (2 * ix) (own_inat (by omega)) (by rw [List.length_append, List.length_map, own_e1len]; show _ < _ + 2; omega)
  have N8 := Fr.snoc X8 N0 hp0
  have O8 : Old Z n0 h8 := O0.wr W8 hp0
  have K8 : Keep h0 h8 [d] := (Keep.refl h0 [d]).wr W8 (Or.inl (List.mem_of_getElem? (i := 0) rfl))
  obtain ⟨T9, X9, e9, st9⟩ := getS2 X8 hx hZ hown (host := "") (Or.inl (hw _ w_261)) Via.refl e8 (hp7.ext O8.2) (g := (mkF m 47 #[vR d, vI (own_i (2 * ix + 1)), vI cc] [(.int cc), (.int (own_i (2 * ix + 1))), (.ref d)])) rfl (hb hby d46_47)
  obtain ⟨cl10, Ar10, q10, S10, Ng10, H10, G10⟩ := id V8
  have hin10 : ¬ ((own_i (2 * ix + 1)) < 0 ∨ cl10.slots.size ≤ ((own_i (2 * ix + 1))).toNatClampNeg) := inb_of S10 ⟨own_inn (by omega), (own_ilt (by omega) (by omega)).mpr (by omega)⟩
  obtain ⟨T10, h10, X10, e10, W10, st10⟩ := stB X9 hx hZ e9 Ar10 (j := (own_i (2 * ix + 1))) hin10 (g := (mkF m 52 #[vR d, vI (own_i (2 * ix + 1)), vI cc] [(.int ((cc >>> ((8 : Int32) &&& 31)).toInt8.toInt32)), (.int (own_i (2 * ix + 1))), (.ref d)])) rfl rfl (hb hby d46_52)
  have V10 : Arv Z h10 d kd .byte (own_i cap) (((((own_e1 ys).map Value.int) ++ [(Value.int (0 : Int32)), (Value.int (0 : Int32))]).set (2 * ix) (.int ((cc >>> ((0 : Int32) &&& 31)).toInt8.toInt32).toInt8.toInt32)).set (2 * ix + 1) (.int ((cc >>> ((8 : Int32) &&& 31)).toInt8.toInt32).toInt8.toInt32)) (.int 0) := Arv.set Ar10 q10 S10 Ng10 H10 G10 (fits_nar_byte _) W10 (2 * ix + 1) (own_inat (by omega)) (by rw [List.length_set, List.length_append, List.length_map, own_e1len]; show _ < _ + 2; omega)
  have N10 := Fr.snoc X10 N8 hp0
  have O10 : Old Z n0 h10 := O8.wr W10 hp0
  have K10 : Keep h0 h10 [d] := K8.wr W10 (Or.inl (List.mem_of_getElem? (i := 0) rfl))
  have Vr11 : Arv Z h10 d kd .byte (own_i cap) ((own_e1 (ys ++ [cc])).map Value.int) (.int 0) := by
    have q := V10
    rw [own_put2 hix] at q; exact q
  obtain ⟨fs, hr, hrun, hended, hW, hsame⟩ := X10.leave (v := none) (fun _ => rfl)
  refine ⟨_, _, pre5 _ ?_, hrun, hended, _, _, rfl, ?_, ⟨_, rfl⟩, hW, hsame.mono (by decide) (by decide)⟩
  · refine XS.iloadN X1.here hx rfl (hb hby d46_37) rfl ?_
    refine st6 _ ?_
    refine XS.ishr X6.here hx rfl (hb hby d46_41) rfl ?_
    refine XS.i2b X6.here hx rfl (hb hby d46_42) rfl ?_
    show Steps _ _ _ (T6.setTop (mkF m 43 #[vR d, vI (own_i (2 * ix + 1)), vI cc] [(.int ((cc >>> ((0 : Int32) &&& 31)).toInt8.toInt32)), (.int (own_i (2 * ix))), (.ref d)])) _
    refine st8 _ ?_
    refine XS.aloadN X8.here hx rfl (hb hby d46_44) rfl rfl ?_
    refine XS.iloadN X8.here hx rfl (hb hby d46_45) rfl ?_
    refine XS.iloadN X8.here hx rfl (hb hby d46_46) rfl ?_
    refine st9 _ ?_
    refine XS.ishr X9.here hx rfl (hb hby d46_50) rfl ?_
    refine XS.i2b X9.here hx rfl (hb hby d46_51) rfl ?_
    refine st10 _ ?_
    exact X10.returnOut hx Bd.returns (hb hby d46_53) hr
  · show QputC Z d cc ix cap ys kd h0 n0 _ T10.heap _
    rw [e10]
    exact ⟨rfl, N10, K10, Vr11⟩
abbrev c47_ := jdk_52_method_5_code
theorem d47_0 : decode c47_ 0 = .ok (.getstatic 44, 3) := by decide +kernel
theorem d47_3 : decode c47_ 3 = .ok (.ifCond .ne 25, 3) := by decide +kernel
theorem d47_28 : decode c47_ 28 = .ok (.iload_n 1, 1) := by decide +kernel
theorem d47_29 : decode c47_ 29 = .ok (.iconst 1, 1) := by decide +kernel
theorem d47_30 : decode c47_ 30 = .ok (.ishl, 1) := by decide +kernel
theorem d47_31 : decode c47_ 31 = .ok (.istore_n 1, 1) := by decide +kernel
theorem d47_32 : decode c47_ 32 = .ok (.aload_n 0, 1) := by decide +kernel
theorem d47_33 : decode c47_ 33 = .ok (.iload_n 1, 1) := by decide +kernel
theorem d47_34 : decode c47_ 34 = .ok (.iinc 1 1, 3) := by decide +kernel
theorem d47_37 : decode c47_ 37 = .ok (.baload, 1) := by decide +kernel
theorem d47_38 : decode c47_ 38 = .ok (.sipush 255, 3) := by decide +kernel
theorem d47_41 : decode c47_ 41 = .ok (.iand, 1) := by decide +kernel
theorem d47_42 : decode c47_ 42 = .ok (.getstatic 59, 3) := by decide +kernel
theorem d47_45 : decode c47_ 45 = .ok (.ishl, 1) := by decide +kernel
theorem d47_46 : decode c47_ 46 = .ok (.aload_n 0, 1) := by decide +kernel
theorem d47_47 : decode c47_ 47 = .ok (.iload_n 1, 1) := by decide +kernel
theorem d47_48 : decode c47_ 48 = .ok (.baload, 1) := by decide +kernel
theorem d47_49 : decode c47_ 49 = .ok (.sipush 255, 3) := by decide +kernel
theorem d47_52 : decode c47_ 52 = .ok (.iand, 1) := by decide +kernel
theorem d47_53 : decode c47_ 53 = .ok (.getstatic 63, 3) := by decide +kernel
theorem d47_56 : decode c47_ 56 = .ok (.ishl, 1) := by decide +kernel
theorem d47_57 : decode c47_ 57 = .ok (.ior, 1) := by decide +kernel
theorem d47_58 : decode c47_ 58 = .ok (.i2c, 1) := by decide +kernel
theorem d47_59 : decode c47_ 59 = .ok (.ireturn, 1) := by decide +kernel
abbrev mN6 : MethodName := ⟨"java/lang/StringUTF16", "getChar", "([BI)C"⟩
theorem ef_getC (m : MethodId) (x0 : Addr) (x1 : Int32) : entryFrame m #[(.ref x0), (.int x1)] 2 = mkF m 0 #[vR x0, vI x1] [] := by first | (simp [entryFrame, mkF, argsToLocals, Value.category]; done) | rfl
def QgetC (Z : State) (t : Addr) (ki : Nat) (cap : Nat) (cs : List Int32) (kt : ClassId) (h0 : Heap) (n0 : Nat) (v : Option Value) (h : Heap) (L : List Loc) : Prop := v = some (.int (cs.getD ki 0)) ∧ Fr n0 L ∧ h = h0
set_option maxRecDepth 65536 in
set_option maxHeartbeats 40000000 in
theorem rmgetC (l : Launch) (Z : State) (a0 : Array Value) (hw : ∀ d ∈ tables_1, d.before a0 Z = true) (ws : List Jvm.Cond) (t : Addr) (ki : Nat) (cap : Nat) (cs : List Int32) (kt : ClassId) (h0 : Heap) (n0 : Nat) (O0 : Old Z n0 h0) (hp0 : Arv Z h0 t kt .byte (own_i cap) ((own_e1 cs).map Value.int) (.int 0)) (hi : (ki < cs.length)) (hcp : (2 * cs.length ≤ cap)) (hcl : (cap ≤ 1000)) (hch : (own_Ch cs)) (hp5 : Sta Z Z.heap "java/lang/StringUTF16" "$assertionsDisabled" "Z" (.int 1)) (hp6 : Sta Z Z.heap "java/lang/StringUTF16" "HI_BYTE_SHIFT" "I" (.int 0)) (hp7 : Sta Z Z.heap "java/lang/StringUTF16" "LO_BYTE_SHIFT" "I" (.int 8)) :
    MetFree l mN6 (head1 (Jvm.Cond.code mN6 jdk_52_method_5_code 2 (some .char) :: ws) ({ frames := 0, cells := 0, slots := 0, locals := 0 } : Room)) (fun as_ U => as_ = #[(.ref t), (.int (own_i ki))] ∧ Z.Warmed39 U.vm ∧ U.heap = h0) (fun _ _ _ _ _ => True) (fun _ U o U' => ∃ v L, o = .returned v ∧ QgetC Z t ki cap cs kt h0 n0 v U'.heap L ∧ FrameEnd U o U' L ({ frames := 0, cells := 0, slots := 0, locals := 0 } : Room).cells ({ frames := 0, cells := 0, slots := 0, locals := 0 } : Room).slots) := by
  refine MetFree.of_bodySF (plainFor_of_name pn_java_lang_StringUTF16) hisR ?_
  intro p e s m args below meth c s₁ Bd hml0 hP hK
  obtain ⟨rfl, hZ, hh⟩ := hP
  have hx := Bd.exec
  have hby := Bd.bytes
  have hml : c.maxLocals = 2 := hml0
  have hown : s.vm.findClass "java/lang/StringUTF16" = some m.cls := findClass_of_methodNamed Bd.named
  have hnm := (name_of_methodNamed Bd.named Bd.method).1
  have X0 : Stand p l e ({ frames := 0, cells := 0, slots := 0, locals := 0 } : Room) s m #[(.ref t), (.int (own_i ki))] below meth c s₁ [] 0 0 := Stand.of_body Bd
  have e0 : s₁.heap = h0 := by rw [← hh, Bd.state]; rfl
  have N0 := Fr.nil n0
  have Z0 := own_z0 O0
  have pre0 : ∀ tg_, Steps p.tables e below (s₁.setTop (mkF m 0 #[vR t, vI (own_i ki)] [])) tg_ → Steps p.tables e below (s₁.setTop (entryFrame m #[(.ref t), (.int (own_i ki))] 2)) tg_ := fun tg_ kt_ => castTop (ef_getC m t (own_i ki)) kt_
  obtain ⟨T1, X1, e1, st1⟩ := getS2 X0 hx hZ hown (host := "") (Or.inl (hw _ w_259)) Via.refl e0 (hp5.ext O0.2) (g := (mkF m 0 #[vR t, vI (own_i ki)] [])) rfl (hb hby d47_0)
  have pre2 := fun tg_ (kt_ : Steps p.tables e below (T1.setTop (mkF m 31 #[vR t, vI (own_i ki)] [(.int ((own_i ki) <<< ((1 : Int32) &&& 31)))])) tg_) => pre0 tg_ (by
    refine st1 _ ?_
    refine XS.ifYes X1.here hx rfl (pc0 := 3) (pc' := 28) rfl (hb hby d47_3) rfl ((if0 _ _).trans (feq (by decide : ¬ ((1 : Int32) = (0 : Int32)))).2) (by decide) (by decide) ?_
    refine XS.iloadN X1.here hx rfl (hb hby d47_28) rfl ?_
    refine XS.iconst X1.here hx rfl (hb hby d47_29) ?_
    refine XS.ishl X1.here hx rfl (hb hby d47_30) rfl ?_
    exact kt_)
  have pre3 := fun tg_ (kt_ : Steps p.tables e below (T1.setTop (mkF m 31 #[vR t, vI (own_i ki)] [(.int (own_i (2 * ki)))])) tg_) => pre2 tg_ (by
    rw [show ((own_i ki) <<< ((1 : Int32) &&& 31)) = (own_i (2 * ki)) from own_shl1 _]
    exact kt_)
  have pre4 := fun tg_ (kt_ : Steps p.tables e below (T1.setTop (mkF m 37 #[vR t, vI ((own_i (2 * ki)) + (1 : Int32))] [(.int (own_i (2 * ki))), (.ref t)])) tg_) => pre3 tg_ (by
    refine XS.istoreN X1.here hx rfl (hb hby d47_31) rfl (l' := #[vR t, vI (own_i (2 * ki))]) rfl ?_
    refine XS.aloadN X1.here hx rfl (hb hby d47_32) rfl rfl ?_
    refine XS.iloadN X1.here hx rfl (hb hby d47_33) rfl ?_
    refine XS.iinc X1.here hx rfl (hb hby d47_34) rfl (l' := #[vR t, vI ((own_i (2 * ki)) + (1 : Int32))]) rfl ?_
    exact kt_)
  have pre5 := fun tg_ (kt_ : Steps p.tables e below (T1.setTop (mkF m 37 #[vR t, vI (own_i (2 * ki + 1))] [(.int (own_i (2 * ki))), (.ref t)])) tg_) => pre4 tg_ (by
    rw [show ((own_i (2 * ki)) + (1 : Int32)) = (own_i (2 * ki + 1)) from own_iadd _ 1]
    exact kt_)
  obtain ⟨cl6, Ar6, -, S6, Ng6, H6, G6⟩ := id hp0
  have hin6 : ¬ ((own_i (2 * ki)) < 0 ∨ cl6.slots.size ≤ ((own_i (2 * ki))).toNatClampNeg) := inb_of S6 ⟨own_inn (by omega), (own_ilt (by omega) (by omega)).mpr (by omega)⟩
  have hat6 : cl6.slots[((own_i (2 * ki))).toNatClampNeg]? = some (.int ((own_e1 cs).getD (2 * ki) 0)) := H6.at hin6 (own_gd (own_e1 cs) (by omega))
  obtain ⟨T7, X7, e7, st7⟩ := getS2 X1 hx hZ hown (host := "") (Or.inl (hw _ w_260)) Via.refl e1 (hp6.ext O0.2) (g := (mkF m 42 #[vR t, vI (own_i (2 * ki + 1))] [(.int (((own_e1 cs).getD (2 * ki) 0) &&& (255 : Int32)))])) rfl (hb hby d47_42)
  obtain ⟨cl8, Ar8, -, S8, Ng8, H8, G8⟩ := id hp0
  have hin8 : ¬ ((own_i (2 * ki + 1)) < 0 ∨ cl8.slots.size ≤ ((own_i (2 * ki + 1))).toNatClampNeg) := inb_of S8 ⟨own_inn (by omega), (own_ilt (by omega) (by omega)).mpr (by omega)⟩
  have hat8 : cl8.slots[((own_i (2 * ki + 1))).toNatClampNeg]? = some (.int ((own_e1 cs).getD (2 * ki + 1) 0)) := H8.at hin8 (own_gd (own_e1 cs) (by omega))
  obtain ⟨T9, X9, e9, st9⟩ := getS2 X7 hx hZ hown (host := "") (Or.inl (hw _ w_261)) Via.refl e7 (hp7.ext O0.2) (g := (mkF m 53 #[vR t, vI (own_i (2 * ki + 1))] [(.int (((own_e1 cs).getD (2 * ki + 1) 0) &&& (255 : Int32))), (.int ((((own_e1 cs).getD (2 * ki) 0) &&& (255 : Int32)) <<< ((0 : Int32) &&& 31)))])) rfl (hb hby d47_53)
  obtain ⟨fs, hr, hrun, hended, hW, hsame⟩ := X9.leave (v := some (.int (nar .char ((((((own_e1 cs).getD (2 * ki) 0) &&& (255 : Int32)) <<< ((0 : Int32) &&& 31)) ||| ((((own_e1 cs).getD (2 * ki + 1) 0) &&& (255 : Int32)) <<< ((8 : Int32) &&& 31))).toUInt32.toUInt16.toUInt32.toInt32)))) (fun h => by rw [Bd.returns] at h; cases h)
  refine ⟨_, _, pre5 _ ?_, hrun, hended, _, _, rfl, ?_, ⟨_, rfl⟩, hW, hsame.mono (by decide) (by decide)⟩
  · refine X1.baloadBytes hx (j := (own_i (2 * ki))) (v := (.int ((own_e1 cs).getD (2 * ki) 0))) (by rw [e1]; exact Ar6.1) (State.isArrayOf_alike hZ.alike Ar6.2.1) Ar6.2.2 hin6 hat6 (g := (mkF m 37 #[vR t, vI (own_i (2 * ki + 1))] [(.int (own_i (2 * ki))), (.ref t)])) rfl rfl (hb hby d47_37) _ ?_
    refine XS.sipush X1.here hx rfl (hb hby d47_38) ?_
    refine XS.iand X1.here hx rfl (hb hby d47_41) rfl ?_
    show Steps _ _ _ (T1.setTop (mkF m 42 #[vR t, vI (own_i (2 * ki + 1))] [(.int (((own_e1 cs).getD (2 * ki) 0) &&& (255 : Int32)))])) _
    refine st7 _ ?_
    refine XS.ishl X7.here hx rfl (hb hby d47_45) rfl ?_
    refine XS.aloadN X7.here hx rfl (hb hby d47_46) rfl rfl ?_
    refine XS.iloadN X7.here hx rfl (hb hby d47_47) rfl ?_
    refine X7.baloadBytes hx (j := (own_i (2 * ki + 1))) (v := (.int ((own_e1 cs).getD (2 * ki + 1) 0))) (by rw [e7]; exact Ar8.1) (State.isArrayOf_alike hZ.alike Ar8.2.1) Ar8.2.2 hin8 hat8 (g := (mkF m 48 #[vR t, vI (own_i (2 * ki + 1))] [(.int (own_i (2 * ki + 1))), (.ref t), (.int ((((own_e1 cs).getD (2 * ki) 0) &&& (255 : Int32)) <<< ((0 : Int32) &&& 31)))])) rfl rfl (hb hby d47_48) _ ?_
    refine XS.sipush X7.here hx rfl (hb hby d47_49) ?_
    refine XS.iand X7.here hx rfl (hb hby d47_52) rfl ?_
    refine st9 _ ?_
    refine XS.ishl X9.here hx rfl (hb hby d47_56) rfl ?_
    refine XS.ior X9.here hx rfl (hb hby d47_57) rfl ?_
    refine XS.i2c X9.here hx rfl (hb hby d47_58) rfl ?_
    exact retN X9 hx (t := .char) Bd.returns (by simp) (hb hby d47_59) hr
  · show QgetC Z t ki cap cs kt h0 n0 _ T9.heap _
    rw [e9]
    exact ⟨(own_ret (congrArg Value.int (own_getC cs hi hch))), N0, rfl⟩
abbrev c43_ := jdk_52_method_14_code
theorem d43_8 : decode c43_ 8 = .ok (.iload 4, 2) := by decide +kernel
theorem d43_10 : decode c43_ 10 = .ok (.iload_n 2, 1) := by decide +kernel
theorem d43_11 : decode c43_ 11 = .ok (.if_icmp .ge 21, 3) := by decide +kernel
theorem d43_14 : decode c43_ 14 = .ok (.aload_n 3, 1) := by decide +kernel
theorem d43_15 : decode c43_ 15 = .ok (.iload 4, 2) := by decide +kernel
theorem d43_17 : decode c43_ 17 = .ok (.aload_n 0, 1) := by decide +kernel
theorem d43_18 : decode c43_ 18 = .ok (.iload_n 1, 1) := by decide +kernel
theorem d43_19 : decode c43_ 19 = .ok (.caload, 1) := by decide +kernel
theorem w_256 : (Cond.methodLink "java/lang/StringUTF16" (111 : Nat) mN5) ∈ tables_1 := List.mem_of_getElem? (i := 256) (by decide +kernel)
theorem w_258 : (Cond.code mN5 jdk_52_method_4_code (3 : Nat) (Option.none : Option Jvm.ClassFile.FieldType)) ∈ tables_1 := List.mem_of_getElem? (i := 258) (by decide +kernel)
theorem pd__ABII_V : parseMethodDescriptor "([BII)V" = some ⟨[(.array .byte), .int, .int], none⟩ := by decide +kernel
theorem d43_20 : decode c43_ 20 = .ok (.invokestatic 111, 3) := by decide +kernel
theorem w_257 : (Cond.static mN5) ∈ tables_1 := List.mem_of_getElem? (i := 257) (by decide +kernel)
theorem d43_23 : decode c43_ 23 = .ok (.iinc 1 1, 3) := by decide +kernel
theorem d43_26 : decode c43_ 26 = .ok (.iinc 4 1, 3) := by decide +kernel
theorem d43_29 : decode c43_ 29 = .ok (.goto (-21), 3) := by decide +kernel
theorem d43_32 : decode c43_ 32 = .ok (.aload_n 3, 1) := by decide +kernel
theorem d43_33 : decode c43_ 33 = .ok (.areturn, 1) := by decide +kernel
theorem d43_0 : decode c43_ 0 = .ok (.iload_n 2, 1) := by decide +kernel
theorem w_249 : (Cond.methodLink "java/lang/StringUTF16" (107 : Nat) mN4) ∈ tables_1 := List.mem_of_getElem? (i := 249) (by decide +kernel)
theorem w_251 : (Cond.code mN4 jdk_52_method_2_code (1 : Nat) (Option.some (FieldType.array FieldType.byte))) ∈ tables_1 := List.mem_of_getElem? (i := 251) (by decide +kernel)
theorem pd__I_AB : parseMethodDescriptor "(I)[B" = some ⟨[.int], some (.array .byte)⟩ := by decide +kernel
theorem d43_1 : decode c43_ 1 = .ok (.invokestatic 107, 3) := by decide +kernel
theorem w_250 : (Cond.static mN4) ∈ tables_1 := List.mem_of_getElem? (i := 250) (by decide +kernel)
theorem d43_4 : decode c43_ 4 = .ok (.astore_n 3, 1) := by decide +kernel
theorem d43_5 : decode c43_ 5 = .ok (.iconst 0, 1) := by decide +kernel
theorem d43_6 : decode c43_ 6 = .ok (.istore 4, 2) := by decide +kernel
abbrev mN7 : MethodName := ⟨"java/lang/StringUTF16", "toBytes", "([CII)[B"⟩
theorem ef_toB (m : MethodId) (x0 : Addr) (x1 : Int32) (x2 : Int32) : entryFrame m #[(.ref x0), (.int x1), (.int x2)] 5 = mkF m 0 #[vR x0, vI x1, vI x2, .unset, .unset] [] := by first | (simp [entryFrame, mkF, argsToLocals, Value.category]; done) | rfl
def QtoB (Z : State) (b : Addr) (N : Nat) (kb : ClassId) (cs : List Int32) (h0 : Heap) (n0 : Nat) (v : Option Value) (h : Heap) (L : List Loc) : Prop := ∃ (r : Addr), ∃ (kr : ClassId), v = some (.ref r) ∧ Fr n0 L ∧ Keep h0 h [] ∧ h0.size ≤ r ∧ Arv Z h r kr .byte (own_i (2 * N)) ((own_e1 cs).map Value.int) (.int 0)
set_option maxRecDepth 65536 in
set_option maxHeartbeats 40000000 in
theorem rmtoB (l : Launch) (Z : State) (a0 : Array Value) (hw : ∀ d ∈ tables_1, d.before a0 Z = true) (ws : List Jvm.Cond) (b : Addr) (N : Nat) (kb : ClassId) (cs : List Int32) (h0 : Heap) (n0 : Nat) (O0 : Old Z n0 h0) (hp0 : Arv Z h0 b kb .char (own_i N) (cs.map Value.int) (.int 0)) (hN : (N ≤ 40)) (hlen : (cs.length = N)) (hp3 : Sta Z Z.heap "java/lang/StringUTF16" "$assertionsDisabled" "Z" (.int 1)) (hp4 : Sta Z Z.heap "java/lang/StringUTF16" "HI_BYTE_SHIFT" "I" (.int 0)) (hp5 : Sta Z Z.heap "java/lang/StringUTF16" "LO_BYTE_SHIFT" "I" (.int 8)) :
    MetFree l mN7 (head1 (Jvm.Cond.code mN7 jdk_52_method_14_code 5 (some (.array .byte)) :: ws) ({ frames := 2, cells := 1, slots := 160, locals := 24 } : Room)) (fun as_ U => as_ = #[(.ref b), (.int 0), (.int (own_i N))] ∧ Z.Warmed39 U.vm ∧ U.heap = h0) (fun _ _ _ _ _ => True) (fun _ U o U' => ∃ v L, o = .returned v ∧ QtoB Z b N kb cs h0 n0 v U'.heap L ∧ FrameEnd U o U' L ({ frames := 2, cells := 1, slots := 160, locals := 24 } : Room).cells ({ frames := 2, cells := 1, slots := 160, locals := 24 } : Room).slots) := by
  refine MetFree.of_bodySF (plainFor_of_name pn_java_lang_StringUTF16) hisR ?_
  intro p e s m args below meth c s₁ Bd hml0 hP hK
  obtain ⟨rfl, hZ, hh⟩ := hP
  have hx := Bd.exec
  have hby := Bd.bytes
  have hml : c.maxLocals = 5 := hml0
  have hown : s.vm.findClass "java/lang/StringUTF16" = some m.cls := findClass_of_methodNamed Bd.named
  have hnm := (name_of_methodNamed Bd.named Bd.method).1
  have X0 : Stand p l e ({ frames := 2, cells := 1, slots := 160, locals := 24 } : Room) s m #[(.ref b), (.int 0), (.int (own_i N))] below meth c s₁ [] 0 0 := Stand.of_body Bd
  have e0 : s₁.heap = h0 := by rw [← hh, Bd.state]; rfl
  have N0 := Fr.nil n0
  have Z0 := own_z0 O0
  have pre0 : ∀ tg_, Steps p.tables e below (s₁.setTop (mkF m 0 #[vR b, vI 0, vI (own_i N), .unset, .unset] [])) tg_ → Steps p.tables e below (s₁.setTop (entryFrame m #[(.ref b), (.int 0), (.int (own_i N))] 5)) tg_ := fun tg_ kt_ => castTop (ef_toB m b (0 : Int32) (own_i N)) kt_
  refine own_loop (fun k_ G_ => ∀ (T_ : State) (h_ : Heap) (L_ : List Loc) (i : Nat) (r : Addr) (kr : ClassId) (X_ : Stand p l e ({ frames := 2, cells := 1, slots := 160, locals := 24 } : Room) s m #[(.ref b), (.int 0), (.int (own_i N))] below meth c T_ L_ 1 160) (e_ : T_.heap = h_) (O_ : Old Z n0 h_) (K_ : Keep h0 h_ []) (N_ : Fr n0 L_) (hj0 : Arv Z h_ b kb .char (own_i N) (cs.map Value.int) (.int 0)) (hj1 : Arv Z h_ r kr .byte (own_i (2 * N)) ((own_e1 (cs.take i)).map Value.int) (.int 0)) (hj2 : h0.size ≤ r) (hbr : (b ≠ r)) (hi : (i ≤ N)) (pre_ : ∀ tg_, Steps p.tables e below (T_.setTop (mkF m 8 #[vR b, vI (own_i i), vI (own_i N), vR r, vI (own_i i)] [])) tg_ → Steps p.tables e below (s₁.setTop (entryFrame m #[(.ref b), (.int 0), (.int (own_i N))] 5)) tg_) (hm_ : N - i = k_), G_) ?_ ?_
  · intro k_ IH_lp T_ h_ L_ i r kr X_ e_ O_ K_ N_ hj0 hj1 hj2 hbr hi pre_ hm_
    have pre1 := fun tg_ (kt_ : Steps p.tables e below (T_.setTop (mkF m 11 #[vR b, vI (own_i i), vI (own_i N), vR r, vI (own_i i)] [(.int (own_i N)), (.int (own_i i))])) tg_) => pre_ tg_ (by
      refine XS.iload X_.here hx rfl (hb hby d43_8) rfl ?_
      refine XS.iloadN X_.here hx rfl (hb hby d43_10) rfl ?_
      exact kt_)
    by_cases hc2 : (own_i i) < (own_i N)
    · obtain ⟨cl3, Ar3, -, S3, Ng3, H3, G3⟩ := id hj0
      have hin3 : ¬ ((own_i i) < 0 ∨ cl3.slots.size ≤ ((own_i i)).toNatClampNeg) := inb_of S3 ⟨own_inn (by omega), hc2⟩
      have hat3 : cl3.slots[((own_i i)).toNatClampNeg]? = some (.int (cs.getD i 0)) := H3.at hin3 (own_gd cs (by omega))
      obtain ⟨_, _, ⟨T4, L4, k4, n4⟩, -, X4, ⟨Lc4, hQ4, l4, y4, z4⟩, st4⟩ := Jvm.LawKit.callS X_ hx (y := mN5) hown (mvT hZ (hw _ w_256)) (mvT hZ (hw _ w_257)) (mvT hZ (hw _ w_238)) (mvT hZ (hw _ w_258)) (by decide) (backOf (W := 0) (rmputC l Z a0 hw [] r (cs.getD i 0) i (2 * N) (cs.take i) kr h_ n0 O_ (Nat.le_trans Z0 hj2) hj1 (by rw [List.length_take]; have z := ((own_ilt (by omega) (by omega)).mp hc2); omega) (by have z := ((own_ilt (by omega) (by omega)).mp hc2); omega) (by omega) hp3 hp4 hp5) hZ (hw _ w_258) (hw _ w_238) (by decide) (by decide)) (g := (mkF m 20 #[vR b, vI (own_i i), vI (own_i N), vR r, vI (own_i i)] [(.int (cs.getD i 0)), (.int (own_i i)), (.ref r)])) rfl (by rw [hml]; rfl) (argsL := [(.ref r), (.int (own_i i)), (.int (cs.getD i 0))]) (rest := []) (lenOf pd__ABII_V rfl) rfl (by show 2 * 0 + _ ≤ _; exact Nat.le_of_eq rfl) (hb hby d43_20) (fun _ _ => ⟨rfl, e_, (by decide : 1 + 0 ≤ _), (by decide : 160 + 0 ≤ _)⟩)
      dsimp only [Pt.U, Pt.locs, Pt.cells, Pt.slots] at X4 l4 y4 z4 st4 hQ4
      subst l4 y4 z4
      obtain ⟨rfl, N4q, Kc4, r4_1⟩ := hQ4
      have N4 := Fr.app N_ N4q
      have O4 : Old Z n0 T4.heap := O_.keep Kc4 (allS (Nat.le_trans Z0 hj2) all0)
      have K4 : Keep h0 T4.heap [] := K_.trans Kc4 (allS (Or.inr hj2) all0)
      have pre5 := fun tg_ (kt_ : Steps p.tables e below (T4.setTop (mkF m 8 #[vR b, vI ((own_i i) + (1 : Int32)), vI (own_i N), vR r, vI ((own_i i) + (1 : Int32))] [])) tg_) => pre1 tg_ (by
        refine XS.icmpNo X_.here hx rfl (hb hby d43_11) rfl (tlt hc2).2.1 ?_
        refine XS.aloadN X_.here hx rfl (hb hby d43_14) rfl rfl ?_
        refine XS.iload X_.here hx rfl (hb hby d43_15) rfl ?_
        refine XS.aloadN X_.here hx rfl (hb hby d43_17) rfl rfl ?_
        refine XS.iloadN X_.here hx rfl (hb hby d43_18) rfl ?_
        refine X_.caload hx (j := (own_i i)) (v := (.int (cs.getD i 0))) (by rw [e_]; exact Ar3.1) (State.isArrayOf_alike hZ.alike Ar3.2.1) Ar3.2.2 hin3 hat3 (g := (mkF m 19 #[vR b, vI (own_i i), vI (own_i N), vR r, vI (own_i i)] [(.int (own_i i)), (.ref b), (.int (own_i i)), (.ref r)])) rfl rfl (hb hby d43_19) _ ?_
        refine st4 _ ?_
        refine XS.iinc X4.here hx rfl (hb hby d43_23) rfl (l' := #[vR b, vI ((own_i i) + (1 : Int32)), vI (own_i N), vR r, vI (own_i i)]) rfl ?_
        refine XS.iinc X4.here hx rfl (hb hby d43_26) rfl (l' := #[vR b, vI ((own_i i) + (1 : Int32)), vI (own_i N), vR r, vI ((own_i i) + (1 : Int32))]) rfl ?_
        refine XS.goto X4.here hx rfl (pc0 := 29) (pc' := 8) rfl (hb hby d43_29) (by decide) (by decide) ?_
        exact kt_)
      have pre6 := fun tg_ (kt_ : Steps p.tables e below (T4.setTop (mkF m 8 #[vR b, vI (own_i (i + 1)), vI (own_i N), vR r, vI (own_i (i + 1))] [])) tg_) => pre5 tg_ (by
        rw [show ((own_i i) + (1 : Int32)) = (own_i (i + 1)) from own_iadd i 1]
        exact kt_)
      have Vr7 : Arv Z T4.heap r kr .byte (own_i (2 * N)) ((own_e1 (cs.take (i + 1))).map Value.int) (.int 0) := by
        have q := r4_1
        rw [own_takeS (by have z := ((own_ilt (by omega) (by omega)).mp hc2); omega)] at q; exact q
      exact IH_lp _ (by have z := ((own_ilt (by omega) (by omega)).mp hc2); omega) T4 T4.heap _ (i + 1) r kr (Stand.more X4 (by decide) (by decide)) rfl O4 K4 N4 (hj0.keep Kc4 (ninS hbr nin0)) Vr7 hj2 hbr ((own_ilt (by omega) (by omega)).mp hc2) pre6 rfl
    · obtain ⟨fs, hr, hrun, hended, hW, hsame⟩ := X_.leave (v := some (.ref r)) (fun h => by rw [Bd.returns] at h; cases h)
      refine ⟨_, _, pre1 _ ?_, hrun, hended, _, _, rfl, ?_, ⟨_, rfl⟩, hW, hsame.mono (by decide) (by decide)⟩
      · refine XS.icmpYes X_.here hx rfl (pc0 := 11) (pc' := 32) rfl (hb hby d43_11) rfl (flt hc2).2.1 (by decide) (by decide) ?_
        refine XS.aloadN X_.here hx rfl (hb hby d43_32) rfl rfl ?_
        jvm_step X_.here [X_.here.top, hx, (hb hby d43_33), X_.method', Bd.returns, Value.isRef, FieldType.isReference]
        first | (intro acts; rw [hr _ acts rfl rfl rfl]) | rw [hr _ _ rfl rfl rfl]
        exact Steps.refl _
      · show QtoB Z b N kb cs h0 n0 _ T_.heap _
        rw [e_]
        exact ⟨r, kr, rfl, N_, K_, hj2, (by have q := hj1; rw [List.take_of_length_le (by have z : ¬ _ := (fun y => hc2 ((own_ilt (by omega) (by omega)).mpr y)); omega)] at q; exact q)⟩
  · intro lp
    obtain ⟨_, _, ⟨T8, L8, k8, n8⟩, -, X8, ⟨Lc8, hQ8, l8, y8, z8⟩, st8⟩ := Jvm.LawKit.callS X0 hx (y := mN4) hown (mvT hZ (hw _ w_249)) (mvT hZ (hw _ w_250)) (mvT hZ (hw _ w_238)) (mvT hZ (hw _ w_251)) (by decide) (backOf (W := 0) (rmnbf l Z a0 hw [] N h0 n0 O0 (by omega)) hZ (hw _ w_251) (hw _ w_238) (by decide) (by decide)) (g := (mkF m 1 #[vR b, vI 0, vI (own_i N), .unset, .unset] [(.int (own_i N))])) rfl (by rw [hml]; rfl) (argsL := [(.int (own_i N))]) (rest := []) (lenOf pd__I_AB rfl) rfl (by show 2 * 0 + _ ≤ _; exact Nat.le_of_eq rfl) (hb hby d43_1) (fun _ _ => ⟨rfl, e0, (by decide : 0 + 1 ≤ _), (by decide : 0 + 160 ≤ _)⟩)
    dsimp only [Pt.U, Pt.locs, Pt.cells, Pt.slots] at X8 l8 y8 z8 st8 hQ8
    subst l8 y8 z8
    obtain ⟨r_8, kr_8, rfl, N8q, Kc8, r8_1, r8_2⟩ := hQ8
    have N8 := Fr.app N0 N8q
    have sz9 : h0.size ≤ r_8 := Nat.le_trans (Keep.refl h0 []).1 r8_1
    have gn9 : n0 ≤ r_8 := Nat.le_trans Z0 sz9
    have O8 : Old Z n0 T8.heap := O0.keep Kc8 all0
    have K8 : Keep h0 T8.heap [] := (Keep.refl h0 []).trans Kc8 all0
    have Vr11 : Arv Z T8.heap r_8 kr_8 .byte (own_i (2 * N)) ((own_e1 (cs.take 0)).map Value.int) (.int 0) := by
      have q := r8_2
      exact q
    have pre12 := fun tg_ (kt_ : Steps p.tables e below (T8.setTop (mkF m 8 #[vR b, vI 0, vI (own_i N), vR r_8, vI 0] [])) tg_) => pre0 tg_ (by
      refine XS.iloadN X0.here hx rfl (hb hby d43_0) rfl ?_
      refine st8 _ ?_
      refine XS.astoreN X8.here hx rfl (hb hby d43_4) rfl rfl (l' := #[vR b, vI 0, vI (own_i N), vR r_8, .unset]) rfl ?_
      refine XS.iconst X8.here hx rfl (hb hby d43_5) ?_
      refine XS.istore X8.here hx rfl (hb hby d43_6) rfl (l' := #[vR b, vI 0, vI (own_i N), vR r_8, vI 0]) rfl ?_
      exact kt_)
    exact lp _ T8 T8.heap _ 0 r_8 kr_8 (Stand.more X8 (by decide) (by decide)) rfl O8 K8 N8 (hp0.keep Kc8 nin0) Vr11 sz9 (Nat.ne_of_lt (Nat.lt_of_lt_of_le hp0.lt r8_1)) (Nat.zero_le _) pre12 rfl
abbrev c41_ := jdk_52_method_21_code
theorem d41_3 : decode c41_ 3 = .ok (.iload 5, 2) := by decide +kernel
theorem d41_5 : decode c41_ 5 = .ok (.iload 4, 2) := by decide +kernel
theorem d41_7 : decode c41_ 7 = .ok (.if_icmp .ge 37, 3) := by decide +kernel
theorem d41_10 : decode c41_ 10 = .ok (.aload_n 0, 1) := by decide +kernel
theorem d41_11 : decode c41_ 11 = .ok (.iload_n 1, 1) := by decide +kernel
theorem d41_12 : decode c41_ 12 = .ok (.caload, 1) := by decide +kernel
theorem d41_13 : decode c41_ 13 = .ok (.istore 6, 2) := by decide +kernel
theorem d41_15 : decode c41_ 15 = .ok (.iload 6, 2) := by decide +kernel
theorem d41_17 : decode c41_ 17 = .ok (.sipush 255, 3) := by decide +kernel
theorem d41_20 : decode c41_ 20 = .ok (.if_icmp .le 6, 3) := by decide +kernel
theorem d41_23 : decode c41_ 23 = .ok (.iload 5, 2) := by decide +kernel
theorem d41_25 : decode c41_ 25 = .ok (.ireturn, 1) := by decide +kernel
theorem d41_26 : decode c41_ 26 = .ok (.aload_n 2, 1) := by decide +kernel
theorem d41_27 : decode c41_ 27 = .ok (.iload_n 3, 1) := by decide +kernel
theorem d41_28 : decode c41_ 28 = .ok (.iload 6, 2) := by decide +kernel
theorem d41_30 : decode c41_ 30 = .ok (.i2b, 1) := by decide +kernel
theorem d41_31 : decode c41_ 31 = .ok (.bastore, 1) := by decide +kernel
theorem d41_32 : decode c41_ 32 = .ok (.iinc 1 1, 3) := by decide +kernel
theorem d41_35 : decode c41_ 35 = .ok (.iinc 3 1, 3) := by decide +kernel
theorem d41_38 : decode c41_ 38 = .ok (.iinc 5 1, 3) := by decide +kernel
theorem d41_41 : decode c41_ 41 = .ok (.goto (-38), 3) := by decide +kernel
theorem d41_44 : decode c41_ 44 = .ok (.iload 4, 2) := by decide +kernel
theorem d41_46 : decode c41_ 46 = .ok (.ireturn, 1) := by decide +kernel
theorem d41_0 : decode c41_ 0 = .ok (.iconst 0, 1) := by decide +kernel
theorem d41_1 : decode c41_ 1 = .ok (.istore 5, 2) := by decide +kernel
abbrev mN8 : MethodName := ⟨"java/lang/StringUTF16", "compress", "([CI[BII)I"⟩
theorem ef_cmp5 (m : MethodId) (x0 : Addr) (x1 : Int32) (x2 : Addr) (x3 : Int32) (x4 : Int32) : entryFrame m #[(.ref x0), (.int x1), (.ref x2), (.int x3), (.int x4)] 7 = mkF m 0 #[vR x0, vI x1, vR x2, vI x3, vI x4, .unset, .unset] [] := by first | (simp [entryFrame, mkF, argsToLocals, Value.category]; done) | rfl
def Qcmp5 (Z : State) (b : Addr) (d : Addr) (N : Nat) (kb : ClassId) (cs : List Int32) (kd : ClassId) (h0 : Heap) (n0 : Nat) (v : Option Value) (h : Heap) (L : List Loc) : Prop := ∃ (n1 : Nat), v = some (.int (own_i n1)) ∧ Fr n0 L ∧ Keep h0 h [d] ∧ Arv Z h d kd .byte (own_i N) (((cs.take n1).map own_b).map Value.int) (.int 0) ∧ (n1 ≤ N ∧ (∀ j, j < n1 → ¬ (255 : Int32) < cs.getD j 0) ∧ (n1 < N → (255 : Int32) < cs.getD n1 0))
set_option maxRecDepth 65536 in
set_option maxHeartbeats 40000000 in
theorem rmcmp5 (l : Launch) (Z : State) (a0 : Array Value) (hw : ∀ d ∈ tables_1, d.before a0 Z = true) (ws : List Jvm.Cond) (b : Addr) (d : Addr) (N : Nat) (kb : ClassId) (cs : List Int32) (kd : ClassId) (h0 : Heap) (n0 : Nat) (O0 : Old Z n0 h0) (hp0 : Arv Z h0 b kb .char (own_i N) (cs.map Value.int) (.int 0)) (hp1 : n0 ≤ d) (hp2 : Arv Z h0 d kd .byte (own_i N) [] (.int 0)) (hbd : (b ≠ d)) (hN : (N ≤ 40)) (hlen : (cs.length = N)) :
    MetFree l mN8 (head1 (Jvm.Cond.code mN8 jdk_52_method_21_code 7 (some .int) :: ws) ({ frames := 0, cells := 0, slots := 0, locals := 0 } : Room)) (fun as_ U => as_ = #[(.ref b), (.int 0), (.ref d), (.int 0), (.int (own_i N))] ∧ Z.Warmed39 U.vm ∧ U.heap = h0) (fun _ _ _ _ _ => True) (fun _ U o U' => ∃ v L, o = .returned v ∧ Qcmp5 Z b d N kb cs kd h0 n0 v U'.heap L ∧ FrameEnd U o U' L ({ frames := 0, cells := 0, slots := 0, locals := 0 } : Room).cells ({ frames := 0, cells := 0, slots := 0, locals := 0 } : Room).slots) := by
  refine MetFree.of_bodySF (plainFor_of_name pn_java_lang_StringUTF16) hisR ?_
  intro p e s m args below meth c s₁ Bd hml0 hP hK
  obtain ⟨rfl, hZ, hh⟩ := hP
  have hx := Bd.exec
  have hby := Bd.bytes
  have hml : c.maxLocals = 7 := hml0
  have hown : s.vm.findClass "java/lang/StringUTF16" = some m.cls := findClass_of_methodNamed Bd.named
  have hnm := (name_of_methodNamed Bd.named Bd.method).1
  have X0 : Stand p l e ({ frames := 0, cells := 0, slots := 0, locals := 0 } : Room) s m #[(.ref b), (.int 0), (.ref d), (.int 0), (.int (own_i N))] below meth c s₁ [] 0 0 := Stand.of_body Bd
  have e0 : s₁.heap = h0 := by rw [← hh, Bd.state]; rfl
  have N0 := Fr.nil n0
  have Z0 := own_z0 O0
  have pre0 : ∀ tg_, Steps p.tables e below (s₁.setTop (mkF m 0 #[vR b, vI 0, vR d, vI 0, vI (own_i N), .unset, .unset] [])) tg_ → Steps p.tables e below (s₁.setTop (entryFrame m #[(.ref b), (.int 0), (.ref d), (.int 0), (.int (own_i N))] 7)) tg_ := fun tg_ kt_ => castTop (ef_cmp5 m b (0 : Int32) d (0 : Int32) (own_i N)) kt_
  refine own_loop (fun k_ G_ => ∀ (T_ : State) (h_ : Heap) (L_ : List Loc) (i : Nat) (y6 : Slot) (X_ : Stand p l e ({ frames := 0, cells := 0, slots := 0, locals := 0 } : Room) s m #[(.ref b), (.int 0), (.ref d), (.int 0), (.int (own_i N))] below meth c T_ L_ 0 0) (e_ : T_.heap = h_) (O_ : Old Z n0 h_) (K_ : Keep h0 h_ [d]) (N_ : Fr n0 L_) (hj0 : Arv Z h_ b kb .char (own_i N) (cs.map Value.int) (.int 0)) (hj1 : Arv Z h_ d kd .byte (own_i N) (((cs.take i).map own_b).map Value.int) (.int 0)) (hi : (i ≤ N)) (hl : (∀ j, j < i → ¬ (255 : Int32) < cs.getD j 0)) (hy6 : (y6 = .unset ∨ ∃ z : Int32, y6 = vI z)) (pre_ : ∀ tg_, Steps p.tables e below (T_.setTop (mkF m 3 #[vR b, vI (own_i i), vR d, vI (own_i i), vI (own_i N), vI (own_i i), y6] [])) tg_ → Steps p.tables e below (s₁.setTop (entryFrame m #[(.ref b), (.int 0), (.ref d), (.int 0), (.int (own_i N))] 7)) tg_) (hm_ : N - i = k_), G_) ?_ ?_
  · intro k_ IH_lp T_ h_ L_ i y6 X_ e_ O_ K_ N_ hj0 hj1 hi hl hy6 pre_ hm_
    have pre1 := fun tg_ (kt_ : Steps p.tables e below (T_.setTop (mkF m 7 #[vR b, vI (own_i i), vR d, vI (own_i i), vI (own_i N), vI (own_i i), y6] [(.int (own_i N)), (.int (own_i i))])) tg_) => pre_ tg_ (by
      refine XS.iload X_.here hx rfl (hb hby d41_3) rfl ?_
      refine XS.iload X_.here hx rfl (hb hby d41_5) rfl ?_
      exact kt_)
    by_cases hc2 : (own_i i) < (own_i N)
    · obtain ⟨cl3, Ar3, -, S3, Ng3, H3, G3⟩ := id hj0
      have hin3 : ¬ ((own_i i) < 0 ∨ cl3.slots.size ≤ ((own_i i)).toNatClampNeg) := inb_of S3 ⟨own_inn (by omega), hc2⟩
      have hat3 : cl3.slots[((own_i i)).toNatClampNeg]? = some (.int (cs.getD i 0)) := H3.at hin3 (own_gd cs (by omega))
      have pre4 := fun tg_ (kt_ : Steps p.tables e below (T_.setTop (mkF m 20 #[vR b, vI (own_i i), vR d, vI (own_i i), vI (own_i N), vI (own_i i), vI (cs.getD i 0)] [(.int 255), (.int (cs.getD i 0))])) tg_) => pre1 tg_ (by
        refine XS.icmpNo X_.here hx rfl (hb hby d41_7) rfl (tlt hc2).2.1 ?_
        refine XS.aloadN X_.here hx rfl (hb hby d41_10) rfl rfl ?_
        refine XS.iloadN X_.here hx rfl (hb hby d41_11) rfl ?_
        refine X_.caload hx (j := (own_i i)) (v := (.int (cs.getD i 0))) (by rw [e_]; exact Ar3.1) (State.isArrayOf_alike hZ.alike Ar3.2.1) Ar3.2.2 hin3 hat3 (g := (mkF m 12 #[vR b, vI (own_i i), vR d, vI (own_i i), vI (own_i N), vI (own_i i), y6] [(.int (own_i i)), (.ref b)])) rfl rfl (hb hby d41_12) _ ?_
        refine XS.istore X_.here hx rfl (hb hby d41_13) rfl (l' := #[vR b, vI (own_i i), vR d, vI (own_i i), vI (own_i N), vI (own_i i), vI (cs.getD i 0)]) (by rcases hy6 with rfl | ⟨_, rfl⟩ <;> rfl) ?_
        refine XS.iload X_.here hx rfl (hb hby d41_15) rfl ?_
        refine XS.sipush X_.here hx rfl (hb hby d41_17) ?_
        exact kt_)
      by_cases hc5 : (255 : Int32) < (cs.getD i 0)
      · obtain ⟨fs, hr, hrun, hended, hW, hsame⟩ := X_.leave (v := some (.int (own_i i))) (fun h => by rw [Bd.returns] at h; cases h)
        refine ⟨_, _, pre4 _ ?_, hrun, hended, _, _, rfl, ?_, ⟨_, rfl⟩, hW, hsame.mono (by decide) (by decide)⟩
        · refine XS.icmpNo X_.here hx rfl (hb hby d41_20) rfl (tlt hc5).2.2.2 ?_
          refine XS.iload X_.here hx rfl (hb hby d41_23) rfl ?_
          show Steps _ _ _ (T_.setTop (mkF m 25 #[vR b, vI (own_i i), vR d, vI (own_i i), vI (own_i N), vI (own_i i), vI (cs.getD i 0)] [(.int (own_i i))])) _
          exact retI X_ hx Bd.returns (hb hby d41_25) hr
        · show Qcmp5 Z b d N kb cs kd h0 n0 _ T_.heap _
          rw [e_]
          exact ⟨i, rfl, N_, K_, hj1, (⟨hi, hl, fun _ => hc5⟩)⟩
      · have Vp6 : Arv Z h_ d kd .byte (own_i N) ((((cs.take i).map own_b).map Value.int) ++ [(Value.int (0 : Int32))]) (.int 0) := (hj1).pad (pad_rep _ _ 1)
        obtain ⟨cl7, Ar7, q7, S7, Ng7, H7, G7⟩ := id Vp6
        have hin7 : ¬ ((own_i i) < 0 ∨ cl7.slots.size ≤ ((own_i i)).toNatClampNeg) := inb_of S7 ⟨own_inn (by omega), hc2⟩
        obtain ⟨T7, h7, X7, e7, W7, st7⟩ := stB X_ hx hZ e_ Ar7 (j := (own_i i)) hin7 (g := (mkF m 31 #[vR b, vI (own_i i), vR d, vI (own_i i), vI (own_i N), vI (own_i i), vI (cs.getD i 0)] [(.int ((cs.getD i 0).toInt8.toInt32)), (.int (own_i i)), (.ref d)])) rfl rfl (hb hby d41_31)
        have V7 : Arv Z h7 d kd .byte (own_i N) (((((cs.take i).map own_b).map Value.int) ++ [(Value.int (0 : Int32))]).set i (.int ((cs.getD i 0).toInt8.toInt32).toInt8.toInt32)) (.int 0) := Arv.set Ar7 q7 S7 Ng7 H7 G7 (fits_nar_byte _) W7 i (own_inat (by omega)) (by rw [List.length_append, List.length_map, List.length_map, List.length_take]; show _ < _ + 1; have z := ((own_ilt (by omega) (by omega)).mp hc2); omega)
        have N7 := Fr.snoc X7 N_ hp1
        have O7 : Old Z n0 h7 := O_.wr W7 hp1
        have K7 : Keep h0 h7 [d] := K_.wr W7 (Or.inl (List.mem_of_getElem? (i := 0) rfl))
        have pre8 := fun tg_ (kt_ : Steps p.tables e below (T7.setTop (mkF m 3 #[vR b, vI ((own_i i) + (1 : Int32)), vR d, vI ((own_i i) + (1 : Int32)), vI (own_i N), vI ((own_i i) + (1 : Int32)), vI (cs.getD i 0)] [])) tg_) => pre4 tg_ (by
          refine XS.icmpYes X_.here hx rfl (pc0 := 20) (pc' := 26) rfl (hb hby d41_20) rfl (flt hc5).2.2.2 (by decide) (by decide) ?_
          refine XS.aloadN X_.here hx rfl (hb hby d41_26) rfl rfl ?_
          refine XS.iloadN X_.here hx rfl (hb hby d41_27) rfl ?_
          refine XS.iload X_.here hx rfl (hb hby d41_28) rfl ?_
          refine XS.i2b X_.here hx rfl (hb hby d41_30) rfl ?_
          show Steps _ _ _ (T_.setTop (mkF m 31 #[vR b, vI (own_i i), vR d, vI (own_i i), vI (own_i N), vI (own_i i), vI (cs.getD i 0)] [(.int ((cs.getD i 0).toInt8.toInt32)), (.int (own_i i)), (.ref d)])) _
          refine st7 _ ?_
          refine XS.iinc X7.here hx rfl (hb hby d41_32) rfl (l' := #[vR b, vI ((own_i i) + (1 : Int32)), vR d, vI (own_i i), vI (own_i N), vI (own_i i), vI (cs.getD i 0)]) rfl ?_
          refine XS.iinc X7.here hx rfl (hb hby d41_35) rfl (l' := #[vR b, vI ((own_i i) + (1 : Int32)), vR d, vI ((own_i i) + (1 : Int32)), vI (own_i N), vI (own_i i), vI (cs.getD i 0)]) rfl ?_
          refine XS.iinc X7.here hx rfl (hb hby d41_38) rfl (l' := #[vR b, vI ((own_i i) + (1 : Int32)), vR d, vI ((own_i i) + (1 : Int32)), vI (own_i N), vI ((own_i i) + (1 : Int32)), vI (cs.getD i 0)]) rfl ?_
          refine XS.goto X7.here hx rfl (pc0 := 41) (pc' := 3) rfl (hb hby d41_41) (by decide) (by decide) ?_
          exact kt_)
        have pre9 := fun tg_ (kt_ : Steps p.tables e below (T7.setTop (mkF m 3 #[vR b, vI (own_i (i + 1)), vR d, vI (own_i (i + 1)), vI (own_i N), vI (own_i (i + 1)), vI (cs.getD i 0)] [])) tg_) => pre8 tg_ (by
          rw [show ((own_i i) + (1 : Int32)) = (own_i (i + 1)) from own_iadd i 1]
          exact kt_)
        have Vr10 : Arv Z h7 d kd .byte (own_i N) (((cs.take (i + 1)).map own_b).map Value.int) (.int 0) := by
          have q := V7
          rw [own_put1 (by rw [List.length_take]; have z := ((own_ilt (by omega) (by omega)).mp hc2); omega), own_takeS (by have z := ((own_ilt (by omega) (by omega)).mp hc2); omega)] at q; exact q
        exact IH_lp _ (by have z := ((own_ilt (by omega) (by omega)).mp hc2); omega) T7 h7 _ (i + 1) (vI (cs.getD i 0)) (Stand.more X7 (by decide) (by decide)) e7 O7 K7 N7 (hj0.other W7 hbd) Vr10 ((own_ilt (by omega) (by omega)).mp hc2) (fun j z => by rcases Nat.lt_succ_iff_lt_or_eq.mp z with y | rfl; exact hl j y; exact hc5) (Or.inr ⟨_, rfl⟩) pre9 rfl
    · obtain ⟨fs, hr, hrun, hended, hW, hsame⟩ := X_.leave (v := some (.int (own_i N))) (fun h => by rw [Bd.returns] at h; cases h)
      refine ⟨_, _, pre1 _ ?_, hrun, hended, _, _, rfl, ?_, ⟨_, rfl⟩, hW, hsame.mono (by decide) (by decide)⟩
      · refine XS.icmpYes X_.here hx rfl (pc0 := 7) (pc' := 44) rfl (hb hby d41_7) rfl (flt hc2).2.1 (by decide) (by decide) ?_
        refine XS.iload X_.here hx rfl (hb hby d41_44) rfl ?_
        exact retI X_ hx Bd.returns (hb hby d41_46) hr
      · show Qcmp5 Z b d N kb cs kd h0 n0 _ T_.heap _
        rw [e_]
        exact ⟨N, rfl, N_, K_, ((show i = N by have z : ¬ _ := (fun y => hc2 ((own_ilt (by omega) (by omega)).mpr y)); omega) ▸ hj1), (⟨Nat.le_refl _, (show i = N by have z : ¬ _ := (fun y => hc2 ((own_ilt (by omega) (by omega)).mpr y)); omega) ▸ hl, fun z => absurd z (Nat.lt_irrefl _)⟩)⟩
  · intro lp
    have Vr11 : Arv Z h0 d kd .byte (own_i N) (((cs.take 0).map own_b).map Value.int) (.int 0) := by
      have q := hp2
      exact q
    have pre12 := fun tg_ (kt_ : Steps p.tables e below (s₁.setTop (mkF m 3 #[vR b, vI 0, vR d, vI 0, vI (own_i N), vI 0, .unset] [])) tg_) => pre0 tg_ (by
      refine XS.iconst X0.here hx rfl (hb hby d41_0) ?_
      refine XS.istore X0.here hx rfl (hb hby d41_1) rfl (l' := #[vR b, vI 0, vR d, vI 0, vI (own_i N), vI 0, .unset]) rfl ?_
      exact kt_)
    exact lp _ s₁ h0 _ 0 (.unset) (Stand.more X0 (by decide) (by decide)) e0 O0 (Keep.refl h0 [d]) N0 hp0 Vr11 (Nat.zero_le _) (fun j z => absurd z (Nat.not_lt_zero _)) (Or.inl rfl) pre12 rfl
abbrev c40_ := jdk_52_method_16_code
theorem d40_0 : decode c40_ 0 = .ok (.iload_n 2, 1) := by decide +kernel
theorem d40_1 : decode c40_ 1 = .ok (.newarray .byte, 2) := by decide +kernel
theorem d40_3 : decode c40_ 3 = .ok (.astore_n 3, 1) := by decide +kernel
theorem d40_4 : decode c40_ 4 = .ok (.aload_n 0, 1) := by decide +kernel
theorem d40_5 : decode c40_ 5 = .ok (.iload_n 1, 1) := by decide +kernel
theorem d40_6 : decode c40_ 6 = .ok (.aload_n 3, 1) := by decide +kernel
theorem d40_7 : decode c40_ 7 = .ok (.iconst 0, 1) := by decide +kernel
theorem d40_8 : decode c40_ 8 = .ok (.iload_n 2, 1) := by decide +kernel
theorem w_240 : (Cond.methodLink "java/lang/StringUTF16" (115 : Nat) mN8) ∈ tables_1 := List.mem_of_getElem? (i := 240) (by decide +kernel)
theorem w_242 : (Cond.code mN8 jdk_52_method_21_code (7 : Nat) (Option.some FieldType.int)) ∈ tables_1 := List.mem_of_getElem? (i := 242) (by decide +kernel)
theorem pd__ACIABII_I : parseMethodDescriptor "([CI[BII)I" = some ⟨[(.array .char), .int, (.array .byte), .int, .int], some .int⟩ := by decide +kernel
theorem d40_9 : decode c40_ 9 = .ok (.invokestatic 115, 3) := by decide +kernel
theorem w_241 : (Cond.static mN8) ∈ tables_1 := List.mem_of_getElem? (i := 241) (by decide +kernel)
theorem d40_12 : decode c40_ 12 = .ok (.istore 4, 2) := by decide +kernel
theorem d40_14 : decode c40_ 14 = .ok (.iload 4, 2) := by decide +kernel
theorem d40_16 : decode c40_ 16 = .ok (.iload_n 2, 1) := by decide +kernel
theorem d40_17 : decode c40_ 17 = .ok (.if_icmp .eq 40, 3) := by decide +kernel
theorem d40_57 : decode c40_ 57 = .ok (.aload_n 3, 1) := by decide +kernel
theorem d40_58 : decode c40_ 58 = .ok (.areturn, 1) := by decide +kernel
theorem d40_20 : decode c40_ 20 = .ok (.aload_n 0, 1) := by decide +kernel
theorem d40_21 : decode c40_ 21 = .ok (.iload_n 1, 1) := by decide +kernel
theorem d40_22 : decode c40_ 22 = .ok (.iload_n 2, 1) := by decide +kernel
theorem w_246 : (Cond.methodLink "java/lang/StringUTF16" (119 : Nat) mN7) ∈ tables_1 := List.mem_of_getElem? (i := 246) (by decide +kernel)
theorem w_248 : (Cond.code mN7 jdk_52_method_14_code (5 : Nat) (Option.some (FieldType.array FieldType.byte))) ∈ tables_1 := List.mem_of_getElem? (i := 248) (by decide +kernel)
theorem pd__ACII_AB : parseMethodDescriptor "([CII)[B" = some ⟨[(.array .char), .int, .int], some (.array .byte)⟩ := by decide +kernel
theorem d40_23 : decode c40_ 23 = .ok (.invokestatic 119, 3) := by decide +kernel
theorem w_247 : (Cond.static mN7) ∈ tables_1 := List.mem_of_getElem? (i := 247) (by decide +kernel)
theorem d40_26 : decode c40_ 26 = .ok (.astore 5, 2) := by decide +kernel
theorem d40_28 : decode c40_ 28 = .ok (.aload 5, 2) := by decide +kernel
theorem d40_30 : decode c40_ 30 = .ok (.iload 4, 2) := by decide +kernel
theorem w_262 : (Cond.methodLink "java/lang/StringUTF16" (71 : Nat) mN6) ∈ tables_1 := List.mem_of_getElem? (i := 262) (by decide +kernel)
theorem w_264 : (Cond.code mN6 jdk_52_method_5_code (2 : Nat) (Option.some FieldType.char)) ∈ tables_1 := List.mem_of_getElem? (i := 264) (by decide +kernel)
theorem pd__ABI_C : parseMethodDescriptor "([BI)C" = some ⟨[(.array .byte), .int], some .char⟩ := by decide +kernel
theorem d40_32 : decode c40_ 32 = .ok (.invokestatic 71, 3) := by decide +kernel
theorem w_263 : (Cond.static mN6) ∈ tables_1 := List.mem_of_getElem? (i := 263) (by decide +kernel)
theorem d40_35 : decode c40_ 35 = .ok (.sipush 255, 3) := by decide +kernel
theorem d40_38 : decode c40_ 38 = .ok (.if_icmp .gt 16, 3) := by decide +kernel
theorem d40_54 : decode c40_ 54 = .ok (.aload 5, 2) := by decide +kernel
theorem d40_56 : decode c40_ 56 = .ok (.areturn, 1) := by decide +kernel
abbrev mN9 : MethodName := ⟨"java/lang/StringUTF16", "compress", "([CII)[B"⟩
theorem ef_cmp3 (m : MethodId) (x0 : Addr) (x1 : Int32) (x2 : Int32) : entryFrame m #[(.ref x0), (.int x1), (.int x2)] 6 = mkF m 0 #[vR x0, vI x1, vI x2, .unset, .unset, .unset] [] := by first | (simp [entryFrame, mkF, argsToLocals, Value.category]; done) | rfl
def Qcmp3 (Z : State) (b : Addr) (N : Nat) (kb : ClassId) (cs : List Int32) (h0 : Heap) (n0 : Nat) (v : Option Value) (h : Heap) (L : List Loc) : Prop := ∃ (r : Addr), ∃ (kr : ClassId), ∃ (k : Nat), v = some (.ref r) ∧ Fr n0 L ∧ Keep h0 h [] ∧ h0.size ≤ r ∧ Arv Z h r kr .byte (own_i (own_wd k cs.length)) ((own_enc k cs).map Value.int) (.int 0) ∧ (k = own_cd cs)
set_option maxRecDepth 65536 in
set_option maxHeartbeats 40000000 in
theorem rmcmp3 (l : Launch) (Z : State) (a0 : Array Value) (hw : ∀ d ∈ tables_1, d.before a0 Z = true) (ws : List Jvm.Cond) (b : Addr) (N : Nat) (kb : ClassId) (cs : List Int32) (h0 : Heap) (n0 : Nat) (O0 : Old Z n0 h0) (hp0 : Arv Z h0 b kb .char (own_i N) (cs.map Value.int) (.int 0)) (hN : (N ≤ 40)) (hlen : (cs.length = N)) (hch : (own_Ch cs)) (hp4 : Sta Z Z.heap "java/lang/StringUTF16" "$assertionsDisabled" "Z" (.int 1)) (hp5 : Sta Z Z.heap "java/lang/StringUTF16" "HI_BYTE_SHIFT" "I" (.int 0)) (hp6 : Sta Z Z.heap "java/lang/StringUTF16" "LO_BYTE_SHIFT" "I" (.int 8)) :
    MetFree l mN9 (head1 (Jvm.Cond.code mN9 jdk_52_method_16_code 6 (some (.array .byte)) :: ws) ({ frames := 3, cells := 2, slots := 200, locals := 40 } : Room)) (fun as_ U => as_ = #[(.ref b), (.int 0), (.int (own_i N))] ∧ Z.Warmed39 U.vm ∧ U.heap = h0) (fun _ _ _ _ _ => True) (fun _ U o U' => ∃ v L, o = .returned v ∧ Qcmp3 Z b N kb cs h0 n0 v U'.heap L ∧ FrameEnd U o U' L ({ frames := 3, cells := 2, slots := 200, locals := 40 } : Room).cells ({ frames := 3, cells := 2, slots := 200, locals := 40 } : Room).slots) := by
  refine MetFree.of_bodySF (plainFor_of_name pn_java_lang_StringUTF16) hisR ?_
  intro p e s m args below meth c s₁ Bd hml0 hP hK
  obtain ⟨rfl, hZ, hh⟩ := hP
  have hx := Bd.exec
  have hby := Bd.bytes
  have hml : c.maxLocals = 6 := hml0
  have hown : s.vm.findClass "java/lang/StringUTF16" = some m.cls := findClass_of_methodNamed Bd.named
  have hnm := (name_of_methodNamed Bd.named Bd.method).1
  have X0 : Stand p l e ({ frames := 3, cells := 2, slots := 200, locals := 40 } : Room) s m #[(.ref b), (.int 0), (.int (own_i N))] below meth c s₁ [] 0 0 := Stand.of_body Bd
  have e0 : s₁.heap = h0 := by rw [← hh, Bd.state]; rfl
  have N0 := Fr.nil n0
  have Z0 := own_z0 O0
  have pre0 : ∀ tg_, Steps p.tables e below (s₁.setTop (mkF m 0 #[vR b, vI 0, vI (own_i N), .unset, .unset, .unset] [])) tg_ → Steps p.tables e below (s₁.setTop (entryFrame m #[(.ref b), (.int 0), (.int (own_i N))] 6)) tg_ := fun tg_ kt_ => castTop (ef_cmp3 m b (0 : Int32) (own_i N)) kt_
  obtain ⟨T1, h1, k1, X1, e1, E1, A1, st1⟩ := newP X0 hx hZ (hw (Jvm.Cond.arrayClass (newarray.typeOf .byte)) w_15) e0 (g := (mkF m 1 #[vR b, vI 0, vI (own_i N), .unset, .unset, .unset] [(.int (own_i N))])) rfl (hb hby d40_1) rfl (own_inn (by omega)) (cap := 40) (by rw [own_inat (by omega)]; omega) (by decide) (by decide) (by decide)
  obtain ⟨b1, g1⟩ : ∃ z, z = h0.size := ⟨_, rfl⟩
  rw [← g1] at A1 st1
  have sz1 : h0.size ≤ b1 := Nat.le_trans (Keep.refl h0 []).1 (Nat.le_of_eq g1.symm)
  have gn1 : n0 ≤ b1 := Nat.le_trans Z0 sz1
  have O1 : Old Z n0 h1 := O0.ext E1
  have K1 : Keep h0 h1 [] := (Keep.refl h0 []).ext E1
  have V1 : Arv Z h1 b1 k1 .byte (own_i N) [] (.int 0) := Arv.new A1 (own_inn (by omega))
  obtain ⟨_, _, ⟨T3, L3, k3, n3⟩, -, X3, ⟨Lc3, hQ3, l3, y3, z3⟩, st3⟩ := Jvm.LawKit.callS X1 hx (y := mN8) hown (mvT hZ (hw _ w_240)) (mvT hZ (hw _ w_241)) (mvT hZ (hw _ w_238)) (mvT hZ (hw _ w_242)) (by decide) (backOf (W := 0) (rmcmp5 l Z a0 hw [] b b1 N kb cs k1 h1 n0 O1 (hp0.ext E1) gn1 V1 (Nat.ne_of_lt (Nat.lt_of_lt_of_le hp0.lt (Nat.le_of_eq g1.symm))) hN hlen) hZ (hw _ w_242) (hw _ w_238) (by decide) (by decide)) (g := (mkF m 9 #[vR b, vI 0, vI (own_i N), vR b1, .unset, .unset] [(.int (own_i N)), (.int 0), (.ref b1), (.int 0), (.ref b)])) rfl (by rw [hml]; rfl) (argsL := [(.ref b), (.int 0), (.ref b1), (.int 0), (.int (own_i N))]) (rest := []) (lenOf pd__ACIABII_I rfl) rfl (by show 2 * 0 + _ ≤ _; exact Nat.le_of_eq rfl) (hb hby d40_9) (fun _ _ => ⟨rfl, e1, (by decide : 1 + 0 ≤ _), (by decide : 40 + 0 ≤ _)⟩)
  dsimp only [Pt.U, Pt.locs, Pt.cells, Pt.slots] at X3 l3 y3 z3 st3 hQ3
  subst l3 y3 z3
  obtain ⟨n1_3, rfl, N3q, Kc3, r3_1, r3_2⟩ := hQ3
  have N3 := Fr.app N0 N3q
  have O3 : Old Z n0 T3.heap := O1.keep Kc3 (allS gn1 all0)
  have K3 : Keep h0 T3.heap [] := K1.trans Kc3 (allS (Or.inr sz1) all0)
  have pre4 := fun tg_ (kt_ : Steps p.tables e below (T3.setTop (mkF m 17 #[vR b, vI 0, vI (own_i N), vR b1, vI (own_i n1_3), .unset] [(.int (own_i N)), (.int (own_i n1_3))])) tg_) => pre0 tg_ (by
    refine XS.iloadN X0.here hx rfl (hb hby d40_0) rfl ?_
    refine st1 _ ?_
    refine XS.astoreN X1.here hx rfl (hb hby d40_3) rfl rfl (l' := #[vR b, vI 0, vI (own_i N), vR b1, .unset, .unset]) rfl ?_
    refine XS.aloadN X1.here hx rfl (hb hby d40_4) rfl rfl ?_
    refine XS.iloadN X1.here hx rfl (hb hby d40_5) rfl ?_
    refine XS.aloadN X1.here hx rfl (hb hby d40_6) rfl rfl ?_
    refine XS.iconst X1.here hx rfl (hb hby d40_7) ?_
    refine XS.iloadN X1.here hx rfl (hb hby d40_8) rfl ?_
    refine st3 _ ?_
    refine XS.istore X3.here hx rfl (hb hby d40_12) rfl (l' := #[vR b, vI 0, vI (own_i N), vR b1, vI (own_i n1_3), .unset]) rfl ?_
    refine XS.iload X3.here hx rfl (hb hby d40_14) rfl ?_
    refine XS.iloadN X3.here hx rfl (hb hby d40_16) rfl ?_
    exact kt_)
  by_cases hc5 : (own_i n1_3) = (own_i N)
  · obtain ⟨fs, hr, hrun, hended, hW, hsame⟩ := X3.leave (v := some (.ref b1)) (fun h => by rw [Bd.returns] at h; cases h)
    refine ⟨_, _, pre4 _ ?_, hrun, hended, _, _, rfl, ?_, ⟨_, rfl⟩, hW, hsame.mono (by decide) (by decide)⟩
    · refine XS.icmpYes X3.here hx rfl (pc0 := 17) (pc' := 57) rfl (hb hby d40_17) rfl (teq hc5).1 (by decide) (by decide) ?_
      refine XS.aloadN X3.here hx rfl (hb hby d40_57) rfl rfl ?_
      show Steps _ _ _ (T3.setTop (mkF m 58 #[vR b, vI 0, vI (own_i N), vR b1, vI (own_i n1_3), .unset] [(.ref b1)])) _
      jvm_step X3.here [X3.here.top, hx, (hb hby d40_58), X3.method', Bd.returns, Value.isRef, FieldType.isReference]
      first | (intro acts; rw [hr _ acts rfl rfl rfl]) | rw [hr _ _ rfl rfl rfl]
      exact Steps.refl _
    · show Qcmp3 Z b N kb cs h0 n0 _ T3.heap _
      exact ⟨b1, k1, 0, rfl, N3, K3, sz1, (by have q := r3_1; rw [show n1_3 = N from (own_ieq (by have z := r3_2.1; omega) (by omega)).mp hc5, List.take_of_length_le (by omega)] at q; rw [hlen]; exact q), ((own_cd0 (by rw [hlen, ← show n1_3 = N from (own_ieq (by have z := r3_2.1; omega) (by omega)).mp hc5]; exact r3_2.2.1)).symm)⟩
  · obtain ⟨_, _, ⟨T6, L6, k6, n6⟩, -, X6, ⟨Lc6, hQ6, l6, y6, z6⟩, st6⟩ := Jvm.LawKit.callS X3 hx (y := mN7) hown (mvT hZ (hw _ w_246)) (mvT hZ (hw _ w_247)) (mvT hZ (hw _ w_238)) (mvT hZ (hw _ w_248)) (by decide) (backOf (W := 0) (rmtoB l Z a0 hw [] b N kb cs T3.heap n0 O3 ((hp0.ext E1).keep Kc3 (ninS (Nat.ne_of_lt (Nat.lt_of_lt_of_le hp0.lt (Nat.le_of_eq g1.symm))) nin0)) hN hlen hp4 hp5 hp6) hZ (hw _ w_248) (hw _ w_238) (by decide) (by decide)) (g := (mkF m 23 #[vR b, vI 0, vI (own_i N), vR b1, vI (own_i n1_3), .unset] [(.int (own_i N)), (.int 0), (.ref b)])) rfl (by rw [hml]; rfl) (argsL := [(.ref b), (.int 0), (.int (own_i N))]) (rest := []) (lenOf pd__ACII_AB rfl) rfl (by show 2 * 0 + _ ≤ _; exact Nat.le_of_eq rfl) (hb hby d40_23) (fun _ _ => ⟨rfl, rfl, (by decide : 1 + 1 ≤ _), (by decide : 40 + 160 ≤ _)⟩)
    dsimp only [Pt.U, Pt.locs, Pt.cells, Pt.slots] at X6 l6 y6 z6 st6 hQ6
    subst l6 y6 z6
    obtain ⟨r_6, kr_6, rfl, N6q, Kc6, r6_1, r6_2⟩ := hQ6
    have N6 := Fr.app N3 N6q
    have sz7 : h0.size ≤ r_6 := Nat.le_trans K3.1 r6_1
    have gn7 : n0 ≤ r_6 := Nat.le_trans Z0 sz7
    have O6 : Old Z n0 T6.heap := O3.keep Kc6 all0
    have K6 : Keep h0 T6.heap [] := K3.trans Kc6 all0
    obtain ⟨_, _, ⟨T9, L9, k9, n9⟩, -, X9, ⟨Lc9, hQ9, l9, y9, z9⟩, st9⟩ := Jvm.LawKit.callS X6 hx (y := mN6) hown (mvT hZ (hw _ w_262)) (mvT hZ (hw _ w_263)) (mvT hZ (hw _ w_238)) (mvT hZ (hw _ w_264)) (by decide) (backOf (W := 0) (rmgetC l Z a0 hw [] r_6 n1_3 (2 * N) cs kr_6 T6.heap n0 O6 r6_2 (by rw [hlen]; exact (Nat.lt_of_le_of_ne r3_2.1 fun z => hc5 (z ▸ rfl))) (by omega) (by omega) hch hp4 hp5 hp6) hZ (hw _ w_264) (hw _ w_238) (by decide) (by decide)) (g := (mkF m 32 #[vR b, vI 0, vI (own_i N), vR b1, vI (own_i n1_3), vR r_6] [(.int (own_i n1_3)), (.ref r_6)])) rfl (by rw [hml]; rfl) (argsL := [(.ref r_6), (.int (own_i n1_3))]) (rest := []) (lenOf pd__ABI_C rfl) rfl (by show 2 * 0 + _ ≤ _; exact Nat.le_of_eq rfl) (hb hby d40_32) (fun _ _ => ⟨rfl, rfl, (by decide : 2 + 0 ≤ _), (by decide : 200 + 0 ≤ _)⟩)
    dsimp only [Pt.U, Pt.locs, Pt.cells, Pt.slots] at X9 l9 y9 z9 st9 hQ9
    subst l9 y9 z9
    obtain ⟨rfl, N9q, eh9⟩ := hQ9
    have N9 := Fr.app N6 N9q
    obtain ⟨fs, hr, hrun, hended, hW, hsame⟩ := X9.leave (v := some (.ref r_6)) (fun h => by rw [Bd.returns] at h; cases h)
    refine ⟨_, _, pre4 _ ?_, hrun, hended, _, _, rfl, ?_, ⟨_, rfl⟩, hW, hsame.mono (by decide) (by decide)⟩
    · refine XS.icmpNo X3.here hx rfl (hb hby d40_17) rfl (feq hc5).1 ?_
      refine XS.aloadN X3.here hx rfl (hb hby d40_20) rfl rfl ?_
      refine XS.iloadN X3.here hx rfl (hb hby d40_21) rfl ?_
      refine XS.iloadN X3.here hx rfl (hb hby d40_22) rfl ?_
      show Steps _ _ _ (T3.setTop (mkF m 23 #[vR b, vI 0, vI (own_i N), vR b1, vI (own_i n1_3), .unset] [(.int (own_i N)), (.int 0), (.ref b)])) _
      refine st6 _ ?_
      refine XS.astore X6.here hx rfl (hb hby d40_26) rfl rfl (l' := #[vR b, vI 0, vI (own_i N), vR b1, vI (own_i n1_3), vR r_6]) rfl ?_
      refine XS.aload X6.here hx rfl (hb hby d40_28) rfl rfl ?_
      refine XS.iload X6.here hx rfl (hb hby d40_30) rfl ?_
      refine st9 _ ?_
      refine XS.sipush X9.here hx rfl (hb hby d40_35) ?_
      refine XS.icmpYes X9.here hx rfl (pc0 := 38) (pc' := 54) rfl (hb hby d40_38) rfl (tlt (r3_2.2.2 (Nat.lt_of_le_of_ne r3_2.1 fun z => hc5 (z ▸ rfl)) : (255 : Int32) < (cs.getD n1_3 0))).2.2.1 (by decide) (by decide) ?_
      refine XS.aload X9.here hx rfl (hb hby d40_54) rfl rfl ?_
      jvm_step X9.here [X9.here.top, hx, (hb hby d40_56), X9.method', Bd.returns, Value.isRef, FieldType.isReference]
      first | (intro acts; rw [hr _ acts rfl rfl rfl]) | rw [hr _ _ rfl rfl rfl]
      exact Steps.refl _
    · show Qcmp3 Z b N kb cs h0 n0 _ T9.heap _
      rw [eh9]
      exact ⟨r_6, kr_6, 1, rfl, N9, K6, sz7, (by rw [hlen]; exact r6_2), ((own_cd1 (by rw [hlen]; exact (Nat.lt_of_le_of_ne r3_2.1 fun z => hc5 (z ▸ rfl))) (r3_2.2.2 (Nat.lt_of_le_of_ne r3_2.1 fun z => hc5 (z ▸ rfl)))).symm)⟩
abbrev c42_ := jdk_52_method_15_code
theorem d42_0 : decode c42_ 0 = .ok (.iload_n 1, 1) := by decide +kernel
theorem d42_1 : decode c42_ 1 = .ok (.aload_n 0, 1) := by decide +kernel
theorem d42_2 : decode c42_ 2 = .ok (.arraylength, 1) := by decide +kernel
theorem d42_3 : decode c42_ 3 = .ok (.isub, 1) := by decide +kernel
theorem d42_4 : decode c42_ 4 = .ok (.bipush 31, 2) := by decide +kernel
theorem d42_6 : decode c42_ 6 = .ok (.iushr, 1) := by decide +kernel
theorem d42_7 : decode c42_ 7 = .ok (.i2b, 1) := by decide +kernel
theorem d42_8 : decode c42_ 8 = .ok (.ireturn, 1) := by decide +kernel
abbrev mN10 : MethodName := ⟨"java/lang/StringUTF16", "coderFromArrayLen", "([BI)B"⟩
theorem ef_cfa0 (m : MethodId) (x0 : Addr) (x1 : Int32) : entryFrame m #[(.ref x0), (.int x1)] 2 = mkF m 0 #[vR x0, vI x1] [] := by first | (simp [entryFrame, mkF, argsToLocals, Value.category]; done) | rfl
def Qcfa0 (Z : State) (t : Addr) (N : Nat) (kt : ClassId) (vs : List Value) (h0 : Heap) (n0 : Nat) (v : Option Value) (h : Heap) (L : List Loc) : Prop := v = some (.int 0) ∧ Fr n0 L ∧ h = h0
set_option maxRecDepth 65536 in
set_option maxHeartbeats 40000000 in
theorem rmcfa0 (l : Launch) (Z : State) (a0 : Array Value) (hw : ∀ d ∈ tables_1, d.before a0 Z = true) (ws : List Jvm.Cond) (t : Addr) (N : Nat) (kt : ClassId) (vs : List Value) (h0 : Heap) (n0 : Nat) (O0 : Old Z n0 h0) (hp0 : Arv Z h0 t kt .byte (own_i N) vs (.int 0)) :
    MetFree l mN10 (head1 (Jvm.Cond.code mN10 jdk_52_method_15_code 2 (some .byte) :: ws) ({ frames := 0, cells := 0, slots := 0, locals := 0 } : Room)) (fun as_ U => as_ = #[(.ref t), (.int (own_i N))] ∧ Z.Warmed39 U.vm ∧ U.heap = h0) (fun _ _ _ _ _ => True) (fun _ U o U' => ∃ v L, o = .returned v ∧ Qcfa0 Z t N kt vs h0 n0 v U'.heap L ∧ FrameEnd U o U' L ({ frames := 0, cells := 0, slots := 0, locals := 0 } : Room).cells ({ frames := 0, cells := 0, slots := 0, locals := 0 } : Room).slots) := by
  refine MetFree.of_bodySF (plainFor_of_name pn_java_lang_StringUTF16) hisR ?_
  intro p e s m args below meth c s₁ Bd hml0 hP hK
  obtain ⟨rfl, hZ, hh⟩ := hP
  have hx := Bd.exec
  have hby := Bd.bytes
  have hml : c.maxLocals = 2 := hml0
  have hown : s.vm.findClass "java/lang/StringUTF16" = some m.cls := findClass_of_methodNamed Bd.named
  have hnm := (name_of_methodNamed Bd.named Bd.method).1
  have X0 : Stand p l e ({ frames := 0, cells := 0, slots := 0, locals := 0 } : Room) s m #[(.ref t), (.int (own_i N))] below meth c s₁ [] 0 0 := Stand.of_body Bd
  have e0 : s₁.heap = h0 := by rw [← hh, Bd.state]; rfl
  have N0 := Fr.nil n0
  have Z0 := own_z0 O0
  have pre0 : ∀ tg_, Steps p.tables e below (s₁.setTop (mkF m 0 #[vR t, vI (own_i N)] [])) tg_ → Steps p.tables e below (s₁.setTop (entryFrame m #[(.ref t), (.int (own_i N))] 2)) tg_ := fun tg_ kt_ => castTop (ef_cfa0 m t (own_i N)) kt_
  obtain ⟨cl1, Ar1, -, S1, Ng1, -, -⟩ := id hp0
  obtain ⟨fs, hr, hrun, hended, hW, hsame⟩ := X0.leave (v := some (.int (nar .byte (((((own_i N) - (own_i N)).toUInt32 >>> ((31 : Int32) &&& 31).toUInt32).toInt32).toInt8.toInt32)))) (fun h => by rw [Bd.returns] at h; cases h)
  refine ⟨_, _, pre0 _ ?_, hrun, hended, _, _, rfl, ?_, ⟨_, rfl⟩, hW, hsame.mono (by decide) (by decide)⟩
  · refine XS.iloadN X0.here hx rfl (hb hby d42_0) rfl ?_
    refine XS.aloadN X0.here hx rfl (hb hby d42_1) rfl rfl ?_
    refine X0.arraylength hx (by rw [e0]; exact Ar1.1) (State.isArrayOf_alike hZ.alike Ar1.2.1) (g := (mkF m 2 #[vR t, vI (own_i N)] [(.ref t), (.int (own_i N))])) rfl rfl (hb hby d42_2) _ ?_
    rw [len_of S1 Ng1]
    refine XS.isub X0.here hx rfl (hb hby d42_3) rfl ?_
    refine XS.bipush X0.here hx rfl (hb hby d42_4) ?_
    refine XS.iushr X0.here hx rfl (hb hby d42_6) rfl ?_
    refine XS.i2b X0.here hx rfl (hb hby d42_7) rfl ?_
    exact retN X0 hx (t := .byte) Bd.returns (by simp) (hb hby d42_8) hr
  · show Qcfa0 Z t N kt vs h0 n0 _ s₁.heap _
    rw [e0]
    exact ⟨(own_ret (congrArg Value.int (by rw [own_cfa0]; rfl))), N0, rfl⟩
theorem ef_cfa1 (m : MethodId) (x0 : Addr) (x1 : Int32) : entryFrame m #[(.ref x0), (.int x1)] 2 = mkF m 0 #[vR x0, vI x1] [] := by first | (simp [entryFrame, mkF, argsToLocals, Value.category]; done) | rfl
def Qcfa1 (Z : State) (t : Addr) (N : Nat) (kt : ClassId) (vs : List Value) (h0 : Heap) (n0 : Nat) (v : Option Value) (h : Heap) (L : List Loc) : Prop := v = some (.int 1) ∧ Fr n0 L ∧ h = h0
set_option maxRecDepth 65536 in
set_option maxHeartbeats 40000000 in
theorem rmcfa1 (l : Launch) (Z : State) (a0 : Array Value) (hw : ∀ d ∈ tables_1, d.before a0 Z = true) (ws : List Jvm.Cond) (t : Addr) (N : Nat) (kt : ClassId) (vs : List Value) (h0 : Heap) (n0 : Nat) (O0 : Old Z n0 h0) (hp0 : Arv Z h0 t kt .byte (own_i (2 * N)) vs (.int 0)) (h1 : (0 < N)) (h2 : (N ≤ 64)) :
    MetFree l mN10 (head1 (Jvm.Cond.code mN10 jdk_52_method_15_code 2 (some .byte) :: ws) ({ frames := 0, cells := 0, slots := 0, locals := 0 } : Room)) (fun as_ U => as_ = #[(.ref t), (.int (own_i N))] ∧ Z.Warmed39 U.vm ∧ U.heap = h0) (fun _ _ _ _ _ => True) (fun _ U o U' => ∃ v L, o = .returned v ∧ Qcfa1 Z t N kt vs h0 n0 v U'.heap L ∧ FrameEnd U o U' L ({ frames := 0, cells := 0, slots := 0, locals := 0 } : Room).cells ({ frames := 0, cells := 0, slots := 0, locals := 0 } : Room).slots) := by
  refine MetFree.of_bodySF (plainFor_of_name pn_java_lang_StringUTF16) hisR ?_
  intro p e s m args below meth c s₁ Bd hml0 hP hK
  obtain ⟨rfl, hZ, hh⟩ := hP
  have hx := Bd.exec
  have hby := Bd.bytes
  have hml : c.maxLocals = 2 := hml0
  have hown : s.vm.findClass "java/lang/StringUTF16" = some m.cls := findClass_of_methodNamed Bd.named
  have hnm := (name_of_methodNamed Bd.named Bd.method).1
  have X0 : Stand p l e ({ frames := 0, cells := 0, slots := 0, locals := 0 } : Room) s m #[(.ref t), (.int (own_i N))] below meth c s₁ [] 0 0 := Stand.of_body Bd
  have e0 : s₁.heap = h0 := by rw [← hh, Bd.state]; rfl
  have N0 := Fr.nil n0
  have Z0 := own_z0 O0
  have pre0 : ∀ tg_, Steps p.tables e below (s₁.setTop (mkF m 0 #[vR t, vI (own_i N)] [])) tg_ → Steps p.tables e below (s₁.setTop (entryFrame m #[(.ref t), (.int (own_i N))] 2)) tg_ := fun tg_ kt_ => castTop (ef_cfa1 m t (own_i N)) kt_
  obtain ⟨cl1, Ar1, -, S1, Ng1, -, -⟩ := id hp0
  obtain ⟨fs, hr, hrun, hended, hW, hsame⟩ := X0.leave (v := some (.int (nar .byte (((((own_i N) - (own_i (2 * N))).toUInt32 >>> ((31 : Int32) &&& 31).toUInt32).toInt32).toInt8.toInt32)))) (fun h => by rw [Bd.returns] at h; cases h)
  refine ⟨_, _, pre0 _ ?_, hrun, hended, _, _, rfl, ?_, ⟨_, rfl⟩, hW, hsame.mono (by decide) (by decide)⟩
  · refine XS.iloadN X0.here hx rfl (hb hby d42_0) rfl ?_
    refine XS.aloadN X0.here hx rfl (hb hby d42_1) rfl rfl ?_
    refine X0.arraylength hx (by rw [e0]; exact Ar1.1) (State.isArrayOf_alike hZ.alike Ar1.2.1) (g := (mkF m 2 #[vR t, vI (own_i N)] [(.ref t), (.int (own_i N))])) rfl rfl (hb hby d42_2) _ ?_
    rw [len_of S1 Ng1]
    refine XS.isub X0.here hx rfl (hb hby d42_3) rfl ?_
    refine XS.bipush X0.here hx rfl (hb hby d42_4) ?_
    refine XS.iushr X0.here hx rfl (hb hby d42_6) rfl ?_
    refine XS.i2b X0.here hx rfl (hb hby d42_7) rfl ?_
    exact retN X0 hx (t := .byte) Bd.returns (by simp) (hb hby d42_8) hr
  · show Qcfa1 Z t N kt vs h0 n0 _ s₁.heap _
    rw [e0]
    exact ⟨(own_ret (congrArg Value.int (by rw [own_cfa1 h1 h2]; rfl))), N0, rfl⟩
abbrev c2_ := jdk_42_method_149_code
theorem d2_0 : decode c2_ 0 = .ok (.aload_n 0, 1) := by decide +kernel
abbrev mN11 : MethodName := ⟨"java/lang/Object", "<init>", "()V"⟩
theorem w_11 : (Cond.methodLink "java/lang/String" (1 : Nat) mN11) ∈ tables_1 := List.mem_of_getElem? (i := 11) (by decide +kernel)
theorem w_12 : (Cond.instanceMethod mN11) ∈ tables_1 := List.mem_of_getElem? (i := 12) (by decide +kernel)
theorem w_13 : (Cond.code mN11 object_method_1_code (1 : Nat) (Option.none : Option Jvm.ClassFile.FieldType)) ∈ tables_1 := List.mem_of_getElem? (i := 13) (by decide +kernel)
theorem d2_1 : decode c2_ 1 = .ok (.invokespecial 1, 3) := by decide +kernel
theorem d2_4 : decode c2_ 4 = .ok (.iload_n 3, 1) := by decide +kernel
theorem d2_5 : decode c2_ 5 = .ok (.ifCond .ne 22, 3) := by decide +kernel
theorem d2_27 : decode c2_ 27 = .ok (.getstatic 38, 3) := by decide +kernel
theorem d2_30 : decode c2_ 30 = .ok (.ifCond .eq 28, 3) := by decide +kernel
theorem d2_33 : decode c2_ 33 = .ok (.aload_n 1, 1) := by decide +kernel
theorem d2_34 : decode c2_ 34 = .ok (.iload_n 2, 1) := by decide +kernel
theorem d2_35 : decode c2_ 35 = .ok (.iload_n 3, 1) := by decide +kernel
theorem w_236 : (Cond.methodLink "java/lang/String" (177 : Nat) mN9) ∈ tables_1 := List.mem_of_getElem? (i := 236) (by decide +kernel)
theorem w_239 : (Cond.code mN9 jdk_52_method_16_code (6 : Nat) (Option.some (FieldType.array FieldType.byte))) ∈ tables_1 := List.mem_of_getElem? (i := 239) (by decide +kernel)
theorem d2_36 : decode c2_ 36 = .ok (.invokestatic 177, 3) := by decide +kernel
theorem w_237 : (Cond.static mN9) ∈ tables_1 := List.mem_of_getElem? (i := 237) (by decide +kernel)
theorem d2_39 : decode c2_ 39 = .ok (.astore 5, 2) := by decide +kernel
theorem d2_41 : decode c2_ 41 = .ok (.aload_n 0, 1) := by decide +kernel
theorem d2_42 : decode c2_ 42 = .ok (.aload 5, 2) := by decide +kernel
theorem d2_44 : decode c2_ 44 = .ok (.iload_n 3, 1) := by decide +kernel
theorem w_243 : (Cond.methodLink "java/lang/String" (47 : Nat) mN10) ∈ tables_1 := List.mem_of_getElem? (i := 243) (by decide +kernel)
theorem w_245 : (Cond.code mN10 jdk_52_method_15_code (2 : Nat) (Option.some FieldType.byte)) ∈ tables_1 := List.mem_of_getElem? (i := 245) (by decide +kernel)
theorem pd__ABI_B : parseMethodDescriptor "([BI)B" = some ⟨[(.array .byte), .int], some .byte⟩ := by decide +kernel
theorem d2_45 : decode c2_ 45 = .ok (.invokestatic 47, 3) := by decide +kernel
theorem w_244 : (Cond.static mN10) ∈ tables_1 := List.mem_of_getElem? (i := 244) (by decide +kernel)
theorem w_17 : (Cond.laysFinal "java/lang/String" "java/lang/String" "coder" "B") ∈ tables_1 := List.mem_of_getElem? (i := 17) (by decide +kernel)
theorem w_1 : (Cond.instantiable "java/lang/String" (4 : Nat)) ∈ tables_1 := List.mem_of_getElem? (i := 1) (by decide +kernel)
theorem d2_48 : decode c2_ 48 = .ok (.putfield 15, 3) := by decide +kernel
theorem d2_51 : decode c2_ 51 = .ok (.aload_n 0, 1) := by decide +kernel
theorem d2_52 : decode c2_ 52 = .ok (.aload 5, 2) := by decide +kernel
theorem w_16 : (Cond.laysFinal "java/lang/String" "java/lang/String" "value" "[B") ∈ tables_1 := List.mem_of_getElem? (i := 16) (by decide +kernel)
theorem d2_54 : decode c2_ 54 = .ok (.putfield 9, 3) := by decide +kernel
theorem d2_57 : decode c2_ 57 = .ok (.return_, 1) := by decide +kernel
abbrev mN12 : MethodName := ⟨"java/lang/String", "<init>", "([CIILjava/lang/Void;)V"⟩
theorem ef_strC4 (m : MethodId) (x0 : Addr) (x1 : Addr) (x2 : Int32) (x3 : Int32) : entryFrame m #[(.ref x0), (.ref x1), (.int x2), (.int x3), .null] 6 = mkF m 0 #[vR x0, vR x1, vI x2, vI x3, .val .null, .unset] [] := by first | (simp [entryFrame, mkF, argsToLocals, Value.category]; done) | rfl
def QstrC4 (Z : State) (a : Addr) (b : Addr) (u1 : Value) (u2 : Value) (N : Nat) (kb : ClassId) (cs : List Int32) (cz : Int32) (h0 : Heap) (n0 : Nat) (v : Option Value) (h : Heap) (L : List Loc) : Prop := ∃ (t : Addr), ∃ (kt : ClassId), v = none ∧ Fr n0 L ∧ Keep h0 h [a] ∧ h0.size ≤ t ∧ Exa Z h a "java/lang/String" ∧ Fld Z h a "java/lang/String" "value" "[B" (.ref t) ∧ Fld Z h a "java/lang/String" "coder" "B" (.int (own_i (own_cd cs))) ∧ Arv Z h t kt .byte (own_i (own_wd (own_cd cs) cs.length)) ((own_enc (own_cd cs) cs).map Value.int) (.int 0)
set_option maxRecDepth 65536 in
set_option maxHeartbeats 40000000 in
theorem rmstrC4 (l : Launch) (Z : State) (a0 : Array Value) (hw : ∀ d ∈ tables_1, d.before a0 Z = true) (ws : List Jvm.Cond) (a : Addr) (b : Addr) (u1 : Value) (u2 : Value) (N : Nat) (kb : ClassId) (cs : List Int32) (cz : Int32) (h0 : Heap) (n0 : Nat) (O0 : Old Z n0 h0) (hp0 : Exa Z h0 a "java/lang/String") (hp1 : n0 ≤ a) (hp2 : Fld Z h0 a "java/lang/String" "value" "[B" u1) (hp3 : Fld Z h0 a "java/lang/String" "coder" "B" u2) (hp4 : Arv Z h0 b kb .char (own_i N) (cs.map Value.int) (.int 0)) (hN0 : (0 < N)) (hN : (N ≤ 40)) (hlen : (cs.length = N)) (hch : (own_Ch cs)) (hp9 : Sta Z Z.heap "java/lang/StringUTF16" "$assertionsDisabled" "Z" (.int 1)) (hp10 : Sta Z Z.heap "java/lang/StringUTF16" "HI_BYTE_SHIFT" "I" (.int 0)) (hp11 : Sta Z Z.heap "java/lang/StringUTF16" "LO_BYTE_SHIFT" "I" (.int 8)) (hp12 : Sta Z Z.heap "java/lang/String" "COMPACT_STRINGS" "Z" (.int cz)) (hcz : (¬ (cz = (0 : Int32)))) :
    MetFree l mN12 (head1 (Jvm.Cond.code mN12 jdk_42_method_149_code 6 none :: ws) ({ frames := 4, cells := 2, slots := 200, locals := 57 } : Room)) (fun as_ U => as_ = #[(.ref a), (.ref b), (.int 0), (.int (own_i N)), .null] ∧ Z.Warmed39 U.vm ∧ U.heap = h0) (fun _ _ _ _ _ => True) (fun _ U o U' => ∃ v L, o = .returned v ∧ QstrC4 Z a b u1 u2 N kb cs cz h0 n0 v U'.heap L ∧ FrameEnd U o U' L ({ frames := 4, cells := 2, slots := 200, locals := 57 } : Room).cells ({ frames := 4, cells := 2, slots := 200, locals := 57 } : Room).slots) := by
  refine MetFree.of_bodySF (plainFor_of_name pn_java_lang_String) hisR ?_
  intro p e s m args below meth c s₁ Bd hml0 hP hK
  obtain ⟨rfl, hZ, hh⟩ := hP
  have hx := Bd.exec
  have hby := Bd.bytes
  have hml : c.maxLocals = 6 := hml0
  have hown : s.vm.findClass "java/lang/String" = some m.cls := findClass_of_methodNamed Bd.named
  have hnm := (name_of_methodNamed Bd.named Bd.method).1
  have X0 : Stand p l e ({ frames := 4, cells := 2, slots := 200, locals := 57 } : Room) s m #[(.ref a), (.ref b), (.int 0), (.int (own_i N)), .null] below meth c s₁ [] 0 0 := Stand.of_body Bd
  have e0 : s₁.heap = h0 := by rw [← hh, Bd.state]; rfl
  have N0 := Fr.nil n0
  have Z0 := own_z0 O0
  have pre0 : ∀ tg_, Steps p.tables e below (s₁.setTop (mkF m 0 #[vR a, vR b, vI 0, vI (own_i N), .val .null, .unset] [])) tg_ → Steps p.tables e below (s₁.setTop (entryFrame m #[(.ref a), (.ref b), (.int 0), (.int (own_i N)), .null] 6)) tg_ := fun tg_ kt_ => castTop (ef_strC4 m a b (0 : Int32) (own_i N)) kt_
  obtain ⟨T1, X1, e1, st1⟩ := initO X0 hx hZ hown (hw _ w_11) (hw _ w_12) (hw _ w_13) e0 (g := (mkF m 1 #[vR a, vR b, vI 0, vI (own_i N), .val .null, .unset] [(.ref a)])) rfl (by rw [hml]; rfl) rfl (hb hby d2_1) (by decide) (W := 0) (by show 2 * 0 + _ ≤ _; exact Nat.le_of_eq rfl) (by decide)
  obtain ⟨T2, X2, e2, st2⟩ := getS2 X1 hx hZ hown (host := "") (Or.inl (hw _ w_67)) Via.refl e1 (hp12.ext O0.2) (g := (mkF m 27 #[vR a, vR b, vI 0, vI (own_i N), .val .null, .unset] [])) rfl (hb hby d2_27)
  obtain ⟨_, _, ⟨T3, L3, k3, n3⟩, -, X3, ⟨Lc3, hQ3, l3, y3, z3⟩, st3⟩ := Jvm.LawKit.callS X2 hx (y := mN9) hown (mvT hZ (hw _ w_236)) (mvT hZ (hw _ w_237)) (mvT hZ (hw _ w_238)) (mvT hZ (hw _ w_239)) (by decide) (backOf (W := 0) (rmcmp3 l Z a0 hw [] b N kb cs h0 n0 O0 hp4 hN hlen hch hp9 hp10 hp11) hZ (hw _ w_239) (hw _ w_238) (by decide) (by decide)) (g := (mkF m 36 #[vR a, vR b, vI 0, vI (own_i N), .val .null, .unset] [(.int (own_i N)), (.int 0), (.ref b)])) rfl (by rw [hml]; rfl) (argsL := [(.ref b), (.int 0), (.int (own_i N))]) (rest := []) (lenOf pd__ACII_AB rfl) rfl (by show 2 * 0 + _ ≤ _; exact Nat.le_of_eq rfl) (hb hby d2_36) (fun _ _ => ⟨rfl, e2, (by decide : 0 + 2 ≤ _), (by decide : 0 + 200 ≤ _)⟩)
  dsimp only [Pt.U, Pt.locs, Pt.cells, Pt.slots] at X3 l3 y3 z3 st3 hQ3
  subst l3 y3 z3
  obtain ⟨r_3, kr_3, k_3, rfl, N3q, Kc3, r3_1, r3_2, r3_3⟩ := hQ3
  have N3 := Fr.app N0 N3q
  have sz4 : h0.size ≤ r_3 := Nat.le_trans (Keep.refl h0 [a]).1 r3_1
  have gn4 : n0 ≤ r_3 := Nat.le_trans Z0 sz4
  have O3 : Old Z n0 T3.heap := O0.keep Kc3 all0
  have K3 : Keep h0 T3.heap [a] := (Keep.refl h0 [a]).trans Kc3 all0
  have pre6 := fun tg_ (kt_ : Steps p.tables e below (T3.setTop (mkF m 39 #[vR a, vR b, vI 0, vI (own_i N), .val .null, .unset] [(.ref r_3)])) tg_) => pre0 tg_ (by
    refine XS.aloadN X0.here hx rfl (hb hby d2_0) rfl rfl ?_
    refine st1 _ ?_
    refine XS.iloadN X1.here hx rfl (hb hby d2_4) rfl ?_
    refine XS.ifYes X1.here hx rfl (pc0 := 5) (pc' := 27) rfl (hb hby d2_5) rfl ((if0 _ _).trans (feq (fun z => absurd ((own_i0 (by omega)).mp z) (by omega) : ¬ ((own_i N) = (0 : Int32)))).2) (by decide) (by decide) ?_
    refine st2 _ ?_
    refine XS.ifNo X2.here hx rfl (hb hby d2_30) rfl ((if0 _ _).trans (feq hcz).1) ?_
    refine XS.aloadN X2.here hx rfl (hb hby d2_33) rfl rfl ?_
    refine XS.iloadN X2.here hx rfl (hb hby d2_34) rfl ?_
    refine XS.iloadN X2.here hx rfl (hb hby d2_35) rfl ?_
    refine st3 _ ?_
    exact kt_)
  rcases own_cd01 cs with ec7 | ec7
  · obtain rfl : k_3 = 0 := r3_3.trans ec7
    have Vr8 : Arv Z T3.heap r_3 kr_3 .byte (own_i N) ((cs.map own_b).map Value.int) (.int 0) := by
      have q := r3_2
      rw [hlen] at q; exact q
    obtain ⟨_, _, ⟨T9, L9, k9, n9⟩, -, X9, ⟨Lc9, hQ9, l9, y9, z9⟩, st9⟩ := Jvm.LawKit.callS X3 hx (y := mN10) hown (mvT hZ (hw _ w_243)) (mvT hZ (hw _ w_244)) (mvT hZ (hw _ w_238)) (mvT hZ (hw _ w_245)) (by decide) (backOf (W := 1) (rmcfa0 l Z a0 hw [] r_3 N kr_3 ((cs.map own_b).map Value.int) T3.heap n0 O3 Vr8) hZ (hw _ w_245) (hw _ w_238) (by decide) (by decide)) (g := (mkF m 45 #[vR a, vR b, vI 0, vI (own_i N), .val .null, vR r_3] [(.int (own_i N)), (.ref r_3), (.ref a)])) rfl (by rw [hml]; rfl) (argsL := [(.ref r_3), (.int (own_i N))]) (rest := [(.ref a)]) (lenOf pd__ABI_B rfl) rfl (by show 2 * 0 + _ ≤ _; exact Nat.le_of_eq rfl) (hb hby d2_45) (fun _ _ => ⟨rfl, rfl, (by decide : 2 + 0 ≤ _), (by decide : 200 + 0 ≤ _)⟩)
    dsimp only [Pt.U, Pt.locs, Pt.cells, Pt.slots] at X9 l9 y9 z9 st9 hQ9
    subst l9 y9 z9
    obtain ⟨rfl, N9q, eh9⟩ := hQ9
    have N9 := Fr.app N3 N9q
    obtain ⟨T10, h10, X10, e10, W10, st10⟩ := putFN X9 hx hZ hown (hw _ w_21) Via.refl eh9 (hp3.keep Kc3 nin0) (hp0.keep Kc3) (Or.inr ⟨(hw _ w_17), rfl, hnm⟩) (hw _ w_1) (ty := .byte) (v' := (.int 0)) (by decide) rfl rfl (g := (mkF m 48 #[vR a, vR b, vI 0, vI (own_i N), .val .null, vR r_3] [(.int 0), (.ref a)])) rfl rfl (hb hby d2_48)
    have Fw10 := (hp3.keep Kc3 nin0).same W10
    have N10 := Fr.snoc X10 N9 hp1
    have O10 : Old Z n0 h10 := O3.wr W10 hp1
    have K10 : Keep h0 h10 [a] := K3.wr W10 (Or.inl (List.mem_of_getElem? (i := 0) rfl))
    obtain ⟨T11, h11, X11, e11, W11, st11⟩ := putF X10 hx hZ hown (host := "") (Or.inl (hw _ w_20)) Via.refl e10 ((hp2.keep Kc3 nin0).other W10 (Or.inr (slot_ne (Or.inr (hw _ w_16)) (Or.inr (hw _ w_17)) (by decide) (t := (.array .byte)) (t' := .byte) (by decide) (by decide)))) ((hp0.keep Kc3).wr W10) (Or.inr ⟨(hw _ w_16), rfl, hnm⟩) (hw _ w_1) (ty := (.array .byte)) (by decide) rfl rfl (g := (mkF m 54 #[vR a, vR b, vI 0, vI (own_i N), .val .null, vR r_3] [(.ref r_3), (.ref a)])) rfl rfl (hb hby d2_54)
    have Fw11 := ((hp2.keep Kc3 nin0).other W10 (Or.inr (slot_ne (Or.inr (hw _ w_16)) (Or.inr (hw _ w_17)) (by decide) (t := (.array .byte)) (t' := .byte) (by decide) (by decide)))).same W11
    have N11 := Fr.snoc X11 N10 hp1
    have O11 : Old Z n0 h11 := O10.wr W11 hp1
    have K11 : Keep h0 h11 [a] := K10.wr W11 (Or.inl (List.mem_of_getElem? (i := 0) rfl))
    obtain ⟨fs, hr, hrun, hended, hW, hsame⟩ := X11.leave (v := none) (fun _ => rfl)
    refine ⟨_, _, pre6 _ ?_, hrun, hended, _, _, rfl, ?_, ⟨_, rfl⟩, hW, hsame.mono (by decide) (by decide)⟩
    · refine XS.astore X3.here hx rfl (hb hby d2_39) rfl rfl (l' := #[vR a, vR b, vI 0, vI (own_i N), .val .null, vR r_3]) rfl ?_
      refine XS.aloadN X3.here hx rfl (hb hby d2_41) rfl rfl ?_
      refine XS.aload X3.here hx rfl (hb hby d2_42) rfl rfl ?_
      refine XS.iloadN X3.here hx rfl (hb hby d2_44) rfl ?_
      show Steps _ _ _ (T3.setTop (mkF m 45 #[vR a, vR b, vI 0, vI (own_i N), .val .null, vR r_3] [(.int (own_i N)), (.ref r_3), (.ref a)])) _
      refine st9 _ ?_
      refine st10 _ ?_
      refine XS.aloadN X10.here hx rfl (hb hby d2_51) rfl rfl ?_
      refine XS.aload X10.here hx rfl (hb hby d2_52) rfl rfl ?_
      refine st11 _ ?_
      exact X11.returnOut hx Bd.returns (hb hby d2_57) hr
    · show QstrC4 Z a b u1 u2 N kb cs cz h0 n0 _ T11.heap _
      rw [e11]
      exact ⟨r_3, kr_3, rfl, N11, K11, sz4, (((hp0.keep Kc3).wr W10).wr W11), Fw11, (by rw [ec7]; exact (Fw10.other W11 (Or.inr (slot_ne (Or.inr (hw _ w_17)) (Or.inr (hw _ w_16)) (by decide) (t := .byte) (t' := (.array .byte)) (by decide) (by decide))))), (by rw [ec7, hlen]; exact ((Vr8.other W10 (Ne.symm (Nat.ne_of_lt (Nat.lt_of_lt_of_le hp0.lt r3_1)))).other W11 (Ne.symm (Nat.ne_of_lt (Nat.lt_of_lt_of_le hp0.lt r3_1)))))⟩
  · obtain rfl : k_3 = 1 := r3_3.trans ec7
    have Vr12 : Arv Z T3.heap r_3 kr_3 .byte (own_i (2 * N)) ((own_e1 cs).map Value.int) (.int 0) := by
      have q := r3_2
      rw [hlen] at q; exact q
    obtain ⟨_, _, ⟨T13, L13, k13, n13⟩, -, X13, ⟨Lc13, hQ13, l13, y13, z13⟩, st13⟩ := Jvm.LawKit.callS X3 hx (y := mN10) hown (mvT hZ (hw _ w_243)) (mvT hZ (hw _ w_244)) (mvT hZ (hw _ w_238)) (mvT hZ (hw _ w_245)) (by decide) (backOf (W := 1) (rmcfa1 l Z a0 hw [] r_3 N kr_3 ((own_e1 cs).map Value.int) T3.heap n0 O3 Vr12 hN0 (by omega)) hZ (hw _ w_245) (hw _ w_238) (by decide) (by decide)) (g := (mkF m 45 #[vR a, vR b, vI 0, vI (own_i N), .val .null, vR r_3] [(.int (own_i N)), (.ref r_3), (.ref a)])) rfl (by rw [hml]; rfl) (argsL := [(.ref r_3), (.int (own_i N))]) (rest := [(.ref a)]) (lenOf pd__ABI_B rfl) rfl (by show 2 * 0 + _ ≤ _; exact Nat.le_of_eq rfl) (hb hby d2_45) (fun _ _ => ⟨rfl, rfl, (by decide : 2 + 0 ≤ _), (by decide : 200 + 0 ≤ _)⟩)
    dsimp only [Pt.U, Pt.locs, Pt.cells, Pt.slots] at X13 l13 y13 z13 st13 hQ13
    subst l13 y13 z13
    obtain ⟨rfl, N13q, eh13⟩ := hQ13
    have N13 := Fr.app N3 N13q
    obtain ⟨T14, h14, X14, e14, W14, st14⟩ := putFN X13 hx hZ hown (hw _ w_21) Via.refl eh13 (hp3.keep Kc3 nin0) (hp0.keep Kc3) (Or.inr ⟨(hw _ w_17), rfl, hnm⟩) (hw _ w_1) (ty := .byte) (v' := (.int 1)) (by decide) rfl rfl (g := (mkF m 48 #[vR a, vR b, vI 0, vI (own_i N), .val .null, vR r_3] [(.int 1), (.ref a)])) rfl rfl (hb hby d2_48)
    have Fw14 := (hp3.keep Kc3 nin0).same W14
    have N14 := Fr.snoc X14 N13 hp1
    have O14 : Old Z n0 h14 := O3.wr W14 hp1
    have K14 : Keep h0 h14 [a] := K3.wr W14 (Or.inl (List.mem_of_getElem? (i := 0) rfl))
    obtain ⟨T15, h15, X15, e15, W15, st15⟩ := putF X14 hx hZ hown (host := "") (Or.inl (hw _ w_20)) Via.refl e14 ((hp2.keep Kc3 nin0).other W14 (Or.inr (slot_ne (Or.inr (hw _ w_16)) (Or.inr (hw _ w_17)) (by decide) (t := (.array .byte)) (t' := .byte) (by decide) (by decide)))) ((hp0.keep Kc3).wr W14) (Or.inr ⟨(hw _ w_16), rfl, hnm⟩) (hw _ w_1) (ty := (.array .byte)) (by decide) rfl rfl (g := (mkF m 54 #[vR a, vR b, vI 0, vI (own_i N), .val .null, vR r_3] [(.ref r_3), (.ref a)])) rfl rfl (hb hby d2_54)
    have Fw15 := ((hp2.keep Kc3 nin0).other W14 (Or.inr (slot_ne (Or.inr (hw _ w_16)) (Or.inr (hw _ w_17)) (by decide) (t := (.array .byte)) (t' := .byte) (by decide) (by decide)))).same W15
    have N15 := Fr.snoc X15 N14 hp1
    have O15 : Old Z n0 h15 := O14.wr W15 hp1
    have K15 : Keep h0 h15 [a] := K14.wr W15 (Or.inl (List.mem_of_getElem? (i := 0) rfl))
    obtain ⟨fs, hr, hrun, hended, hW, hsame⟩ := X15.leave (v := none) (fun _ => rfl)
    refine ⟨_, _, pre6 _ ?_, hrun, hended, _, _, rfl, ?_, ⟨_, rfl⟩, hW, hsame.mono (by decide) (by decide)⟩
    · refine XS.astore X3.here hx rfl (hb hby d2_39) rfl rfl (l' := #[vR a, vR b, vI 0, vI (own_i N), .val .null, vR r_3]) rfl ?_
      refine XS.aloadN X3.here hx rfl (hb hby d2_41) rfl rfl ?_
      refine XS.aload X3.here hx rfl (hb hby d2_42) rfl rfl ?_
      refine XS.iloadN X3.here hx rfl (hb hby d2_44) rfl ?_
      show Steps _ _ _ (T3.setTop (mkF m 45 #[vR a, vR b, vI 0, vI (own_i N), .val .null, vR r_3] [(.int (own_i N)), (.ref r_3), (.ref a)])) _
      refine st13 _ ?_
      refine st14 _ ?_
      refine XS.aloadN X14.here hx rfl (hb hby d2_51) rfl rfl ?_
      refine XS.aload X14.here hx rfl (hb hby d2_52) rfl rfl ?_
      refine st15 _ ?_
      exact X15.returnOut hx Bd.returns (hb hby d2_57) hr
    · show QstrC4 Z a b u1 u2 N kb cs cz h0 n0 _ T15.heap _
      rw [e15]
      exact ⟨r_3, kr_3, rfl, N15, K15, sz4, (((hp0.keep Kc3).wr W14).wr W15), Fw15, (by rw [ec7]; exact (Fw14.other W15 (Or.inr (slot_ne (Or.inr (hw _ w_17)) (Or.inr (hw _ w_16)) (by decide) (t := .byte) (t' := (.array .byte)) (by decide) (by decide))))), (by rw [ec7, hlen]; exact ((Vr12.other W14 (Ne.symm (Nat.ne_of_lt (Nat.lt_of_lt_of_le hp0.lt r3_1)))).other W15 (Ne.symm (Nat.ne_of_lt (Nat.lt_of_lt_of_le hp0.lt r3_1)))))⟩
abbrev c1_ := jdk_42_method_3_code
theorem d1_0 : decode c1_ 0 = .ok (.aload_n 0, 1) := by decide +kernel
theorem d1_1 : decode c1_ 1 = .ok (.aload_n 1, 1) := by decide +kernel
theorem d1_2 : decode c1_ 2 = .ok (.iconst 0, 1) := by decide +kernel
theorem d1_3 : decode c1_ 3 = .ok (.aload_n 1, 1) := by decide +kernel
theorem d1_4 : decode c1_ 4 = .ok (.arraylength, 1) := by decide +kernel
theorem d1_5 : decode c1_ 5 = .ok (.aconst_null, 1) := by decide +kernel
theorem w_7 : (Cond.methodLink "java/lang/String" (27 : Nat) mN12) ∈ tables_1 := List.mem_of_getElem? (i := 7) (by decide +kernel)
theorem w_10 : (Cond.code mN12 jdk_42_method_149_code (6 : Nat) (Option.none : Option Jvm.ClassFile.FieldType)) ∈ tables_1 := List.mem_of_getElem? (i := 10) (by decide +kernel)
theorem pd__ACIILjava_lang_Void__V : parseMethodDescriptor "([CIILjava/lang/Void;)V" = some ⟨[(.array .char), .int, .int, (.object "java/lang/Void")], none⟩ := by decide +kernel
theorem d1_6 : decode c1_ 6 = .ok (.invokespecial 27, 3) := by decide +kernel
theorem w_8 : (Cond.instanceMethod mN12) ∈ tables_1 := List.mem_of_getElem? (i := 8) (by decide +kernel)
theorem d1_9 : decode c1_ 9 = .ok (.return_, 1) := by decide +kernel
abbrev mN13 : MethodName := ⟨"java/lang/String", "<init>", "([C)V"⟩
theorem ef_strC1 (m : MethodId) (x0 : Addr) (x1 : Addr) : entryFrame m #[(.ref x0), (.ref x1)] 2 = mkF m 0 #[vR x0, vR x1] [] := by first | (simp [entryFrame, mkF, argsToLocals, Value.category]; done) | rfl
def QstrC1 (Z : State) (a : Addr) (b : Addr) (u1 : Value) (u2 : Value) (N : Nat) (kb : ClassId) (cs : List Int32) (cz : Int32) (h0 : Heap) (n0 : Nat) (v : Option Value) (h : Heap) (L : List Loc) : Prop := ∃ (t : Addr), ∃ (kt : ClassId), v = none ∧ Fr n0 L ∧ Keep h0 h [a] ∧ h0.size ≤ t ∧ Exa Z h a "java/lang/String" ∧ Fld Z h a "java/lang/String" "value" "[B" (.ref t) ∧ Fld Z h a "java/lang/String" "coder" "B" (.int (own_i (own_cd cs))) ∧ Arv Z h t kt .byte (own_i (own_wd (own_cd cs) cs.length)) ((own_enc (own_cd cs) cs).map Value.int) (.int 0)
set_option maxRecDepth 65536 in
set_option maxHeartbeats 40000000 in
theorem rmstrC1 (l : Launch) (Z : State) (a0 : Array Value) (hw : ∀ d ∈ tables_1, d.before a0 Z = true) (ws : List Jvm.Cond) (a : Addr) (b : Addr) (u1 : Value) (u2 : Value) (N : Nat) (kb : ClassId) (cs : List Int32) (cz : Int32) (h0 : Heap) (n0 : Nat) (O0 : Old Z n0 h0) (hp0 : Exa Z h0 a "java/lang/String") (hp1 : n0 ≤ a) (hp2 : Fld Z h0 a "java/lang/String" "value" "[B" u1) (hp3 : Fld Z h0 a "java/lang/String" "coder" "B" u2) (hp4 : Arv Z h0 b kb .char (own_i N) (cs.map Value.int) (.int 0)) (hN0 : (0 < N)) (hN : (N ≤ 40)) (hlen : (cs.length = N)) (hch : (own_Ch cs)) (hp9 : Sta Z Z.heap "java/lang/StringUTF16" "$assertionsDisabled" "Z" (.int 1)) (hp10 : Sta Z Z.heap "java/lang/StringUTF16" "HI_BYTE_SHIFT" "I" (.int 0)) (hp11 : Sta Z Z.heap "java/lang/StringUTF16" "LO_BYTE_SHIFT" "I" (.int 8)) (hp12 : Sta Z Z.heap "java/lang/String" "COMPACT_STRINGS" "Z" (.int cz)) (hcz : (¬ (cz = (0 : Int32)))) :
    MetFree l mN13 (head1 (Jvm.Cond.code mN13 jdk_42_method_3_code 2 none :: ws) ({ frames := 5, cells := 2, slots := 200, locals := 74 } : Room)) (fun as_ U => as_ = #[(.ref a), (.ref b)] ∧ Z.Warmed39 U.vm ∧ U.heap = h0) (fun _ _ _ _ _ => True) (fun _ U o U' => ∃ v L, o = .returned v ∧ QstrC1 Z a b u1 u2 N kb cs cz h0 n0 v U'.heap L ∧ FrameEnd U o U' L ({ frames := 5, cells := 2, slots := 200, locals := 74 } : Room).cells ({ frames := 5, cells := 2, slots := 200, locals := 74 } : Room).slots) := by
  refine MetFree.of_bodySF (plainFor_of_name pn_java_lang_String) hisR ?_
  intro p e s m args below meth c s₁ Bd hml0 hP hK
  obtain ⟨rfl, hZ, hh⟩ := hP
  have hx := Bd.exec
  have hby := Bd.bytes
  have hml : c.maxLocals = 2 := hml0
  have hown : s.vm.findClass "java/lang/String" = some m.cls := findClass_of_methodNamed Bd.named
  have hnm := (name_of_methodNamed Bd.named Bd.method).1
  have X0 : Stand p l e ({ frames := 5, cells := 2, slots := 200, locals := 74 } : Room) s m #[(.ref a), (.ref b)] below meth c s₁ [] 0 0 := Stand.of_body Bd
  have e0 : s₁.heap = h0 := by rw [← hh, Bd.state]; rfl
  have N0 := Fr.nil n0
  have Z0 := own_z0 O0
  have pre0 : ∀ tg_, Steps p.tables e below (s₁.setTop (mkF m 0 #[vR a, vR b] [])) tg_ → Steps p.tables e below (s₁.setTop (entryFrame m #[(.ref a), (.ref b)] 2)) tg_ := fun tg_ kt_ => castTop (ef_strC1 m a b) kt_
  obtain ⟨cl1, Ar1, -, S1, Ng1, -, -⟩ := id hp4
  obtain ⟨_, _, ⟨T2, L2, k2, n2⟩, -, X2, ⟨Lc2, hQ2, l2, y2, z2⟩, st2⟩ := X0.specialBack hx (y := mN12) rfl hown (mvT hZ (hw _ w_7)) (mvT hZ (hw _ w_8)) (mvT hZ (hw _ w_10)) (by decide) (backOf (W := 0) (rmstrC4 l Z a0 hw [] a b u1 u2 N kb cs cz h0 n0 O0 hp0 hp1 hp2 hp3 hp4 hN0 hN hlen hch hp9 hp10 hp11 hp12 hcz) hZ (hw _ w_10) (hw _ w_2) (by decide) (by decide)) (g := (mkF m 6 #[vR a, vR b] [.null, (.int (own_i N)), (.int 0), (.ref b), (.ref a)])) rfl (by rw [hml]; rfl) (Steps.refl _) (a := a) (argsL := [(.ref b), (.int 0), (.int (own_i N)), .null]) (rest := []) (lenOf pd__ACIILjava_lang_Void__V rfl) rfl (by show 2 * 0 + _ ≤ _; exact Nat.le_of_eq rfl) (hb hby d1_6) (fun _ _ => ⟨rfl, e0, (by decide : 0 + 2 ≤ _), (by decide : 0 + 200 ≤ _)⟩)
  dsimp only [Pt.U, Pt.locs, Pt.cells, Pt.slots] at X2 l2 y2 z2 st2 hQ2
  subst l2 y2 z2
  obtain ⟨t_2, kt_2, rfl, N2q, Kc2, r2_1, r2_2, r2_3, r2_4, r2_5⟩ := hQ2
  have N2 := Fr.app N0 N2q
  have sz3 : h0.size ≤ t_2 := Nat.le_trans (Keep.refl h0 [a]).1 r2_1
  have gn3 : n0 ≤ t_2 := Nat.le_trans Z0 sz3
  have O2 : Old Z n0 T2.heap := O0.keep Kc2 (allS hp1 all0)
  have K2 : Keep h0 T2.heap [a] := (Keep.refl h0 [a]).trans Kc2 (allS (Or.inl (List.mem_of_getElem? (i := 0) rfl)) all0)
  obtain ⟨fs, hr, hrun, hended, hW, hsame⟩ := X2.leave (v := none) (fun _ => rfl)
  refine ⟨_, _, pre0 _ ?_, hrun, hended, _, _, rfl, ?_, ⟨_, rfl⟩, hW, hsame.mono (by decide) (by decide)⟩
  · refine XS.aloadN X0.here hx rfl (hb hby d1_0) rfl rfl ?_
    refine XS.aloadN X0.here hx rfl (hb hby d1_1) rfl rfl ?_
    refine XS.iconst X0.here hx rfl (hb hby d1_2) ?_
    refine XS.aloadN X0.here hx rfl (hb hby d1_3) rfl rfl ?_
    refine X0.arraylength hx (by rw [e0]; exact Ar1.1) (State.isArrayOf_alike hZ.alike Ar1.2.1) (g := (mkF m 4 #[vR a, vR b] [(.ref b), (.int 0), (.ref b), (.ref a)])) rfl rfl (hb hby d1_4) _ ?_
    rw [len_of S1 Ng1]
    refine XS.aconstNull X0.here hx rfl (hb hby d1_5) ?_
    refine st2.trans ?_
    exact X2.returnOut hx Bd.returns (hb hby d1_9) hr
  · show QstrC1 Z a b u1 u2 N kb cs cz h0 n0 _ T2.heap _
    exact ⟨t_2, kt_2, rfl, N2, K2, sz3, r2_2, r2_3, r2_4, r2_5⟩
theorem d2_8 : decode c2_ 8 = .ok (.aload_n 0, 1) := by decide +kernel
theorem d2_9 : decode c2_ 9 = .ok (.ldc 7, 2) := by decide +kernel
theorem d2_11 : decode c2_ 11 = .ok (.getfield 9, 3) := by decide +kernel
theorem d2_14 : decode c2_ 14 = .ok (.putfield 9, 3) := by decide +kernel
theorem d2_17 : decode c2_ 17 = .ok (.aload_n 0, 1) := by decide +kernel
theorem d2_18 : decode c2_ 18 = .ok (.ldc 7, 2) := by decide +kernel
theorem d2_20 : decode c2_ 20 = .ok (.getfield 15, 3) := by decide +kernel
theorem d2_23 : decode c2_ 23 = .ok (.putfield 15, 3) := by decide +kernel
theorem d2_26 : decode c2_ 26 = .ok (.return_, 1) := by decide +kernel
theorem ef_strE4 (m : MethodId) (x0 : Addr) (x1 : Addr) (x2 : Int32) (x3 : Int32) : entryFrame m #[(.ref x0), (.ref x1), (.int x2), (.int x3), .null] 6 = mkF m 0 #[vR x0, vR x1, vI x2, vI x3, .val .null, .unset] [] := by first | (simp [entryFrame, mkF, argsToLocals, Value.category]; done) | rfl
def QstrE4 (Z : State) (a : Addr) (b : Addr) (u2 : Value) (h0 : Heap) (n0 : Nat) (v : Option Value) (h : Heap) (L : List Loc) : Prop := ∃ (t : Addr), ∃ (kt : ClassId), v = none ∧ Fr n0 L ∧ Keep h0 h [a] ∧ Exa Z h a "java/lang/String" ∧ Fld Z h a "java/lang/String" "value" "[B" (.ref t) ∧ Fld Z h a "java/lang/String" "coder" "B" (.int 0) ∧ Arv Z h t kt .byte (0 : Int32) [] (.int 0)
set_option maxRecDepth 65536 in
set_option maxHeartbeats 40000000 in
theorem rmstrE4 (l : Launch) (Z : State) (a0 : Array Value) (hw : ∀ d ∈ tables_1, d.before a0 Z = true) (ws : List Jvm.Cond) (a : Addr) (b : Addr) (u2 : Value) (h0 : Heap) (n0 : Nat) (O0 : Old Z n0 h0) (hp0 : Exa Z h0 a "java/lang/String") (hp1 : n0 ≤ a) (hp2 : Fld Z h0 a "java/lang/String" "value" "[B" .null) (hp3 : Fld Z h0 a "java/lang/String" "coder" "B" u2) :
    MetFree l mN12 (head1 (Jvm.Cond.code mN12 jdk_42_method_149_code 6 none :: ws) ({ frames := 1, cells := 4, slots := 8, locals := 12 } : Room)) (fun as_ U => as_ = #[(.ref a), (.ref b), (.int 0), (.int 0), .null] ∧ Z.Warmed39 U.vm ∧ U.heap = h0 ∧ CHv Z own_EL U.vm h0) (fun _ _ _ _ _ => True) (fun _ U o U' => ∃ v L, o = .returned v ∧ QstrE4 Z a b u2 h0 n0 v U'.heap L ∧ CHr Z own_EL U.vm U.heap U'.vm U'.heap ∧ ReturnedEndW U o U' L ({ frames := 1, cells := 4, slots := 8, locals := 12 } : Room).cells ({ frames := 1, cells := 4, slots := 8, locals := 12 } : Room).slots) := by
  refine MetFree.of_bodySF (plainFor_of_name pn_java_lang_String) hisR ?_
  intro p e s m args below meth c s₁ Bd hml0 hP hK
  obtain ⟨rfl, hZ, hh, HC0⟩ := hP
  have hx := Bd.exec
  have hby := Bd.bytes
  have hml : c.maxLocals = 6 := hml0
  have hown : s.vm.findClass "java/lang/String" = some m.cls := findClass_of_methodNamed Bd.named
  have hnm := (name_of_methodNamed Bd.named Bd.method).1
  have X0 : Stand p l e ({ frames := 1, cells := 4, slots := 8, locals := 12 } : Room) (s.setVm s.vm) m #[(.ref a), (.ref b), (.int 0), (.int 0), .null] below meth c s₁ [] 0 0 := Stand.of_body Bd
  have hS : s.Since s.vm 0 := (State.WarmedH.refl s).since 0
  have hk : 0 ≤ h0.size := Nat.zero_le _
  have hEL := own_EW hw
  have wS := own_wS hw
  have hZ : Z.Warmed39 (s.setVm s.vm).vm := hZ
  have hown : (s.setVm s.vm).vm.findClass "java/lang/String" = some m.cls := hown
  have e0 : s₁.heap = h0 := by rw [← hh, Bd.state]; rfl
  have N0 := Fr.nil n0
  have Z0 := own_z0 O0
  have pre0 : ∀ tg_, Steps p.tables e below (s₁.setTop (mkF m 0 #[vR a, vR b, vI 0, vI 0, .val .null, .unset] [])) tg_ → Steps p.tables e below (s₁.setTop (entryFrame m #[(.ref a), (.ref b), (.int 0), (.int 0), .null] 6)) tg_ := fun tg_ kt_ => castTop (ef_strE4 m a b (0 : Int32) (0 : Int32)) kt_
  have hZ0_ := hZ
  have sf_a : Safe Z own_EL (s.setVm s.vm).vm h0 a := own_safeNull hZ.alike hp0 hp2
  obtain ⟨T1, X1, e1, st1⟩ := initO X0 hx hZ hown (hw _ w_11) (hw _ w_12) (hw _ w_13) e0 (g := (mkF m 1 #[vR a, vR b, vI 0, vI 0, .val .null, .unset] [(.ref a)])) rfl (by rw [hml]; rfl) rfl (hb hby d2_1) (by decide) (W := 0) (by show 2 * 0 + _ ≤ _; exact Nat.le_of_eq rfl) (by decide)
  obtain ⟨a2, T2, h2, kq2, sb2, kb2, X2, e2, E2, hS, hk, hZ, hown, A2, Fc2, Fv2, V2, lt2, lu2, R2, Li2, Sf2, st2⟩ := ldcCH X1 hx hZ hown (hw _ w_14) wS e1 hS hk hEL (by decide) HC0 (vs := []) (z := (0 : Int32)) ⟨by decide, by decide⟩ (by decide) (by decide) (g := (mkF m 9 #[vR a, vR b, vI 0, vI 0, .val .null, .unset] [(.ref a)])) rfl (hb hby d2_9) (n := 0) (by decide) (by decide) (by decide) (by decide)
  have hZ2 := hZ
  have O2 : Old Z n0 h2 := O0.ext E2
  have K2 : Keep h0 h2 [a] := (Keep.refl h0 [a]).ext E2
  have HC2 := R2.1
  have RC2 := (CHr.refl HC0).trans R2
  obtain ⟨T3, X3, e3, st3⟩ := getF X2 hx hZ hown (host := "") (Or.inl (hw _ w_20)) Via.refl e2 Fv2 (g := (mkF m 11 #[vR a, vR b, vI 0, vI 0, .val .null, .unset] [(.ref a2), (.ref a)])) rfl rfl (hb hby d2_11)
  obtain ⟨T4, h4, X4, e4, W4, st4⟩ := putF X3 hx hZ hown (host := "") (Or.inl (hw _ w_20)) Via.refl e3 (hp2.ext E2) (hp0.ext E2) (Or.inr ⟨(hw _ w_16), rfl, hnm⟩) (hw _ w_1) (ty := (.array .byte)) (by decide) rfl rfl (g := (mkF m 14 #[vR a, vR b, vI 0, vI 0, .val .null, .unset] [(.ref sb2), (.ref a)])) rfl rfl (hb hby d2_14)
  have Fw4 := (hp2.ext E2).same W4
  have N4 := Fr.snoc X4 N0 hp1
  have O4 : Old Z n0 h4 := O2.wr W4 hp1
  have K4 : Keep h0 h4 [a] := K2.wr W4 (Or.inl (List.mem_of_getElem? (i := 0) rfl))
  have hk := Nat.le_trans hk (Keep.of_wr W4).1
  have HC4 := CHv.wr W4 (CHr.safe R2 hp0.lt sf_a) HC2
  have RC4 := RC2.trans (CHr.wr W4 (CHr.safe R2 hp0.lt sf_a) HC2)
  obtain ⟨a5, T5, h5, kq5, sb5, kb5, X5, e5, E5, hS, hk, hZ, hown, A5, Fc5, Fv5, V5, lt5, lu5, R5, Li5, Sf5, st5⟩ := ldcCH X4 hx hZ hown (hw _ w_14) wS e4 hS hk hEL (by decide) HC4 (vs := []) (z := (0 : Int32)) ⟨by decide, by decide⟩ (by decide) (by decide) (g := (mkF m 18 #[vR a, vR b, vI 0, vI 0, .val .null, .unset] [(.ref a)])) rfl (hb hby d2_18) (n := 0) (by decide) (by decide) (by decide) (by decide)
  have hZ5 := hZ
  have O5 : Old Z n0 h5 := O4.ext E5
  have K5 : Keep h0 h5 [a] := K4.ext E5
  have HC5 := R5.1
  have RC5 := RC4.trans R5
  obtain ⟨T6, X6, e6, st6⟩ := getF X5 hx hZ hown (host := "") (Or.inl (hw _ w_21)) Via.refl e5 Fc5 (g := (mkF m 20 #[vR a, vR b, vI 0, vI 0, .val .null, .unset] [(.ref a5), (.ref a)])) rfl rfl (hb hby d2_20)
  obtain ⟨T7, h7, X7, e7, W7, st7⟩ := putFN X6 hx hZ hown (hw _ w_21) Via.refl e6 (((hp3.ext E2).other W4 (Or.inr (slot_ne (Or.inr (hw _ w_17)) (Or.inr (hw _ w_16)) (by decide) (t := .byte) (t' := (.array .byte)) (by decide) (by decide)))).ext E5) (((hp0.ext E2).wr W4).ext E5) (Or.inr ⟨(hw _ w_17), rfl, hnm⟩) (hw _ w_1) (ty := .byte) (v' := (.int 0)) (by decide) rfl rfl (g := (mkF m 23 #[vR a, vR b, vI 0, vI 0, .val .null, .unset] [(.int 0), (.ref a)])) rfl rfl (hb hby d2_23)
  have Fw7 := (((hp3.ext E2).other W4 (Or.inr (slot_ne (Or.inr (hw _ w_17)) (Or.inr (hw _ w_16)) (by decide) (t := .byte) (t' := (.array .byte)) (by decide) (by decide)))).ext E5).same W7
  have N7 := Fr.snoc X7 N4 hp1
  have O7 : Old Z n0 h7 := O5.wr W7 hp1
  have K7 : Keep h0 h7 [a] := K5.wr W7 (Or.inl (List.mem_of_getElem? (i := 0) rfl))
  have hk := Nat.le_trans hk (Keep.of_wr W7).1
  have HC7 := CHv.wr W7 (CHr.safe R5 ((hp0.ext E2).wr W4).lt (Safe.wr W4 (CHr.safe R2 hp0.lt sf_a) HC2 (CHr.safe R2 hp0.lt sf_a))) HC5
  have RC7 := RC5.trans (CHr.wr W7 (CHr.safe R5 ((hp0.ext E2).wr W4).lt (Safe.wr W4 (CHr.safe R2 hp0.lt sf_a) HC2 (CHr.safe R2 hp0.lt sf_a))) HC5)
  obtain ⟨fs, hr, hrun, hended, hRE⟩ := X7.leaveW hS (show _ ≤ T7.heap.size by rw [e7]; exact hk) (v := none) (fun _ => rfl)
  refine ⟨_, _, pre0 _ ?_, hrun, hended, _, _, rfl, ?_, ?_, ⟨hRE.1, hRE.2.1, hRE.2.2.1, hRE.2.2.2.mono (by decide) (by decide)⟩⟩
  · refine XS.aloadN X0.here hx rfl (hb hby d2_0) rfl rfl ?_
    refine st1 _ ?_
    refine XS.iloadN X1.here hx rfl (hb hby d2_4) rfl ?_
    refine XS.ifNo X1.here hx rfl (hb hby d2_5) rfl ((if0 _ _).trans (teq (by decide : (0 : Int32) = (0 : Int32))).2) ?_
    refine XS.aloadN X1.here hx rfl (hb hby d2_8) rfl rfl ?_
    refine st2 _ ?_
    refine st3 _ ?_
    refine st4 _ ?_
    refine XS.aloadN X4.here hx rfl (hb hby d2_17) rfl rfl ?_
    refine st5 _ ?_
    refine st6 _ ?_
    show Steps _ _ _ (T6.setTop (mkF m 23 #[vR a, vR b, vI 0, vI 0, .val .null, .unset] [(.int 0), (.ref a)])) _
    refine st7 _ ?_
    exact X7.returnOut hx Bd.returns (hb hby d2_26) hr
  · show QstrE4 Z a b u2 h0 n0 _ T7.heap _
    rw [e7]
    exact ⟨sb2, kb2, rfl, N7, K7, ((((hp0.ext E2).wr W4).ext E5).wr W7), ((Fw4.ext E5).other W7 (Or.inr (slot_ne (Or.inr (hw _ w_16)) (Or.inr (hw _ w_17)) (by decide) (t := (.array .byte)) (t' := .byte) (by decide) (by decide)))), Fw7, (((V2.other W4 (Ne.symm (Sf2 _ (CHr.safe R2 hp0.lt sf_a)).2)).ext E5).other W7 (Ne.symm (Sf2 _ (CHr.safe R2 hp0.lt sf_a)).2))⟩
  · rw [hh]
    show CHr Z own_EL s.vm h0 T7.vm T7.heap
    rw [e7]
    exact RC7.trans (CHv.at X7 hZ hEL HC7)
theorem ef_strE1 (m : MethodId) (x0 : Addr) (x1 : Addr) : entryFrame m #[(.ref x0), (.ref x1)] 2 = mkF m 0 #[vR x0, vR x1] [] := by first | (simp [entryFrame, mkF, argsToLocals, Value.category]; done) | rfl
def QstrE1 (Z : State) (a : Addr) (b : Addr) (u2 : Value) (kb : ClassId) (h0 : Heap) (n0 : Nat) (v : Option Value) (h : Heap) (L : List Loc) : Prop := ∃ (t : Addr), ∃ (kt : ClassId), v = none ∧ Fr n0 L ∧ Keep h0 h [a] ∧ Exa Z h a "java/lang/String" ∧ Fld Z h a "java/lang/String" "value" "[B" (.ref t) ∧ Fld Z h a "java/lang/String" "coder" "B" (.int 0) ∧ Arv Z h t kt .byte (0 : Int32) [] (.int 0)
set_option maxRecDepth 65536 in
set_option maxHeartbeats 40000000 in
theorem rmstrE1 (l : Launch) (Z : State) (a0 : Array Value) (hw : ∀ d ∈ tables_1, d.before a0 Z = true) (ws : List Jvm.Cond) (a : Addr) (b : Addr) (u2 : Value) (kb : ClassId) (h0 : Heap) (n0 : Nat) (O0 : Old Z n0 h0) (hp0 : Exa Z h0 a "java/lang/String") (hp1 : n0 ≤ a) (hp2 : Fld Z h0 a "java/lang/String" "value" "[B" .null) (hp3 : Fld Z h0 a "java/lang/String" "coder" "B" u2) (hp4 : Arv Z h0 b kb .char (0 : Int32) [] (.int 0)) :
    MetFree l mN13 (head1 (Jvm.Cond.code mN13 jdk_42_method_3_code 2 none :: ws) ({ frames := 2, cells := 4, slots := 8, locals := 29 } : Room)) (fun as_ U => as_ = #[(.ref a), (.ref b)] ∧ Z.Warmed39 U.vm ∧ U.heap = h0 ∧ CHv Z own_EL U.vm h0) (fun _ _ _ _ _ => True) (fun _ U o U' => ∃ v L, o = .returned v ∧ QstrE1 Z a b u2 kb h0 n0 v U'.heap L ∧ CHr Z own_EL U.vm U.heap U'.vm U'.heap ∧ ReturnedEndW U o U' L ({ frames := 2, cells := 4, slots := 8, locals := 29 } : Room).cells ({ frames := 2, cells := 4, slots := 8, locals := 29 } : Room).slots) := by
  refine MetFree.of_bodySF (plainFor_of_name pn_java_lang_String) hisR ?_
  intro p e s m args below meth c s₁ Bd hml0 hP hK
  obtain ⟨rfl, hZ, hh, HC0⟩ := hP
  have hx := Bd.exec
  have hby := Bd.bytes
  have hml : c.maxLocals = 2 := hml0
  have hown : s.vm.findClass "java/lang/String" = some m.cls := findClass_of_methodNamed Bd.named
  have hnm := (name_of_methodNamed Bd.named Bd.method).1
  have X0 : Stand p l e ({ frames := 2, cells := 4, slots := 8, locals := 29 } : Room) (s.setVm s.vm) m #[(.ref a), (.ref b)] below meth c s₁ [] 0 0 := Stand.of_body Bd
  have hS : s.Since s.vm 0 := (State.WarmedH.refl s).since 0
  have hk : 0 ≤ h0.size := Nat.zero_le _
  have hEL := own_EW hw
  have wS := own_wS hw
  have hZ : Z.Warmed39 (s.setVm s.vm).vm := hZ
  have hown : (s.setVm s.vm).vm.findClass "java/lang/String" = some m.cls := hown
  have e0 : s₁.heap = h0 := by rw [← hh, Bd.state]; rfl
  have N0 := Fr.nil n0
  have Z0 := own_z0 O0
  have pre0 : ∀ tg_, Steps p.tables e below (s₁.setTop (mkF m 0 #[vR a, vR b] [])) tg_ → Steps p.tables e below (s₁.setTop (entryFrame m #[(.ref a), (.ref b)] 2)) tg_ := fun tg_ kt_ => castTop (ef_strE1 m a b) kt_
  have hZ0_ := hZ
  have sf_a : Safe Z own_EL (s.setVm s.vm).vm h0 a := own_safeNull hZ.alike hp0 hp2
  obtain ⟨cl1, Ar1, -, S1, Ng1, -, -⟩ := id hp4
  have pre3 := fun tg_ (kt_ : Steps p.tables e below (s₁.setTop (mkF m 6 #[vR a, vR b] [.null, (.int 0), (.int 0), (.ref b), (.ref a)])) tg_) => pre0 tg_ (by
    refine XS.aloadN X0.here hx rfl (hb hby d1_0) rfl rfl ?_
    refine XS.aloadN X0.here hx rfl (hb hby d1_1) rfl rfl ?_
    refine XS.iconst X0.here hx rfl (hb hby d1_2) ?_
    refine XS.aloadN X0.here hx rfl (hb hby d1_3) rfl rfl ?_
    refine X0.arraylength hx (by rw [e0]; exact Ar1.1) (State.isArrayOf_alike hZ.alike Ar1.2.1) (g := (mkF m 4 #[vR a, vR b] [(.ref b), (.int 0), (.ref b), (.ref a)])) rfl rfl (hb hby d1_4) _ ?_
    rw [len_of S1 Ng1]
    refine XS.aconstNull X0.here hx rfl (hb hby d1_5) ?_
    exact kt_)
  obtain ⟨_, _, ⟨T2, L2, k2, n2⟩, -, Xh2, Sh2, gh2, ⟨Lc2, hQ2, l2, y2, z2, R2⟩, st2⟩ := X0.specialBackS hx (y := mN12) rfl hown (mvT hZ (hw _ w_7)) (mvT hZ (hw _ w_8)) (mvT hZ (hw _ w_10)) (by decide) (backOfSH (s := s) (W := 0) (rmstrE4 l Z a0 hw [] a b u2 h0 n0 O0 hp0 hp1 hp2 hp3) hZ (hw _ w_10) (hw _ w_2) (by decide) (by decide) hEL HC0) (g := (mkF m 6 #[vR a, vR b] [.null, (.int 0), (.int 0), (.ref b), (.ref a)])) rfl (by rw [hml]; rfl) (Steps.refl _) (a := a) (argsL := [(.ref b), (.int 0), (.int 0), .null]) (rest := []) (lenOf pd__ACIILjava_lang_Void__V rfl) rfl (by show 2 * 0 + _ ≤ _; exact Nat.le_of_eq rfl) (hb hby d1_6) (fun _ _ => ⟨rfl, e0, (by decide : 0 + 4 ≤ _), (by decide : 0 + 8 ≤ _)⟩)
  dsimp only [Pt.U, Pt.locs, Pt.cells, Pt.slots] at Xh2 Sh2 gh2 l2 y2 z2 R2 st2 hQ2
  subst l2 y2 z2
  obtain ⟨X2, hS, hZ, hown⟩ := rebS hS (show _ ≤ s₁.heap.size by rw [e0]; exact hk) Xh2 Sh2 gh2 hZ hown
  have hk := Nat.le_refl T2.heap.size
  have hZ2 := hZ
  obtain ⟨t_2, kt_2, rfl, N2q, Kc2, r2_1, r2_2, r2_3, r2_4⟩ := hQ2
  have N2 := Fr.app N0 N2q
  have O2 : Old Z n0 T2.heap := O0.keep Kc2 (allS hp1 all0)
  have K2 : Keep h0 T2.heap [a] := (Keep.refl h0 [a]).trans Kc2 (allS (Or.inl (List.mem_of_getElem? (i := 0) rfl)) all0)
  have HC2 := R2.1
  have RC2 := (CHr.refl HC0).trans R2
  obtain ⟨fs, hr, hrun, hended, hRE⟩ := X2.leaveW hS hk (v := none) (fun _ => rfl)
  refine ⟨_, _, pre3 _ ?_, hrun, hended, _, _, rfl, ?_, ?_, ⟨hRE.1, hRE.2.1, hRE.2.2.1, hRE.2.2.2.mono (by decide) (by decide)⟩⟩
  · refine st2.trans ?_
    exact X2.returnOut hx Bd.returns (hb hby d1_9) hr
  · show QstrE1 Z a b u2 kb h0 n0 _ T2.heap _
    exact ⟨t_2, kt_2, rfl, N2, K2, r2_1, r2_2, r2_3, r2_4⟩
  · rw [hh]
    show CHr Z own_EL s.vm h0 T2.vm T2.heap
    exact RC2.trans (CHv.at X2 hZ hEL HC2)
abbrev c14_ := jdk_29_method_65_code
theorem d14_0 : decode c14_ 0 = .ok (.iload_n 0, 1) := by decide +kernel
theorem d14_1 : decode c14_ 1 = .ok (.iload_n 1, 1) := by decide +kernel
theorem d14_2 : decode c14_ 2 = .ok (.if_icmp .lt 7, 3) := by decide +kernel
theorem d14_9 : decode c14_ 9 = .ok (.iload_n 1, 1) := by decide +kernel
theorem d14_10 : decode c14_ 10 = .ok (.ireturn, 1) := by decide +kernel
theorem d14_5 : decode c14_ 5 = .ok (.iload_n 0, 1) := by decide +kernel
theorem d14_6 : decode c14_ 6 = .ok (.goto 4, 3) := by decide +kernel
abbrev mN14 : MethodName := ⟨"java/lang/Math", "max", "(II)I"⟩
theorem ef_maxN (m : MethodId) (x0 : Int32) (x1 : Int32) : entryFrame m #[(.int x0), (.int x1)] 2 = mkF m 0 #[vI x0, vI x1] [] := by first | (simp [entryFrame, mkF, argsToLocals, Value.category]; done) | rfl
def QmaxN (Z : State) (xa : Nat) (ya : Nat) (h0 : Heap) (n0 : Nat) (v : Option Value) (h : Heap) (L : List Loc) : Prop := v = some (.int (own_i (max xa ya))) ∧ Fr n0 L ∧ h = h0
theorem pn_b14 : plainFor (⟨"java/lang/Math", "max", "(II)I"⟩ : MethodName) = true := by decide +kernel
set_option maxRecDepth 65536 in
set_option maxHeartbeats 40000000 in
theorem rmmaxN (l : Launch) (Z : State) (a0 : Array Value) (hw : ∀ d ∈ tables_1, d.before a0 Z = true) (ws : List Jvm.Cond) (xa : Nat) (ya : Nat) (h0 : Heap) (n0 : Nat) (O0 : Old Z n0 h0) (hx_ : (xa ≤ 1000)) (hy_ : (ya ≤ 1000)) :
    MetFree l mN14 (head1 (Jvm.Cond.code mN14 jdk_29_method_65_code 2 (some .int) :: ws) ({ frames := 0, cells := 0, slots := 0, locals := 0 } : Room)) (fun as_ U => as_ = #[(.int (own_i xa)), (.int (own_i ya))] ∧ Z.Warmed39 U.vm ∧ U.heap = h0) (fun _ _ _ _ _ => True) (fun _ U o U' => ∃ v L, o = .returned v ∧ QmaxN Z xa ya h0 n0 v U'.heap L ∧ FrameEnd U o U' L ({ frames := 0, cells := 0, slots := 0, locals := 0 } : Room).cells ({ frames := 0, cells := 0, slots := 0, locals := 0 } : Room).slots) := by
  refine MetFree.of_bodySF pn_b14 hisR ?_
  intro p e s m args below meth c s₁ Bd hml0 hP hK
  obtain ⟨rfl, hZ, hh⟩ := hP
  have hx := Bd.exec
  have hby := Bd.bytes
  have hml : c.maxLocals = 2 := hml0
  have hown : s.vm.findClass "java/lang/Math" = some m.cls := findClass_of_methodNamed Bd.named
  have hnm := (name_of_methodNamed Bd.named Bd.method).1
  have X0 : Stand p l e ({ frames := 0, cells := 0, slots := 0, locals := 0 } : Room) s m #[(.int (own_i xa)), (.int (own_i ya))] below meth c s₁ [] 0 0 := Stand.of_body Bd
  have e0 : s₁.heap = h0 := by rw [← hh, Bd.state]; rfl
  have N0 := Fr.nil n0
  have Z0 := own_z0 O0
  have pre0 : ∀ tg_, Steps p.tables e below (s₁.setTop (mkF m 0 #[vI (own_i xa), vI (own_i ya)] [])) tg_ → Steps p.tables e below (s₁.setTop (entryFrame m #[(.int (own_i xa)), (.int (own_i ya))] 2)) tg_ := fun tg_ kt_ => castTop (ef_maxN m (own_i xa) (own_i ya)) kt_
  have pre1 := fun tg_ (kt_ : Steps p.tables e below (s₁.setTop (mkF m 2 #[vI (own_i xa), vI (own_i ya)] [(.int (own_i ya)), (.int (own_i xa))])) tg_) => pre0 tg_ (by
    refine XS.iloadN X0.here hx rfl (hb hby d14_0) rfl ?_
    refine XS.iloadN X0.here hx rfl (hb hby d14_1) rfl ?_
    exact kt_)
  by_cases hc2 : (own_i xa) < (own_i ya)
  · obtain ⟨fs, hr, hrun, hended, hW, hsame⟩ := X0.leave (v := some (.int (own_i ya))) (fun h => by rw [Bd.returns] at h; cases h)
    refine ⟨_, _, pre1 _ ?_, hrun, hended, _, _, rfl, ?_, ⟨_, rfl⟩, hW, hsame.mono (by decide) (by decide)⟩
    · refine XS.icmpYes X0.here hx rfl (pc0 := 2) (pc' := 9) rfl (hb hby d14_2) rfl (tlt hc2).1 (by decide) (by decide) ?_
      refine XS.iloadN X0.here hx rfl (hb hby d14_9) rfl ?_
      exact retI X0 hx Bd.returns (hb hby d14_10) hr
    · show QmaxN Z xa ya h0 n0 _ s₁.heap _
      rw [e0]
      exact ⟨(own_ret (congrArg Value.int (congrArg own_i (by have z := hc2; rw [own_ilt (by omega) (by omega)] at z; omega)))), N0, rfl⟩
  · obtain ⟨fs, hr, hrun, hended, hW, hsame⟩ := X0.leave (v := some (.int (own_i xa))) (fun h => by rw [Bd.returns] at h; cases h)
    refine ⟨_, _, pre1 _ ?_, hrun, hended, _, _, rfl, ?_, ⟨_, rfl⟩, hW, hsame.mono (by decide) (by decide)⟩
    · refine XS.icmpNo X0.here hx rfl (hb hby d14_2) rfl (flt hc2).1 ?_
      refine XS.iloadN X0.here hx rfl (hb hby d14_5) rfl ?_
      refine XS.goto X0.here hx rfl (pc0 := 6) (pc' := 10) rfl (hb hby d14_6) (by decide) (by decide) ?_
      exact retI X0 hx Bd.returns (hb hby d14_10) hr
    · show QmaxN Z xa ya h0 n0 _ s₁.heap _
      rw [e0]
      exact ⟨(own_ret (congrArg Value.int (congrArg own_i (by have z := hc2; rw [own_ilt (by omega) (by omega)] at z; omega)))), N0, rfl⟩
abbrev c13_ := jdk_48_method_27_code
theorem d13_0 : decode c13_ 0 = .ok (.iload_n 0, 1) := by decide +kernel
theorem d13_1 : decode c13_ 1 = .ok (.iload_n 1, 1) := by decide +kernel
theorem d13_2 : decode c13_ 2 = .ok (.iload_n 2, 1) := by decide +kernel
theorem w_84 : (Cond.methodLink "jdk/internal/util/ArraysSupport" (194 : Nat) mN14) ∈ tables_1 := List.mem_of_getElem? (i := 84) (by decide +kernel)
theorem w_87 : (Cond.code mN14 jdk_29_method_65_code (2 : Nat) (Option.some FieldType.int)) ∈ tables_1 := List.mem_of_getElem? (i := 87) (by decide +kernel)
theorem w_86 : (Cond.initialized "java/lang/Math") ∈ tables_1 := List.mem_of_getElem? (i := 86) (by decide +kernel)
theorem pd__II_I : parseMethodDescriptor "(II)I" = some ⟨[.int, .int], some .int⟩ := by decide +kernel
theorem d13_3 : decode c13_ 3 = .ok (.invokestatic 194, 3) := by decide +kernel
theorem w_85 : (Cond.static mN14) ∈ tables_1 := List.mem_of_getElem? (i := 85) (by decide +kernel)
theorem d13_6 : decode c13_ 6 = .ok (.iadd, 1) := by decide +kernel
theorem d13_7 : decode c13_ 7 = .ok (.istore_n 3, 1) := by decide +kernel
theorem d13_8 : decode c13_ 8 = .ok (.iconst 0, 1) := by decide +kernel
theorem d13_9 : decode c13_ 9 = .ok (.iload_n 3, 1) := by decide +kernel
theorem d13_10 : decode c13_ 10 = .ok (.if_icmp .ge 11, 3) := by decide +kernel
theorem d13_13 : decode c13_ 13 = .ok (.iload_n 3, 1) := by decide +kernel
theorem w_88 : (Cond.constant "jdk/internal/util/ArraysSupport" (200 : Nat) (2147483639 : Int32)) ∈ tables_1 := List.mem_of_getElem? (i := 88) (by decide +kernel)
theorem d13_14 : decode c13_ 14 = .ok (.ldc 200, 2) := by decide +kernel
theorem d13_16 : decode c13_ 16 = .ok (.if_icmp .gt 5, 3) := by decide +kernel
theorem d13_19 : decode c13_ 19 = .ok (.iload_n 3, 1) := by decide +kernel
theorem d13_20 : decode c13_ 20 = .ok (.ireturn, 1) := by decide +kernel
abbrev mN15 : MethodName := ⟨"jdk/internal/util/ArraysSupport", "newLength", "(III)I"⟩
theorem ef_newLen (m : MethodId) (x0 : Int32) (x1 : Int32) (x2 : Int32) : entryFrame m #[(.int x0), (.int x1), (.int x2)] 4 = mkF m 0 #[vI x0, vI x1, vI x2, .unset] [] := by first | (simp [entryFrame, mkF, argsToLocals, Value.category]; done) | rfl
def QnewLen (Z : State) (oa : Nat) (ga : Nat) (pa : Nat) (h0 : Heap) (n0 : Nat) (v : Option Value) (h : Heap) (L : List Loc) : Prop := v = some (.int (own_i (oa + max ga pa))) ∧ Fr n0 L ∧ h = h0
theorem pn_jdk_internal_util_ArraysSupport : plainName "jdk/internal/util/ArraysSupport" = true := by first | (simp [plainName, overriddenIn]; done) | decide +kernel
set_option maxRecDepth 65536 in
set_option maxHeartbeats 40000000 in
theorem rmnewLen (l : Launch) (Z : State) (a0 : Array Value) (hw : ∀ d ∈ tables_1, d.before a0 Z = true) (ws : List Jvm.Cond) (oa : Nat) (ga : Nat) (pa : Nat) (h0 : Heap) (n0 : Nat) (O0 : Old Z n0 h0) (h1 : (oa ≤ 300)) (h2 : (ga ≤ 300)) (h3 : (0 < pa ∧ pa ≤ 300)) :
    MetFree l mN15 (head1 (Jvm.Cond.code mN15 jdk_48_method_27_code 4 (some .int) :: ws) ({ frames := 1, cells := 0, slots := 0, locals := 14 } : Room)) (fun as_ U => as_ = #[(.int (own_i oa)), (.int (own_i ga)), (.int (own_i pa))] ∧ Z.Warmed39 U.vm ∧ U.heap = h0) (fun _ _ _ _ _ => True) (fun _ U o U' => ∃ v L, o = .returned v ∧ QnewLen Z oa ga pa h0 n0 v U'.heap L ∧ FrameEnd U o U' L ({ frames := 1, cells := 0, slots := 0, locals := 14 } : Room).cells ({ frames := 1, cells := 0, slots := 0, locals := 14 } : Room).slots) := by
  refine MetFree.of_bodySF (plainFor_of_name pn_jdk_internal_util_ArraysSupport) hisR ?_
  intro p e s m args below meth c s₁ Bd hml0 hP hK
  obtain ⟨rfl, hZ, hh⟩ := hP
  have hx := Bd.exec
  have hby := Bd.bytes
  have hml : c.maxLocals = 4 := hml0
  have hown : s.vm.findClass "jdk/internal/util/ArraysSupport" = some m.cls := findClass_of_methodNamed Bd.named
  have hnm := (name_of_methodNamed Bd.named Bd.method).1
  have X0 : Stand p l e ({ frames := 1, cells := 0, slots := 0, locals := 14 } : Room) s m #[(.int (own_i oa)), (.int (own_i ga)), (.int (own_i pa))] below meth c s₁ [] 0 0 := Stand.of_body Bd
  have e0 : s₁.heap = h0 := by rw [← hh, Bd.state]; rfl
  have N0 := Fr.nil n0
  have Z0 := own_z0 O0
  have pre0 : ∀ tg_, Steps p.tables e below (s₁.setTop (mkF m 0 #[vI (own_i oa), vI (own_i ga), vI (own_i pa), .unset] [])) tg_ → Steps p.tables e below (s₁.setTop (entryFrame m #[(.int (own_i oa)), (.int (own_i ga)), (.int (own_i pa))] 4)) tg_ := fun tg_ kt_ => castTop (ef_newLen m (own_i oa) (own_i ga) (own_i pa)) kt_
  obtain ⟨_, _, ⟨T1, L1, k1, n1⟩, -, X1, ⟨Lc1, hQ1, l1, y1, z1⟩, st1⟩ := Jvm.LawKit.callS X0 hx (y := mN14) hown (mvT hZ (hw _ w_84)) (mvT hZ (hw _ w_85)) (mvT hZ (hw _ w_86)) (mvT hZ (hw _ w_87)) (by decide) (backOf (W := 1) (rmmaxN l Z a0 hw [] ga pa h0 n0 O0 (by omega) (by omega)) hZ (hw _ w_87) (hw _ w_86) (by decide) (by decide)) (g := (mkF m 3 #[vI (own_i oa), vI (own_i ga), vI (own_i pa), .unset] [(.int (own_i pa)), (.int (own_i ga)), (.int (own_i oa))])) rfl (by rw [hml]; rfl) (argsL := [(.int (own_i ga)), (.int (own_i pa))]) (rest := [(.int (own_i oa))]) (lenOf pd__II_I rfl) rfl (by show 2 * 0 + _ ≤ _; exact Nat.le_of_eq rfl) (hb hby d13_3) (fun _ _ => ⟨rfl, e0, (by decide : 0 + 0 ≤ _), (by decide : 0 + 0 ≤ _)⟩)
  dsimp only [Pt.U, Pt.locs, Pt.cells, Pt.slots] at X1 l1 y1 z1 st1 hQ1
  subst l1 y1 z1
  obtain ⟨rfl, N1q, eh1⟩ := hQ1
  have N1 := Fr.app N0 N1q
  have pre2 := fun tg_ (kt_ : Steps p.tables e below (T1.setTop (mkF m 7 #[vI (own_i oa), vI (own_i ga), vI (own_i pa), .unset] [(.int ((own_i oa) + (own_i (max ga pa))))])) tg_) => pre0 tg_ (by
    refine XS.iloadN X0.here hx rfl (hb hby d13_0) rfl ?_
    refine XS.iloadN X0.here hx rfl (hb hby d13_1) rfl ?_
    refine XS.iloadN X0.here hx rfl (hb hby d13_2) rfl ?_
    refine st1 _ ?_
    refine XS.iadd X1.here hx rfl (hb hby d13_6) rfl ?_
    exact kt_)
  have pre3 := fun tg_ (kt_ : Steps p.tables e below (T1.setTop (mkF m 7 #[vI (own_i oa), vI (own_i ga), vI (own_i pa), .unset] [(.int (own_i (oa + max ga pa)))])) tg_) => pre2 tg_ (by
    rw [show ((own_i oa) + (own_i (max ga pa))) = (own_i (oa + max ga pa)) from own_iadd _ _]
    exact kt_)
  obtain ⟨fs, hr, hrun, hended, hW, hsame⟩ := X1.leave (v := some (.int (own_i (oa + max ga pa)))) (fun h => by rw [Bd.returns] at h; cases h)
  refine ⟨_, _, pre3 _ ?_, hrun, hended, _, _, rfl, ?_, ⟨_, rfl⟩, hW, hsame.mono (by decide) (by decide)⟩
  · refine XS.istoreN X1.here hx rfl (hb hby d13_7) rfl (l' := #[vI (own_i oa), vI (own_i ga), vI (own_i pa), vI (own_i (oa + max ga pa))]) rfl ?_
    refine XS.iconst X1.here hx rfl (hb hby d13_8) ?_
    refine XS.iloadN X1.here hx rfl (hb hby d13_9) rfl ?_
    refine XS.icmpNo X1.here hx rfl (hb hby d13_10) rfl (tlt ((own_ilt (a := 0) (by decide) (by omega)).mpr (by omega) : (0 : Int32) < (own_i (oa + max ga pa)))).2.1 ?_
    refine XS.iloadN X1.here hx rfl (hb hby d13_13) rfl ?_
    refine X1.ldcInt hx hown (mvT hZ (hw _ w_88)) (g := (mkF m 14 #[vI (own_i oa), vI (own_i ga), vI (own_i pa), vI (own_i (oa + max ga pa))] [(.int (own_i (oa + max ga pa)))])) rfl (hb hby d13_14) _ ?_
    refine XS.icmpNo X1.here hx rfl (hb hby d13_16) rfl (flt (fun z => absurd ((own_ilt (a := 2147483639) (by decide) (by omega)).mp z) (by omega) : ¬ ((2147483639 : Int32) < (own_i (oa + max ga pa))))).2.2.1 ?_
    refine XS.iloadN X1.here hx rfl (hb hby d13_19) rfl ?_
    show Steps _ _ _ (T1.setTop (mkF m 20 #[vI (own_i oa), vI (own_i ga), vI (own_i pa), vI (own_i (oa + max ga pa))] [(.int (own_i (oa + max ga pa)))])) _
    exact retI X1 hx Bd.returns (hb hby d13_20) hr
  · show QnewLen Z oa ga pa h0 n0 _ T1.heap _
    rw [eh1]
    exact ⟨rfl, N1, rfl⟩
abbrev c12_ := jdk_68_method_10_code
theorem d12_0 : decode c12_ 0 = .ok (.aload_n 0, 1) := by decide +kernel
theorem w_42 : (Cond.fieldLink "java/lang/AbstractStringBuilder" (15 : Nat) "java/lang/AbstractStringBuilder" "value" "[B") ∈ tables_1 := List.mem_of_getElem? (i := 42) (by decide +kernel)
theorem d12_1 : decode c12_ 1 = .ok (.getfield 15, 3) := by decide +kernel
theorem d12_4 : decode c12_ 4 = .ok (.arraylength, 1) := by decide +kernel
theorem d12_5 : decode c12_ 5 = .ok (.istore_n 2, 1) := by decide +kernel
theorem d12_6 : decode c12_ 6 = .ok (.iload_n 1, 1) := by decide +kernel
theorem d12_7 : decode c12_ 7 = .ok (.aload_n 0, 1) := by decide +kernel
theorem w_44 : (Cond.fieldLink "java/lang/AbstractStringBuilder" (22 : Nat) "java/lang/AbstractStringBuilder" "coder" "B") ∈ tables_1 := List.mem_of_getElem? (i := 44) (by decide +kernel)
theorem d12_8 : decode c12_ 8 = .ok (.getfield 22, 3) := by decide +kernel
theorem d12_11 : decode c12_ 11 = .ok (.ishl, 1) := by decide +kernel
theorem d12_12 : decode c12_ 12 = .ok (.istore_n 3, 1) := by decide +kernel
theorem d12_13 : decode c12_ 13 = .ok (.iload_n 3, 1) := by decide +kernel
theorem d12_14 : decode c12_ 14 = .ok (.iload_n 2, 1) := by decide +kernel
theorem d12_15 : decode c12_ 15 = .ok (.isub, 1) := by decide +kernel
theorem d12_16 : decode c12_ 16 = .ok (.istore 4, 2) := by decide +kernel
theorem d12_18 : decode c12_ 18 = .ok (.iload_n 2, 1) := by decide +kernel
theorem d12_19 : decode c12_ 19 = .ok (.iload 4, 2) := by decide +kernel
theorem d12_21 : decode c12_ 21 = .ok (.iload_n 2, 1) := by decide +kernel
theorem d12_22 : decode c12_ 22 = .ok (.iconst 2, 1) := by decide +kernel
theorem d12_23 : decode c12_ 23 = .ok (.aload_n 0, 1) := by decide +kernel
theorem d12_24 : decode c12_ 24 = .ok (.getfield 22, 3) := by decide +kernel
theorem d12_27 : decode c12_ 27 = .ok (.ishl, 1) := by decide +kernel
theorem d12_28 : decode c12_ 28 = .ok (.iadd, 1) := by decide +kernel
theorem w_80 : (Cond.methodLink "java/lang/AbstractStringBuilder" (114 : Nat) mN15) ∈ tables_1 := List.mem_of_getElem? (i := 80) (by decide +kernel)
theorem w_83 : (Cond.code mN15 jdk_48_method_27_code (4 : Nat) (Option.some FieldType.int)) ∈ tables_1 := List.mem_of_getElem? (i := 83) (by decide +kernel)
theorem w_82 : (Cond.initialized "jdk/internal/util/ArraysSupport") ∈ tables_1 := List.mem_of_getElem? (i := 82) (by decide +kernel)
theorem pd__III_I : parseMethodDescriptor "(III)I" = some ⟨[.int, .int, .int], some .int⟩ := by decide +kernel
theorem d12_29 : decode c12_ 29 = .ok (.invokestatic 114, 3) := by decide +kernel
theorem w_81 : (Cond.static mN15) ∈ tables_1 := List.mem_of_getElem? (i := 81) (by decide +kernel)
theorem d12_32 : decode c12_ 32 = .ok (.istore 5, 2) := by decide +kernel
theorem d12_34 : decode c12_ 34 = .ok (.iload 5, 2) := by decide +kernel
theorem w_89 : (Cond.constant "java/lang/AbstractStringBuilder" (39 : Nat) (2147483647 : Int32)) ∈ tables_1 := List.mem_of_getElem? (i := 89) (by decide +kernel)
theorem d12_36 : decode c12_ 36 = .ok (.ldc 39, 2) := by decide +kernel
theorem d12_38 : decode c12_ 38 = .ok (.if_icmp .ne 13, 3) := by decide +kernel
theorem d12_51 : decode c12_ 51 = .ok (.iload 5, 2) := by decide +kernel
theorem d12_53 : decode c12_ 53 = .ok (.aload_n 0, 1) := by decide +kernel
theorem d12_54 : decode c12_ 54 = .ok (.getfield 22, 3) := by decide +kernel
theorem d12_57 : decode c12_ 57 = .ok (.ishr, 1) := by decide +kernel
theorem d12_58 : decode c12_ 58 = .ok (.ireturn, 1) := by decide +kernel
abbrev mN16 : MethodName := ⟨"java/lang/AbstractStringBuilder", "newCapacity", "(I)I"⟩
theorem ef_newCap (m : MethodId) (x0 : Addr) (x1 : Int32) : entryFrame m #[(.ref x0), (.int x1)] 6 = mkF m 0 #[vR x0, vI x1, .unset, .unset, .unset, .unset] [] := by first | (simp [entryFrame, mkF, argsToLocals, Value.category]; done) | rfl
def QnewCap (Z : State) (b : Addr) (mm : Nat) (k : Nat) (cp : Nat) (vb : Addr) (kv : ClassId) (vs : List Value) (h0 : Heap) (n0 : Nat) (v : Option Value) (h : Heap) (L : List Loc) : Prop := v = some (.int (own_i (own_nc cp mm))) ∧ Fr n0 L ∧ h = h0
theorem pn_java_lang_AbstractStringBuilder : plainName "java/lang/AbstractStringBuilder" = true := by first | (simp [plainName, overriddenIn]; done) | decide +kernel
set_option maxRecDepth 65536 in
set_option maxHeartbeats 40000000 in
theorem rmnewCap (l : Launch) (Z : State) (a0 : Array Value) (hw : ∀ d ∈ tables_1, d.before a0 Z = true) (ws : List Jvm.Cond) (b : Addr) (mm : Nat) (k : Nat) (cp : Nat) (vb : Addr) (kv : ClassId) (vs : List Value) (h0 : Heap) (n0 : Nat) (O0 : Old Z n0 h0) (hp0 : Exa Z h0 b "java/lang/StringBuilder") (hp1 : Fld Z h0 b "java/lang/AbstractStringBuilder" "value" "[B" (.ref vb)) (hp2 : Fld Z h0 b "java/lang/AbstractStringBuilder" "coder" "B" (.int (own_i k))) (hp3 : Arv Z h0 vb kv .byte (own_i (own_wd k cp)) vs (.int 0)) (hk : (k ≤ 1)) (hcp : (cp ≤ 80)) (hmm : (mm ≤ 80)) (hlt : (cp < mm)) :
    MetFree l mN16 (head1 (Jvm.Cond.code mN16 jdk_68_method_10_code 6 (some .int) :: ws) ({ frames := 2, cells := 0, slots := 0, locals := 29 } : Room)) (fun as_ U => as_ = #[(.ref b), (.int (own_i mm))] ∧ Z.Warmed39 U.vm ∧ U.heap = h0) (fun _ _ _ _ _ => True) (fun _ U o U' => ∃ v L, o = .returned v ∧ QnewCap Z b mm k cp vb kv vs h0 n0 v U'.heap L ∧ FrameEnd U o U' L ({ frames := 2, cells := 0, slots := 0, locals := 29 } : Room).cells ({ frames := 2, cells := 0, slots := 0, locals := 29 } : Room).slots) := by
  refine MetFree.of_bodySF (plainFor_of_name pn_java_lang_AbstractStringBuilder) hisR ?_
  intro p e s m args below meth c s₁ Bd hml0 hP hK
  obtain ⟨rfl, hZ, hh⟩ := hP
  have hx := Bd.exec
  have hby := Bd.bytes
  have hml : c.maxLocals = 6 := hml0
  have hown : s.vm.findClass "java/lang/AbstractStringBuilder" = some m.cls := findClass_of_methodNamed Bd.named
  have hnm := (name_of_methodNamed Bd.named Bd.method).1
  have X0 : Stand p l e ({ frames := 2, cells := 0, slots := 0, locals := 29 } : Room) s m #[(.ref b), (.int (own_i mm))] below meth c s₁ [] 0 0 := Stand.of_body Bd
  have e0 : s₁.heap = h0 := by rw [← hh, Bd.state]; rfl
  have N0 := Fr.nil n0
  have Z0 := own_z0 O0
  have pre0 : ∀ tg_, Steps p.tables e below (s₁.setTop (mkF m 0 #[vR b, vI (own_i mm), .unset, .unset, .unset, .unset] [])) tg_ → Steps p.tables e below (s₁.setTop (entryFrame m #[(.ref b), (.int (own_i mm))] 6)) tg_ := fun tg_ kt_ => castTop (ef_newCap m b (own_i mm)) kt_
  obtain ⟨T1, X1, e1, st1⟩ := getF X0 hx hZ hown (host := "") (Or.inl (hw _ w_42)) Via.refl e0 hp1 (g := (mkF m 1 #[vR b, vI (own_i mm), .unset, .unset, .unset, .unset] [(.ref b)])) rfl rfl (hb hby d12_1)
  obtain ⟨cl2, Ar2, -, S2, Ng2, -, -⟩ := id hp3
  obtain ⟨T3, X3, e3, st3⟩ := getF X1 hx hZ hown (host := "") (Or.inl (hw _ w_44)) Via.refl e1 hp2 (g := (mkF m 8 #[vR b, vI (own_i mm), vI (own_i (own_wd k cp)), .unset, .unset, .unset] [(.ref b), (.int (own_i mm))])) rfl rfl (hb hby d12_8)
  have pre4 := fun tg_ (kt_ : Steps p.tables e below (T3.setTop (mkF m 12 #[vR b, vI (own_i mm), vI (own_i (own_wd k cp)), .unset, .unset, .unset] [(.int ((own_i mm) <<< ((own_i k) &&& 31)))])) tg_) => pre0 tg_ (by
    refine XS.aloadN X0.here hx rfl (hb hby d12_0) rfl rfl ?_
    refine st1 _ ?_
    refine X1.arraylength hx (by rw [e1]; exact Ar2.1) (State.isArrayOf_alike hZ.alike Ar2.2.1) (g := (mkF m 4 #[vR b, vI (own_i mm), .unset, .unset, .unset, .unset] [(.ref vb)])) rfl rfl (hb hby d12_4) _ ?_
    rw [len_of S2 Ng2]
    refine XS.istoreN X1.here hx rfl (hb hby d12_5) rfl (l' := #[vR b, vI (own_i mm), vI (own_i (own_wd k cp)), .unset, .unset, .unset]) rfl ?_
    refine XS.iloadN X1.here hx rfl (hb hby d12_6) rfl ?_
    refine XS.aloadN X1.here hx rfl (hb hby d12_7) rfl rfl ?_
    refine st3 _ ?_
    refine XS.ishl X3.here hx rfl (hb hby d12_11) rfl ?_
    exact kt_)
  have pre5 := fun tg_ (kt_ : Steps p.tables e below (T3.setTop (mkF m 12 #[vR b, vI (own_i mm), vI (own_i (own_wd k cp)), .unset, .unset, .unset] [(.int (own_i (own_wd k mm)))])) tg_) => pre4 tg_ (by
    rw [show ((own_i mm) <<< ((own_i k) &&& 31)) = (own_i (own_wd k mm)) from own_shlK _ hk]
    exact kt_)
  have pre6 := fun tg_ (kt_ : Steps p.tables e below (T3.setTop (mkF m 16 #[vR b, vI (own_i mm), vI (own_i (own_wd k cp)), vI (own_i (own_wd k mm)), .unset, .unset] [(.int ((own_i (own_wd k mm)) - (own_i (own_wd k cp))))])) tg_) => pre5 tg_ (by
    refine XS.istoreN X3.here hx rfl (hb hby d12_12) rfl (l' := #[vR b, vI (own_i mm), vI (own_i (own_wd k cp)), vI (own_i (own_wd k mm)), .unset, .unset]) rfl ?_
    refine XS.iloadN X3.here hx rfl (hb hby d12_13) rfl ?_
    refine XS.iloadN X3.here hx rfl (hb hby d12_14) rfl ?_
    refine XS.isub X3.here hx rfl (hb hby d12_15) rfl ?_
    exact kt_)
  have pre7 := fun tg_ (kt_ : Steps p.tables e below (T3.setTop (mkF m 16 #[vR b, vI (own_i mm), vI (own_i (own_wd k cp)), vI (own_i (own_wd k mm)), .unset, .unset] [(.int (own_i (own_wd k mm - own_wd k cp)))])) tg_) => pre6 tg_ (by
    rw [show ((own_i (own_wd k mm)) - (own_i (own_wd k cp))) = (own_i (own_wd k mm - own_wd k cp)) from own_isub (own_wdm.mpr (by omega))]
    exact kt_)
  obtain ⟨T8, X8, e8, st8⟩ := getF X3 hx hZ hown (host := "") (Or.inl (hw _ w_44)) Via.refl e3 hp2 (g := (mkF m 24 #[vR b, vI (own_i mm), vI (own_i (own_wd k cp)), vI (own_i (own_wd k mm)), vI (own_i (own_wd k mm - own_wd k cp)), .unset] [(.ref b), (.int 2), (.int (own_i (own_wd k cp))), (.int (own_i (own_wd k mm - own_wd k cp))), (.int (own_i (own_wd k cp)))])) rfl rfl (hb hby d12_24)
  have pre9 := fun tg_ (kt_ : Steps p.tables e below (T8.setTop (mkF m 28 #[vR b, vI (own_i mm), vI (own_i (own_wd k cp)), vI (own_i (own_wd k mm)), vI (own_i (own_wd k mm - own_wd k cp)), .unset] [(.int ((2 : Int32) <<< ((own_i k) &&& 31))), (.int (own_i (own_wd k cp))), (.int (own_i (own_wd k mm - own_wd k cp))), (.int (own_i (own_wd k cp)))])) tg_) => pre7 tg_ (by
    refine XS.istore X3.here hx rfl (hb hby d12_16) rfl (l' := #[vR b, vI (own_i mm), vI (own_i (own_wd k cp)), vI (own_i (own_wd k mm)), vI (own_i (own_wd k mm - own_wd k cp)), .unset]) rfl ?_
    refine XS.iloadN X3.here hx rfl (hb hby d12_18) rfl ?_
    refine XS.iload X3.here hx rfl (hb hby d12_19) rfl ?_
    refine XS.iloadN X3.here hx rfl (hb hby d12_21) rfl ?_
    refine XS.iconst X3.here hx rfl (hb hby d12_22) ?_
    refine XS.aloadN X3.here hx rfl (hb hby d12_23) rfl rfl ?_
    show Steps _ _ _ (T3.setTop (mkF m 24 #[vR b, vI (own_i mm), vI (own_i (own_wd k cp)), vI (own_i (own_wd k mm)), vI (own_i (own_wd k mm - own_wd k cp)), .unset] [(.ref b), (.int 2), (.int (own_i (own_wd k cp))), (.int (own_i (own_wd k mm - own_wd k cp))), (.int (own_i (own_wd k cp)))])) _
    refine st8 _ ?_
    refine XS.ishl X8.here hx rfl (hb hby d12_27) rfl ?_
    exact kt_)
  have pre10 := fun tg_ (kt_ : Steps p.tables e below (T8.setTop (mkF m 28 #[vR b, vI (own_i mm), vI (own_i (own_wd k cp)), vI (own_i (own_wd k mm)), vI (own_i (own_wd k mm - own_wd k cp)), .unset] [(.int (own_i (own_wd k 2))), (.int (own_i (own_wd k cp))), (.int (own_i (own_wd k mm - own_wd k cp))), (.int (own_i (own_wd k cp)))])) tg_) => pre9 tg_ (by
    rw [show ((2 : Int32) <<< ((own_i k) &&& 31)) = (own_i (own_wd k 2)) from own_shlK 2 hk]
    exact kt_)
  have pre11 := fun tg_ (kt_ : Steps p.tables e below (T8.setTop (mkF m 29 #[vR b, vI (own_i mm), vI (own_i (own_wd k cp)), vI (own_i (own_wd k mm)), vI (own_i (own_wd k mm - own_wd k cp)), .unset] [(.int ((own_i (own_wd k cp)) + (own_i (own_wd k 2)))), (.int (own_i (own_wd k mm - own_wd k cp))), (.int (own_i (own_wd k cp)))])) tg_) => pre10 tg_ (by
    refine XS.iadd X8.here hx rfl (hb hby d12_28) rfl ?_
    exact kt_)
  have pre12 := fun tg_ (kt_ : Steps p.tables e below (T8.setTop (mkF m 29 #[vR b, vI (own_i mm), vI (own_i (own_wd k cp)), vI (own_i (own_wd k mm)), vI (own_i (own_wd k mm - own_wd k cp)), .unset] [(.int (own_i (own_wd k cp + own_wd k 2))), (.int (own_i (own_wd k mm - own_wd k cp))), (.int (own_i (own_wd k cp)))])) tg_) => pre11 tg_ (by
    rw [show ((own_i (own_wd k cp)) + (own_i (own_wd k 2))) = (own_i (own_wd k cp + own_wd k 2)) from own_iadd _ _]
    exact kt_)
  obtain ⟨_, _, ⟨T13, L13, k13, n13⟩, -, X13, ⟨Lc13, hQ13, l13, y13, z13⟩, st13⟩ := Jvm.LawKit.callS X8 hx (y := mN15) hown (mvT hZ (hw _ w_80)) (mvT hZ (hw _ w_81)) (mvT hZ (hw _ w_82)) (mvT hZ (hw _ w_83)) (by decide) (backOf (W := 0) (rmnewLen l Z a0 hw [] (own_wd k cp) (own_wd k mm - own_wd k cp) (own_wd k cp + own_wd k 2) h0 n0 O0 (by have w1 := own_wd2 (k := k) cp; have w2 := own_wd2 (k := k) mm; have w3 := own_wd2 (k := k) 2; have w4 := own_wd2 (k := k) (own_nc cp mm); omega) (by have w1 := own_wd2 (k := k) cp; have w2 := own_wd2 (k := k) mm; have w3 := own_wd2 (k := k) 2; have w4 := own_wd2 (k := k) (own_nc cp mm); omega) (by have w1 := own_wd2 (k := k) cp; have w2 := own_wd2 (k := k) mm; have w3 := own_wd2 (k := k) 2; have w4 := own_wd2 (k := k) (own_nc cp mm); have w5 : 0 < own_wd k 2 := own_wdp k; omega)) hZ (hw _ w_83) (hw _ w_82) (by decide) (by decide)) (g := (mkF m 29 #[vR b, vI (own_i mm), vI (own_i (own_wd k cp)), vI (own_i (own_wd k mm)), vI (own_i (own_wd k mm - own_wd k cp)), .unset] [(.int (own_i (own_wd k cp + own_wd k 2))), (.int (own_i (own_wd k mm - own_wd k cp))), (.int (own_i (own_wd k cp)))])) rfl (by rw [hml]; rfl) (argsL := [(.int (own_i (own_wd k cp))), (.int (own_i (own_wd k mm - own_wd k cp))), (.int (own_i (own_wd k cp + own_wd k 2)))]) (rest := []) (lenOf pd__III_I rfl) rfl (by show 2 * 0 + _ ≤ _; exact Nat.le_of_eq rfl) (hb hby d12_29) (fun _ _ => ⟨rfl, e8, (by decide : 0 + 0 ≤ _), (by decide : 0 + 0 ≤ _)⟩)
  dsimp only [Pt.U, Pt.locs, Pt.cells, Pt.slots] at X13 l13 y13 z13 st13 hQ13
  subst l13 y13 z13
  obtain ⟨rfl, N13q, eh13⟩ := hQ13
  have N13 := Fr.app N0 N13q
  have pre14 := fun tg_ (kt_ : Steps p.tables e below (T13.setTop (mkF m 51 #[vR b, vI (own_i mm), vI (own_i (own_wd k cp)), vI (own_i (own_wd k mm)), vI (own_i (own_wd k mm - own_wd k cp)), vI (own_i ((own_wd k cp) + max (own_wd k mm - own_wd k cp) (own_wd k cp + own_wd k 2)))] [])) tg_) => pre12 tg_ (by
    refine st13 _ ?_
    refine XS.istore X13.here hx rfl (hb hby d12_32) rfl (l' := #[vR b, vI (own_i mm), vI (own_i (own_wd k cp)), vI (own_i (own_wd k mm)), vI (own_i (own_wd k mm - own_wd k cp)), vI (own_i ((own_wd k cp) + max (own_wd k mm - own_wd k cp) (own_wd k cp + own_wd k 2)))]) rfl ?_
    refine XS.iload X13.here hx rfl (hb hby d12_34) rfl ?_
    refine X13.ldcInt hx hown (mvT hZ (hw _ w_89)) (g := (mkF m 36 #[vR b, vI (own_i mm), vI (own_i (own_wd k cp)), vI (own_i (own_wd k mm)), vI (own_i (own_wd k mm - own_wd k cp)), vI (own_i ((own_wd k cp) + max (own_wd k mm - own_wd k cp) (own_wd k cp + own_wd k 2)))] [(.int (own_i ((own_wd k cp) + max (own_wd k mm - own_wd k cp) (own_wd k cp + own_wd k 2))))])) rfl (hb hby d12_36) _ ?_
    refine XS.icmpYes X13.here hx rfl (pc0 := 38) (pc' := 51) rfl (hb hby d12_38) rfl (feq (fun z => absurd ((own_ieq (b := 2147483647) (by have w1 := own_wd2 (k := k) cp; have w2 := own_wd2 (k := k) mm; have w3 := own_wd2 (k := k) 2; have w4 := own_wd2 (k := k) (own_nc cp mm); omega) (by decide)).mp z) (by have w1 := own_wd2 (k := k) cp; have w2 := own_wd2 (k := k) mm; have w3 := own_wd2 (k := k) 2; have w4 := own_wd2 (k := k) (own_nc cp mm); omega) : ¬ ((own_i ((own_wd k cp) + max (own_wd k mm - own_wd k cp) (own_wd k cp + own_wd k 2))) = (2147483647 : Int32)))).2 (by decide) (by decide) ?_
    exact kt_)
  have pre15 := fun tg_ (kt_ : Steps p.tables e below (T13.setTop (mkF m 51 #[vR b, vI (own_i mm), vI (own_i (own_wd k cp)), vI (own_i (own_wd k mm)), vI (own_i (own_wd k mm - own_wd k cp)), vI (own_i (own_wd k (own_nc cp mm)))] [])) tg_) => pre14 tg_ (by
    rw [show (own_i ((own_wd k cp) + max (own_wd k mm - own_wd k cp) (own_wd k cp + own_wd k 2))) = (own_i (own_wd k (own_nc cp mm))) from (congrArg own_i (by rw [own_wds (by omega), own_wda, own_wdx, own_wda]; rfl))]
    exact kt_)
  obtain ⟨T16, X16, e16, st16⟩ := getF X13 hx hZ hown (host := "") (Or.inl (hw _ w_44)) Via.refl eh13 hp2 (g := (mkF m 54 #[vR b, vI (own_i mm), vI (own_i (own_wd k cp)), vI (own_i (own_wd k mm)), vI (own_i (own_wd k mm - own_wd k cp)), vI (own_i (own_wd k (own_nc cp mm)))] [(.ref b), (.int (own_i (own_wd k (own_nc cp mm))))])) rfl rfl (hb hby d12_54)
  obtain ⟨fs, hr, hrun, hended, hW, hsame⟩ := X16.leave (v := some (.int ((own_i (own_wd k (own_nc cp mm))) >>> ((own_i k) &&& 31)))) (fun h => by rw [Bd.returns] at h; cases h)
  refine ⟨_, _, pre15 _ ?_, hrun, hended, _, _, rfl, ?_, ⟨_, rfl⟩, hW, hsame.mono (by decide) (by decide)⟩
  · refine XS.iload X13.here hx rfl (hb hby d12_51) rfl ?_
    refine XS.aloadN X13.here hx rfl (hb hby d12_53) rfl rfl ?_
    refine st16 _ ?_
    refine XS.ishr X16.here hx rfl (hb hby d12_57) rfl ?_
    show Steps _ _ _ (T16.setTop (mkF m 58 #[vR b, vI (own_i mm), vI (own_i (own_wd k cp)), vI (own_i (own_wd k mm)), vI (own_i (own_wd k mm - own_wd k cp)), vI (own_i (own_wd k (own_nc cp mm)))] [(.int ((own_i (own_wd k (own_nc cp mm))) >>> ((own_i k) &&& 31)))])) _
    exact retI X16 hx Bd.returns (hb hby d12_58) hr
  · show QnewCap Z b mm k cp vb kv vs h0 n0 _ T16.heap _
    rw [e16]
    exact ⟨(own_ret (congrArg Value.int (own_shrK hk (by have w6 : own_nc cp mm ≤ 500 := (by unfold own_nc; omega); have w1 := own_wd2 (k := k) cp; have w2 := own_wd2 (k := k) mm; have w3 := own_wd2 (k := k) 2; have w4 := own_wd2 (k := k) (own_nc cp mm); omega)))), N13, rfl⟩
abbrev c15_ := jdk_65_method_121_code
theorem d15_0 : decode c15_ 0 = .ok (.iload_n 1, 1) := by decide +kernel
theorem d15_1 : decode c15_ 1 = .ok (.aload_n 0, 1) := by decide +kernel
theorem d15_2 : decode c15_ 2 = .ok (.arraylength, 1) := by decide +kernel
theorem d15_3 : decode c15_ 3 = .ok (.if_icmp .ne 11, 3) := by decide +kernel
theorem d15_14 : decode c15_ 14 = .ok (.iload_n 1, 1) := by decide +kernel
theorem d15_15 : decode c15_ 15 = .ok (.newarray .byte, 2) := by decide +kernel
theorem d15_17 : decode c15_ 17 = .ok (.astore_n 2, 1) := by decide +kernel
theorem d15_18 : decode c15_ 18 = .ok (.aload_n 0, 1) := by decide +kernel
theorem d15_19 : decode c15_ 19 = .ok (.iconst 0, 1) := by decide +kernel
theorem d15_20 : decode c15_ 20 = .ok (.aload_n 2, 1) := by decide +kernel
theorem d15_21 : decode c15_ 21 = .ok (.iconst 0, 1) := by decide +kernel
theorem d15_22 : decode c15_ 22 = .ok (.aload_n 0, 1) := by decide +kernel
theorem d15_23 : decode c15_ 23 = .ok (.arraylength, 1) := by decide +kernel
theorem d15_24 : decode c15_ 24 = .ok (.iload_n 1, 1) := by decide +kernel
theorem w_94 : (Cond.methodLink "java/util/Arrays" (304 : Nat) mN0) ∈ tables_1 := List.mem_of_getElem? (i := 94) (by decide +kernel)
theorem w_96 : (Cond.code mN0 jdk_29_method_69_code (2 : Nat) (Option.some FieldType.int)) ∈ tables_1 := List.mem_of_getElem? (i := 96) (by decide +kernel)
theorem d15_25 : decode c15_ 25 = .ok (.invokestatic 304, 3) := by decide +kernel
theorem w_95 : (Cond.static mN0) ∈ tables_1 := List.mem_of_getElem? (i := 95) (by decide +kernel)
abbrev mN17 : MethodName := ⟨"java/lang/System", "arraycopy", "(Ljava/lang/Object;ILjava/lang/Object;II)V"⟩
theorem w_97 : (Cond.methodLink "java/util/Arrays" (150 : Nat) mN17) ∈ tables_1 := List.mem_of_getElem? (i := 97) (by decide +kernel)
theorem w_100 : (Cond.native mN17) ∈ tables_1 := List.mem_of_getElem? (i := 100) (by decide +kernel)
theorem w_98 : (Cond.static mN17) ∈ tables_1 := List.mem_of_getElem? (i := 98) (by decide +kernel)
theorem w_99 : (Cond.initialized "java/lang/System") ∈ tables_1 := List.mem_of_getElem? (i := 99) (by decide +kernel)
theorem d15_28 : decode c15_ 28 = .ok (.invokestatic 150, 3) := by decide +kernel
theorem d15_31 : decode c15_ 31 = .ok (.aload_n 2, 1) := by decide +kernel
theorem d15_32 : decode c15_ 32 = .ok (.areturn, 1) := by decide +kernel
abbrev mN18 : MethodName := ⟨"java/util/Arrays", "copyOf", "([BI)[B"⟩
theorem ef_copyOfB (m : MethodId) (x0 : Addr) (x1 : Int32) : entryFrame m #[(.ref x0), (.int x1)] 3 = mkF m 0 #[vR x0, vI x1, .unset] [] := by first | (simp [entryFrame, mkF, argsToLocals, Value.category]; done) | rfl
def QcopyOfB (Z : State) (t : Addr) (gg : Nat) (n : Nat) (kt : ClassId) (xs : List Int32) (h0 : Heap) (n0 : Nat) (v : Option Value) (h : Heap) (L : List Loc) : Prop := ∃ (r : Addr), ∃ (kr : ClassId), v = some (.ref r) ∧ Fr n0 L ∧ Keep h0 h [] ∧ h0.size ≤ r ∧ Arv Z h r kr .byte (own_i gg) (xs.map Value.int) (.int 0)
theorem pn_java_util_Arrays : plainName "java/util/Arrays" = true := by first | (simp [plainName, overriddenIn]; done) | decide +kernel
set_option maxRecDepth 65536 in
set_option maxHeartbeats 40000000 in
theorem rmcopyOfB (l : Launch) (Z : State) (a0 : Array Value) (hw : ∀ d ∈ tables_1, d.before a0 Z = true) (ws : List Jvm.Cond) (t : Addr) (gg : Nat) (n : Nat) (kt : ClassId) (xs : List Int32) (h0 : Heap) (n0 : Nat) (O0 : Old Z n0 h0) (hp0 : Arv Z h0 t kt .byte (own_i n) (xs.map Value.int) (.int 0)) (hxl : (xs.length ≤ n)) (hng : (n < gg)) (hg : (gg ≤ 328)) :
    MetFree l mN18 (head1 (Jvm.Cond.code mN18 jdk_65_method_121_code 3 (some (.array .byte)) :: ws) ({ frames := 1, cells := 1, slots := 328, locals := 51 } : Room)) (fun as_ U => as_ = #[(.ref t), (.int (own_i gg))] ∧ Z.Warmed39 U.vm ∧ U.heap = h0) (fun _ _ _ _ _ => True) (fun _ U o U' => ∃ v L, o = .returned v ∧ QcopyOfB Z t gg n kt xs h0 n0 v U'.heap L ∧ FrameEnd U o U' L ({ frames := 1, cells := 1, slots := 328, locals := 51 } : Room).cells ({ frames := 1, cells := 1, slots := 328, locals := 51 } : Room).slots) := by
  refine MetFree.of_bodySF (plainFor_of_name pn_java_util_Arrays) hisR ?_
  intro p e s m args below meth c s₁ Bd hml0 hP hK
  obtain ⟨rfl, hZ, hh⟩ := hP
  have hx := Bd.exec
  have hby := Bd.bytes
  have hml : c.maxLocals = 3 := hml0
  have hown : s.vm.findClass "java/util/Arrays" = some m.cls := findClass_of_methodNamed Bd.named
  have hnm := (name_of_methodNamed Bd.named Bd.method).1
  have X0 : Stand p l e ({ frames := 1, cells := 1, slots := 328, locals := 51 } : Room) s m #[(.ref t), (.int (own_i gg))] below meth c s₁ [] 0 0 := Stand.of_body Bd
  have e0 : s₁.heap = h0 := by rw [← hh, Bd.state]; rfl
  have N0 := Fr.nil n0
  have Z0 := own_z0 O0
  have pre0 : ∀ tg_, Steps p.tables e below (s₁.setTop (mkF m 0 #[vR t, vI (own_i gg), .unset] [])) tg_ → Steps p.tables e below (s₁.setTop (entryFrame m #[(.ref t), (.int (own_i gg))] 3)) tg_ := fun tg_ kt_ => castTop (ef_copyOfB m t (own_i gg)) kt_
  obtain ⟨cl1, Ar1, -, S1, Ng1, -, -⟩ := id hp0
  obtain ⟨T2, h2, k2, X2, e2, E2, A2, st2⟩ := newP X0 hx hZ (hw (Jvm.Cond.arrayClass (newarray.typeOf .byte)) w_15) e0 (g := (mkF m 15 #[vR t, vI (own_i gg), .unset] [(.int (own_i gg))])) rfl (hb hby d15_15) rfl (own_inn (by omega)) (cap := 328) (by rw [own_inat (by omega)]; omega) (by decide) (by decide) (by decide)
  obtain ⟨b2, g2⟩ : ∃ z, z = h0.size := ⟨_, rfl⟩
  rw [← g2] at A2 st2
  have sz2 : h0.size ≤ b2 := Nat.le_trans (Keep.refl h0 []).1 (Nat.le_of_eq g2.symm)
  have gn2 : n0 ≤ b2 := Nat.le_trans Z0 sz2
  have O2 : Old Z n0 h2 := O0.ext E2
  have K2 : Keep h0 h2 [] := (Keep.refl h0 []).ext E2
  have V2 : Arv Z h2 b2 k2 .byte (own_i gg) [] (.int 0) := Arv.new A2 (own_inn (by omega))
  have Vp4 : Arv Z h2 b2 k2 .byte (own_i gg) ([] ++ List.replicate gg (Value.int (0 : Int32))) (.int 0) := (V2).pad (pad_rep [] _ _)
  obtain ⟨cl5, Ar5, -, S5, Ng5, -, -⟩ := id (hp0.ext E2)
  obtain ⟨_, _, ⟨T6, L6, k6, n6⟩, -, X6, ⟨Lc6, hQ6, l6, y6, z6⟩, st6⟩ := Jvm.LawKit.callS X2 hx (y := mN0) hown (mvT hZ (hw _ w_94)) (mvT hZ (hw _ w_95)) (mvT hZ (hw _ w_86)) (mvT hZ (hw _ w_96)) (by decide) (backOf (W := 4) (rmminL l Z a0 hw [] (own_i n) (own_i gg) h2 n0 O2 (by rw [own_ilt (by omega) (by omega)]; omega)) hZ (hw _ w_96) (hw _ w_86) (by decide) (by decide)) (g := (mkF m 25 #[vR t, vI (own_i gg), vR b2] [(.int (own_i gg)), (.int (own_i n)), (.int 0), (.ref b2), (.int 0), (.ref t)])) rfl (by rw [hml]; rfl) (argsL := [(.int (own_i n)), (.int (own_i gg))]) (rest := [(.int 0), (.ref b2), (.int 0), (.ref t)]) (lenOf pd__II_I rfl) rfl (by show 2 * 0 + _ ≤ _; exact Nat.le_of_eq rfl) (hb hby d15_25) (fun _ _ => ⟨rfl, e2, (by decide : 1 + 0 ≤ _), (by decide : 328 + 0 ≤ _)⟩)
  dsimp only [Pt.U, Pt.locs, Pt.cells, Pt.slots] at X6 l6 y6 z6 st6 hQ6
  subst l6 y6 z6
  obtain ⟨rfl, N6q, eh6⟩ := hQ6
  have N6 := Fr.app N0 N6q
  obtain ⟨T7, h7, L7, X7, e7, N7, Kc7, V7, st7⟩ := cpA X6 hx hZ hown (hw _ w_97) (hw _ w_100) (hw _ w_98) (hw _ w_99) eh6 (hp0.ext E2) Vp4 (us := (own_pad xs n)) (Or.inl ⟨rfl, rfl⟩) (by decide) (by decide) (own_inn (by omega)) (by rw [own_inat (by omega)]; show 0 + n ≤ n; omega) (by rw [own_inat (by omega), own_inat (by omega)]; show 0 + n ≤ gg; omega) (by rw [own_inat (by omega)]; rfl) (by rw [own_inat (by omega)]; simp; omega) N6 gn2 (g := (mkF m 28 #[vR t, vI (own_i gg), vR b2] [(.int (own_i n)), (.int 0), (.ref b2), (.int 0), (.ref t)])) rfl (by rw [hml]; rfl) rfl (hb hby d15_28) (by decide) (W := 0) (by show 2 * 0 + _ ≤ _; exact Nat.le_of_eq rfl) (by decide)
  have O7 : Old Z n0 h7 := O2.keep Kc7 (allS gn2 all0)
  have K7 : Keep h0 h7 [] := K2.trans Kc7 (allS (Or.inr sz2) all0)
  have Vc7 : Arv Z h7 b2 k2 .byte (own_i gg) (xs.map Value.int) (.int 0) := V7.pad (fun i => (own_padg xs hxl i).trans (by have z := own_cpT [] (own_pad xs n) (Value.int (0 : Int32)) (dp := 0) (nn := n) (cap := gg) rfl (own_padl xs n) i; rw [own_inat (by omega)]; exact z))
  obtain ⟨fs, hr, hrun, hended, hW, hsame⟩ := X7.leave (v := some (.ref b2)) (fun h => by rw [Bd.returns] at h; cases h)
  refine ⟨_, _, pre0 _ ?_, hrun, hended, _, _, rfl, ?_, ⟨_, rfl⟩, hW, hsame.mono (by decide) (by decide)⟩
  · refine XS.iloadN X0.here hx rfl (hb hby d15_0) rfl ?_
    refine XS.aloadN X0.here hx rfl (hb hby d15_1) rfl rfl ?_
    refine X0.arraylength hx (by rw [e0]; exact Ar1.1) (State.isArrayOf_alike hZ.alike Ar1.2.1) (g := (mkF m 2 #[vR t, vI (own_i gg), .unset] [(.ref t), (.int (own_i gg))])) rfl rfl (hb hby d15_2) _ ?_
    rw [len_of S1 Ng1]
    refine XS.icmpYes X0.here hx rfl (pc0 := 3) (pc' := 14) rfl (hb hby d15_3) rfl (feq (fun z => absurd ((own_ieq (by omega) (by omega)).mp z) (by omega) : ¬ ((own_i gg) = (own_i n)))).2 (by decide) (by decide) ?_
    refine XS.iloadN X0.here hx rfl (hb hby d15_14) rfl ?_
    refine st2 _ ?_
    refine XS.astoreN X2.here hx rfl (hb hby d15_17) rfl rfl (l' := #[vR t, vI (own_i gg), vR b2]) rfl ?_
    refine XS.aloadN X2.here hx rfl (hb hby d15_18) rfl rfl ?_
    refine XS.iconst X2.here hx rfl (hb hby d15_19) ?_
    refine XS.aloadN X2.here hx rfl (hb hby d15_20) rfl rfl ?_
    refine XS.iconst X2.here hx rfl (hb hby d15_21) ?_
    refine XS.aloadN X2.here hx rfl (hb hby d15_22) rfl rfl ?_
    show Steps _ _ _ (T2.setTop (mkF m 23 #[vR t, vI (own_i gg), vR b2] [(.ref t), (.int 0), (.ref b2), (.int 0), (.ref t)])) _
    refine X2.arraylength hx (by rw [e2]; exact Ar5.1) (State.isArrayOf_alike hZ.alike Ar5.2.1) (g := (mkF m 23 #[vR t, vI (own_i gg), vR b2] [(.ref t), (.int 0), (.ref b2), (.int 0), (.ref t)])) rfl rfl (hb hby d15_23) _ ?_
    rw [len_of S5 Ng5]
    refine XS.iloadN X2.here hx rfl (hb hby d15_24) rfl ?_
    refine st6 _ ?_
    refine st7 _ ?_
    refine XS.aloadN X7.here hx rfl (hb hby d15_31) rfl rfl ?_
    jvm_step X7.here [X7.here.top, hx, (hb hby d15_32), X7.method', Bd.returns, Value.isRef, FieldType.isReference]
    first | (intro acts; rw [hr _ acts rfl rfl rfl]) | rw [hr _ _ rfl rfl rfl]
    exact Steps.refl _
  · show QcopyOfB Z t gg n kt xs h0 n0 _ T7.heap _
    rw [e7]
    exact ⟨b2, k2, rfl, N7, K7, sz2, Vc7⟩
abbrev c11_ := jdk_68_method_9_code
theorem d11_0 : decode c11_ 0 = .ok (.aload_n 0, 1) := by decide +kernel
theorem d11_1 : decode c11_ 1 = .ok (.getfield 15, 3) := by decide +kernel
theorem d11_4 : decode c11_ 4 = .ok (.arraylength, 1) := by decide +kernel
theorem d11_5 : decode c11_ 5 = .ok (.aload_n 0, 1) := by decide +kernel
theorem d11_6 : decode c11_ 6 = .ok (.getfield 22, 3) := by decide +kernel
theorem d11_9 : decode c11_ 9 = .ok (.ishr, 1) := by decide +kernel
theorem d11_10 : decode c11_ 10 = .ok (.istore_n 2, 1) := by decide +kernel
theorem d11_11 : decode c11_ 11 = .ok (.iload_n 1, 1) := by decide +kernel
theorem d11_12 : decode c11_ 12 = .ok (.iload_n 2, 1) := by decide +kernel
theorem d11_13 : decode c11_ 13 = .ok (.isub, 1) := by decide +kernel
theorem d11_14 : decode c11_ 14 = .ok (.ifCond .le 24, 3) := by decide +kernel
theorem d11_17 : decode c11_ 17 = .ok (.aload_n 0, 1) := by decide +kernel
theorem d11_18 : decode c11_ 18 = .ok (.aload_n 0, 1) := by decide +kernel
theorem d11_19 : decode c11_ 19 = .ok (.getfield 15, 3) := by decide +kernel
theorem d11_22 : decode c11_ 22 = .ok (.aload_n 0, 1) := by decide +kernel
theorem d11_23 : decode c11_ 23 = .ok (.iload_n 1, 1) := by decide +kernel
theorem w_75 : (Cond.methodLink "java/lang/AbstractStringBuilder" (104 : Nat) mN16) ∈ tables_1 := List.mem_of_getElem? (i := 75) (by decide +kernel)
theorem w_79 : (Cond.code mN16 jdk_68_method_10_code (6 : Nat) (Option.some FieldType.int)) ∈ tables_1 := List.mem_of_getElem? (i := 79) (by decide +kernel)
theorem w_38 : (Cond.initialized "java/lang/AbstractStringBuilder") ∈ tables_1 := List.mem_of_getElem? (i := 38) (by decide +kernel)
theorem d11_24 : decode c11_ 24 = .ok (.invokevirtual 104, 3) := by decide +kernel
theorem w_78 : (Cond.selects "java/lang/StringBuilder" mN16 mN16) ∈ tables_1 := List.mem_of_getElem? (i := 78) (by decide +kernel)
theorem w_77 : (Cond.privateMethod mN16) ∈ tables_1 := List.mem_of_getElem? (i := 77) (by decide +kernel)
theorem w_76 : (Cond.instanceMethod mN16) ∈ tables_1 := List.mem_of_getElem? (i := 76) (by decide +kernel)
theorem d11_27 : decode c11_ 27 = .ok (.aload_n 0, 1) := by decide +kernel
theorem d11_28 : decode c11_ 28 = .ok (.getfield 22, 3) := by decide +kernel
theorem d11_31 : decode c11_ 31 = .ok (.ishl, 1) := by decide +kernel
theorem w_90 : (Cond.methodLink "java/lang/AbstractStringBuilder" (108 : Nat) mN18) ∈ tables_1 := List.mem_of_getElem? (i := 90) (by decide +kernel)
theorem w_93 : (Cond.code mN18 jdk_65_method_121_code (3 : Nat) (Option.some (FieldType.array FieldType.byte))) ∈ tables_1 := List.mem_of_getElem? (i := 93) (by decide +kernel)
theorem w_92 : (Cond.initialized "java/util/Arrays") ∈ tables_1 := List.mem_of_getElem? (i := 92) (by decide +kernel)
theorem pd__ABI_AB : parseMethodDescriptor "([BI)[B" = some ⟨[(.array .byte), .int], some (.array .byte)⟩ := by decide +kernel
theorem d11_32 : decode c11_ 32 = .ok (.invokestatic 108, 3) := by decide +kernel
theorem w_91 : (Cond.static mN18) ∈ tables_1 := List.mem_of_getElem? (i := 91) (by decide +kernel)
theorem w_43 : (Cond.lays "java/lang/StringBuilder" "java/lang/AbstractStringBuilder" "value" "[B") ∈ tables_1 := List.mem_of_getElem? (i := 43) (by decide +kernel)
theorem w_29 : (Cond.instantiable "java/lang/StringBuilder" (4 : Nat)) ∈ tables_1 := List.mem_of_getElem? (i := 29) (by decide +kernel)
theorem d11_35 : decode c11_ 35 = .ok (.putfield 15, 3) := by decide +kernel
theorem d11_38 : decode c11_ 38 = .ok (.return_, 1) := by decide +kernel
theorem w_45 : (Cond.lays "java/lang/StringBuilder" "java/lang/AbstractStringBuilder" "coder" "B") ∈ tables_1 := List.mem_of_getElem? (i := 45) (by decide +kernel)
theorem w_69 : (Cond.lays "java/lang/StringBuilder" "java/lang/AbstractStringBuilder" "count" "I") ∈ tables_1 := List.mem_of_getElem? (i := 69) (by decide +kernel)
theorem w_294 : (Cond.lays "java/lang/StringBuilder" "java/lang/AbstractStringBuilder" "maybeLatin1" "Z") ∈ tables_1 := List.mem_of_getElem? (i := 294) (by decide +kernel)
abbrev mN19 : MethodName := ⟨"java/lang/AbstractStringBuilder", "ensureCapacityInternal", "(I)V"⟩
theorem ef_ensCap (m : MethodId) (x0 : Addr) (x1 : Int32) : entryFrame m #[(.ref x0), (.int x1)] 3 = mkF m 0 #[vR x0, vI x1, .unset] [] := by first | (simp [entryFrame, mkF, argsToLocals, Value.category]; done) | rfl
def QensCap (Z : State) (b : Addr) (mm : Nat) (k : Nat) (cp : Nat) (vb : Addr) (kv : ClassId) (xs : List Int32) (u1 : Value) (u2 : Value) (h0 : Heap) (n0 : Nat) (v : Option Value) (h : Heap) (L : List Loc) : Prop := ∃ (vb2 : Addr), ∃ (kv2 : ClassId), v = none ∧ Fr n0 L ∧ Keep h0 h [b] ∧ Exa Z h b "java/lang/StringBuilder" ∧ Fld Z h b "java/lang/AbstractStringBuilder" "value" "[B" (.ref vb2) ∧ (vb2 = vb ∨ h0.size ≤ vb2) ∧ Fld Z h b "java/lang/AbstractStringBuilder" "coder" "B" (.int (own_i k)) ∧ Arv Z h vb2 kv2 .byte (own_i (own_wd k (own_ec cp mm))) (xs.map Value.int) (.int 0) ∧ Fld Z h b "java/lang/AbstractStringBuilder" "count" "I" u1 ∧ Fld Z h b "java/lang/AbstractStringBuilder" "maybeLatin1" "Z" u2
set_option maxRecDepth 65536 in
set_option maxHeartbeats 40000000 in
theorem rmensCap (l : Launch) (Z : State) (a0 : Array Value) (hw : ∀ d ∈ tables_1, d.before a0 Z = true) (ws : List Jvm.Cond) (b : Addr) (mm : Nat) (k : Nat) (cp : Nat) (vb : Addr) (kv : ClassId) (xs : List Int32) (u1 : Value) (u2 : Value) (h0 : Heap) (n0 : Nat) (O0 : Old Z n0 h0) (hp0 : Exa Z h0 b "java/lang/StringBuilder") (hp1 : Fld Z h0 b "java/lang/AbstractStringBuilder" "value" "[B" (.ref vb)) (hp2 : Fld Z h0 b "java/lang/AbstractStringBuilder" "coder" "B" (.int (own_i k))) (hp3 : Arv Z h0 vb kv .byte (own_i (own_wd k cp)) (xs.map Value.int) (.int 0)) (hp4 : n0 ≤ b) (hp5 : Fld Z h0 b "java/lang/AbstractStringBuilder" "count" "I" u1) (hp6 : Fld Z h0 b "java/lang/AbstractStringBuilder" "maybeLatin1" "Z" u2) (hk : (k ≤ 1)) (hcp : (cp ≤ 80)) (hmm : (mm ≤ 80)) (hxl : (xs.length ≤ own_wd k cp)) :
    MetFree l mN19 (head1 (Jvm.Cond.code mN19 jdk_68_method_9_code 3 none :: ws) ({ frames := 3, cells := 1, slots := 328, locals := 66 } : Room)) (fun as_ U => as_ = #[(.ref b), (.int (own_i mm))] ∧ Z.Warmed39 U.vm ∧ U.heap = h0) (fun _ _ _ _ _ => True) (fun _ U o U' => ∃ v L, o = .returned v ∧ QensCap Z b mm k cp vb kv xs u1 u2 h0 n0 v U'.heap L ∧ FrameEnd U o U' L ({ frames := 3, cells := 1, slots := 328, locals := 66 } : Room).cells ({ frames := 3, cells := 1, slots := 328, locals := 66 } : Room).slots) := by
  refine MetFree.of_bodySF (plainFor_of_name pn_java_lang_AbstractStringBuilder) hisR ?_
  intro p e s m args below meth c s₁ Bd hml0 hP hK
  obtain ⟨rfl, hZ, hh⟩ := hP
  have hx := Bd.exec
  have hby := Bd.bytes
  have hml : c.maxLocals = 3 := hml0
  have hown : s.vm.findClass "java/lang/AbstractStringBuilder" = some m.cls := findClass_of_methodNamed Bd.named
  have hnm := (name_of_methodNamed Bd.named Bd.method).1
  have X0 : Stand p l e ({ frames := 3, cells := 1, slots := 328, locals := 66 } : Room) s m #[(.ref b), (.int (own_i mm))] below meth c s₁ [] 0 0 := Stand.of_body Bd
  have e0 : s₁.heap = h0 := by rw [← hh, Bd.state]; rfl
  have N0 := Fr.nil n0
  have Z0 := own_z0 O0
  have pre0 : ∀ tg_, Steps p.tables e below (s₁.setTop (mkF m 0 #[vR b, vI (own_i mm), .unset] [])) tg_ → Steps p.tables e below (s₁.setTop (entryFrame m #[(.ref b), (.int (own_i mm))] 3)) tg_ := fun tg_ kt_ => castTop (ef_ensCap m b (own_i mm)) kt_
  obtain ⟨T1, X1, e1, st1⟩ := getF X0 hx hZ hown (host := "") (Or.inl (hw _ w_42)) Via.refl e0 hp1 (g := (mkF m 1 #[vR b, vI (own_i mm), .unset] [(.ref b)])) rfl rfl (hb hby d11_1)
  obtain ⟨cl2, Ar2, -, S2, Ng2, -, -⟩ := id hp3
  obtain ⟨T3, X3, e3, st3⟩ := getF X1 hx hZ hown (host := "") (Or.inl (hw _ w_44)) Via.refl e1 hp2 (g := (mkF m 6 #[vR b, vI (own_i mm), .unset] [(.ref b), (.int (own_i (own_wd k cp)))])) rfl rfl (hb hby d11_6)
  have pre4 := fun tg_ (kt_ : Steps p.tables e below (T3.setTop (mkF m 10 #[vR b, vI (own_i mm), .unset] [(.int ((own_i (own_wd k cp)) >>> ((own_i k) &&& 31)))])) tg_) => pre0 tg_ (by
    refine XS.aloadN X0.here hx rfl (hb hby d11_0) rfl rfl ?_
    refine st1 _ ?_
    refine X1.arraylength hx (by rw [e1]; exact Ar2.1) (State.isArrayOf_alike hZ.alike Ar2.2.1) (g := (mkF m 4 #[vR b, vI (own_i mm), .unset] [(.ref vb)])) rfl rfl (hb hby d11_4) _ ?_
    rw [len_of S2 Ng2]
    refine XS.aloadN X1.here hx rfl (hb hby d11_5) rfl rfl ?_
    refine st3 _ ?_
    refine XS.ishr X3.here hx rfl (hb hby d11_9) rfl ?_
    exact kt_)
  have pre5 := fun tg_ (kt_ : Steps p.tables e below (T3.setTop (mkF m 10 #[vR b, vI (own_i mm), .unset] [(.int (own_i cp))])) tg_) => pre4 tg_ (by
    rw [show ((own_i (own_wd k cp)) >>> ((own_i k) &&& 31)) = (own_i cp) from own_shrK hk (by have w1 := own_wd2 (k := k) cp; omega)]
    exact kt_)
  have pre6 := fun tg_ (kt_ : Steps p.tables e below (T3.setTop (mkF m 14 #[vR b, vI (own_i mm), vI (own_i cp)] [(.int ((own_i mm) - (own_i cp)))])) tg_) => pre5 tg_ (by
    refine XS.istoreN X3.here hx rfl (hb hby d11_10) rfl (l' := #[vR b, vI (own_i mm), vI (own_i cp)]) rfl ?_
    refine XS.iloadN X3.here hx rfl (hb hby d11_11) rfl ?_
    refine XS.iloadN X3.here hx rfl (hb hby d11_12) rfl ?_
    refine XS.isub X3.here hx rfl (hb hby d11_13) rfl ?_
    exact kt_)
  by_cases hc7 : (0 : Int32) < ((own_i mm) - (own_i cp))
  · obtain ⟨T8, X8, e8, st8⟩ := getF X3 hx hZ hown (host := "") (Or.inl (hw _ w_42)) Via.refl e3 hp1 (g := (mkF m 19 #[vR b, vI (own_i mm), vI (own_i cp)] [(.ref b), (.ref b)])) rfl rfl (hb hby d11_19)
    obtain ⟨cq9, q9, q9'⟩ := hp0.cell
    obtain ⟨_, _, ⟨T9, L9, k9, n9⟩, -, X9, ⟨Lc9, hQ9, l9, y9, z9⟩, st9⟩ := X8.privateBack hx (y := mN16) hown (mvT hZ (hw _ w_75)) (mvT hZ (hw _ w_76)) (mvT hZ (own_selfPriv (hw _ w_78) (hw _ w_77) (hw _ w_76) (by decide))) (Cond.privateMethod_at (mvP hZ (hw _ w_77) (args := #[]))) (mvT hZ (hw _ w_79)) (by decide) (backOf (W := 2) (rmnewCap l Z a0 hw [] b mm k cp vb kv (xs.map Value.int) h0 n0 O0 hp0 hp1 hp2 hp3 hk hcp hmm ((own_subpos (by omega) (by omega)).mp hc7)) hZ (hw _ w_79) (hw _ w_38) (by decide) (by decide)) (g := (mkF m 24 #[vR b, vI (own_i mm), vI (own_i cp)] [(.int (own_i mm)), (.ref b), (.ref vb), (.ref b)])) rfl (by rw [hml]; rfl) (Steps.refl _) (a := b) (by rw [e8]; exact q9) q9' (argsL := [(.int (own_i mm))]) (rest := [(.ref vb), (.ref b)]) (lenOf pd__I_I rfl) rfl (by show 2 * 0 + _ ≤ _; exact Nat.le_of_eq rfl) (hb hby d11_24) (fun _ _ => ⟨rfl, e8, (by decide : 0 + 0 ≤ _), (by decide : 0 + 0 ≤ _)⟩)
    dsimp only [Pt.U, Pt.locs, Pt.cells, Pt.slots] at X9 l9 y9 z9 st9 hQ9
    subst l9 y9 z9
    obtain ⟨rfl, N9q, eh9⟩ := hQ9
    have N9 := Fr.app N0 N9q
    obtain ⟨T10, X10, e10, st10⟩ := getF X9 hx hZ hown (host := "") (Or.inl (hw _ w_44)) Via.refl eh9 hp2 (g := (mkF m 28 #[vR b, vI (own_i mm), vI (own_i cp)] [(.ref b), (.int (own_i (own_nc cp mm))), (.ref vb), (.ref b)])) rfl rfl (hb hby d11_28)
    have pre11 := fun tg_ (kt_ : Steps p.tables e below (T10.setTop (mkF m 32 #[vR b, vI (own_i mm), vI (own_i cp)] [(.int ((own_i (own_nc cp mm)) <<< ((own_i k) &&& 31))), (.ref vb), (.ref b)])) tg_) => pre6 tg_ (by
      refine XS.ifNo X3.here hx rfl (hb hby d11_14) rfl ((if0 _ _).trans (tlt hc7).2.2.2) ?_
      refine XS.aloadN X3.here hx rfl (hb hby d11_17) rfl rfl ?_
      refine XS.aloadN X3.here hx rfl (hb hby d11_18) rfl rfl ?_
      show Steps _ _ _ (T3.setTop (mkF m 19 #[vR b, vI (own_i mm), vI (own_i cp)] [(.ref b), (.ref b)])) _
      refine st8 _ ?_
      refine XS.aloadN X8.here hx rfl (hb hby d11_22) rfl rfl ?_
      refine XS.iloadN X8.here hx rfl (hb hby d11_23) rfl ?_
      refine st9.trans ?_
      refine XS.aloadN X9.here hx rfl (hb hby d11_27) rfl rfl ?_
      refine st10 _ ?_
      refine XS.ishl X10.here hx rfl (hb hby d11_31) rfl ?_
      exact kt_)
    have pre12 := fun tg_ (kt_ : Steps p.tables e below (T10.setTop (mkF m 32 #[vR b, vI (own_i mm), vI (own_i cp)] [(.int (own_i (own_wd k (own_nc cp mm)))), (.ref vb), (.ref b)])) tg_) => pre11 tg_ (by
      rw [show ((own_i (own_nc cp mm)) <<< ((own_i k) &&& 31)) = (own_i (own_wd k (own_nc cp mm))) from own_shlK _ hk]
      exact kt_)
    obtain ⟨_, _, ⟨T13, L13, k13, n13⟩, -, X13, ⟨Lc13, hQ13, l13, y13, z13⟩, st13⟩ := Jvm.LawKit.callS X10 hx (y := mN18) hown (mvT hZ (hw _ w_90)) (mvT hZ (hw _ w_91)) (mvT hZ (hw _ w_92)) (mvT hZ (hw _ w_93)) (by decide) (backOf (W := 1) (rmcopyOfB l Z a0 hw [] vb (own_wd k (own_nc cp mm)) (own_wd k cp) kv xs h0 n0 O0 hp3 hxl (Nat.lt_of_not_le fun z => by have y := own_wdm.mp z; have u := (own_subpos (by omega) (by omega)).mp hc7; unfold own_nc at y; omega) (by have w4 := own_wd2 (k := k) (own_nc cp mm); have w6 : own_nc cp mm ≤ 164 := (by unfold own_nc; omega); omega)) hZ (hw _ w_93) (hw _ w_92) (by decide) (by decide)) (g := (mkF m 32 #[vR b, vI (own_i mm), vI (own_i cp)] [(.int (own_i (own_wd k (own_nc cp mm)))), (.ref vb), (.ref b)])) rfl (by rw [hml]; rfl) (argsL := [(.ref vb), (.int (own_i (own_wd k (own_nc cp mm))))]) (rest := [(.ref b)]) (lenOf pd__ABI_AB rfl) rfl (by show 2 * 0 + _ ≤ _; exact Nat.le_of_eq rfl) (hb hby d11_32) (fun _ _ => ⟨rfl, e10, (by decide : 0 + 1 ≤ _), (by decide : 0 + 328 ≤ _)⟩)
    dsimp only [Pt.U, Pt.locs, Pt.cells, Pt.slots] at X13 l13 y13 z13 st13 hQ13
    subst l13 y13 z13
    obtain ⟨r_13, kr_13, rfl, N13q, Kc13, r13_1, r13_2⟩ := hQ13
    have N13 := Fr.app N9 N13q
    have sz14 : h0.size ≤ r_13 := Nat.le_trans (Keep.refl h0 [b]).1 r13_1
    have gn14 : n0 ≤ r_13 := Nat.le_trans Z0 sz14
    have O13 : Old Z n0 T13.heap := O0.keep Kc13 all0
    have K13 : Keep h0 T13.heap [b] := (Keep.refl h0 [b]).trans Kc13 all0
    obtain ⟨T16, h16, X16, e16, W16, st16⟩ := putF X13 hx hZ hown (host := "") (Or.inl (hw _ w_42)) Via.refl rfl (hp1.keep Kc13 nin0) (hp0.keep Kc13) (Or.inl (hw _ w_43)) (hw _ w_29) (ty := (.array .byte)) (by decide) rfl rfl (g := (mkF m 35 #[vR b, vI (own_i mm), vI (own_i cp)] [(.ref r_13), (.ref b)])) rfl rfl (hb hby d11_35)
    have Fw16 := (hp1.keep Kc13 nin0).same W16
    have N16 := Fr.snoc X16 N13 hp4
    have O16 : Old Z n0 h16 := O13.wr W16 hp4
    have K16 : Keep h0 h16 [b] := K13.wr W16 (Or.inl (List.mem_of_getElem? (i := 0) rfl))
    obtain ⟨fs, hr, hrun, hended, hW, hsame⟩ := X16.leave (v := none) (fun _ => rfl)
    refine ⟨_, _, pre12 _ ?_, hrun, hended, _, _, rfl, ?_, ⟨_, rfl⟩, hW, hsame.mono (by decide) (by decide)⟩
    · refine st13 _ ?_
      refine st16 _ ?_
      exact X16.returnOut hx Bd.returns (hb hby d11_38) hr
    · show QensCap Z b mm k cp vb kv xs u1 u2 h0 n0 _ T16.heap _
      rw [e16]
      exact ⟨r_13, kr_13, rfl, N16, K16, ((hp0.keep Kc13).wr W16), Fw16, (Or.inr sz14), ((hp2.keep Kc13 nin0).other W16 (Or.inr (slot_ne (Or.inl (hw _ w_45)) (Or.inl (hw _ w_43)) (by decide) (t := .byte) (t' := (.array .byte)) (by decide) (by decide)))), (by rw [own_ecn ((own_subpos (by omega) (by omega)).mp hc7)]; exact (r13_2.other W16 (Ne.symm (Nat.ne_of_lt (Nat.lt_of_lt_of_le hp0.lt r13_1))))), ((hp5.keep Kc13 nin0).other W16 (Or.inr (slot_ne (Or.inl (hw _ w_69)) (Or.inl (hw _ w_43)) (by decide) (t := .int) (t' := (.array .byte)) (by decide) (by decide)))), ((hp6.keep Kc13 nin0).other W16 (Or.inr (slot_ne (Or.inl (hw _ w_294)) (Or.inl (hw _ w_43)) (by decide) (t := .boolean) (t' := (.array .byte)) (by decide) (by decide))))⟩
  · obtain ⟨fs, hr, hrun, hended, hW, hsame⟩ := X3.leave (v := none) (fun _ => rfl)
    refine ⟨_, _, pre6 _ ?_, hrun, hended, _, _, rfl, ?_, ⟨_, rfl⟩, hW, hsame.mono (by decide) (by decide)⟩
    · refine XS.ifYes X3.here hx rfl (pc0 := 14) (pc' := 38) rfl (hb hby d11_14) rfl ((if0 _ _).trans (flt hc7).2.2.2) (by decide) (by decide) ?_
      show Steps _ _ _ (T3.setTop (mkF m 38 #[vR b, vI (own_i mm), vI (own_i cp)] [])) _
      exact X3.returnOut hx Bd.returns (hb hby d11_38) hr
    · show QensCap Z b mm k cp vb kv xs u1 u2 h0 n0 _ T3.heap _
      rw [e3]
      exact ⟨vb, kv, rfl, N0, (Keep.refl h0 [b]), hp0, hp1, (Or.inl rfl), hp2, (by rw [own_ecp (Nat.le_of_not_lt fun z => hc7 ((own_subpos (by omega) (by omega)).mpr z))]; exact hp3), hp5, hp6⟩
abbrev c54_ := jdk_41_method_13_code
theorem d54_0 : decode c54_ 0 = .ok (.iload_n 2, 1) := by decide +kernel
theorem d54_1 : decode c54_ 1 = .ok (.iload_n 0, 1) := by decide +kernel
theorem d54_2 : decode c54_ 2 = .ok (.ior, 1) := by decide +kernel
theorem d54_3 : decode c54_ 3 = .ok (.iload_n 1, 1) := by decide +kernel
theorem d54_4 : decode c54_ 4 = .ok (.ior, 1) := by decide +kernel
theorem d54_5 : decode c54_ 5 = .ok (.ifCond .lt 10, 3) := by decide +kernel
theorem d54_8 : decode c54_ 8 = .ok (.iload_n 1, 1) := by decide +kernel
theorem d54_9 : decode c54_ 9 = .ok (.iload_n 2, 1) := by decide +kernel
theorem d54_10 : decode c54_ 10 = .ok (.iload_n 0, 1) := by decide +kernel
theorem d54_11 : decode c54_ 11 = .ok (.isub, 1) := by decide +kernel
theorem d54_12 : decode c54_ 12 = .ok (.if_icmp .le 11, 3) := by decide +kernel
theorem d54_23 : decode c54_ 23 = .ok (.iload_n 0, 1) := by decide +kernel
theorem d54_24 : decode c54_ 24 = .ok (.ireturn, 1) := by decide +kernel
abbrev mN20 : MethodName := ⟨"jdk/internal/util/Preconditions", "checkFromIndexSize", "(IIILjava/util/function/BiFunction;)I"⟩
theorem ef_pcfs (m : MethodId) (x0 : Int32) (x1 : Int32) (x2 : Int32) (x3 : Value) (hx3 : x3.isRef = true) : entryFrame m #[(.int x0), (.int x1), (.int x2), x3] 4 = mkF m 0 #[vI x0, vI x1, vI x2, .val x3] [] := by cases x3 <;> first | (simp [entryFrame, mkF, argsToLocals, Value.category]; done) | rfl | (simp [Value.isRef] at hx3; done)
def Qpcfs (Z : State) (sf : Value) (oa : Nat) (na : Nat) (la : Nat) (h0 : Heap) (n0 : Nat) (v : Option Value) (h : Heap) (L : List Loc) : Prop := v = some (.int (own_i oa)) ∧ Fr n0 L ∧ h = h0
theorem pn_jdk_internal_util_Preconditions : plainName "jdk/internal/util/Preconditions" = true := by first | (simp [plainName, overriddenIn]; done) | decide +kernel
set_option maxRecDepth 65536 in
set_option maxHeartbeats 40000000 in
theorem rmpcfs (l : Launch) (Z : State) (a0 : Array Value) (hw : ∀ d ∈ tables_1, d.before a0 Z = true) (ws : List Jvm.Cond) (sf : Value) (oa : Nat) (na : Nat) (la : Nat) (h0 : Heap) (n0 : Nat) (O0 : Old Z n0 h0) (hsf : (sf.isRef = true)) (hol : (oa + na ≤ la)) (hla : (la ≤ 1000)) :
    MetFree l mN20 (head1 (Jvm.Cond.code mN20 jdk_41_method_13_code 4 (some .int) :: ws) ({ frames := 0, cells := 0, slots := 0, locals := 0 } : Room)) (fun as_ U => as_ = #[(.int (own_i oa)), (.int (own_i na)), (.int (own_i la)), sf] ∧ Z.Warmed39 U.vm ∧ U.heap = h0) (fun _ _ _ _ _ => True) (fun _ U o U' => ∃ v L, o = .returned v ∧ Qpcfs Z sf oa na la h0 n0 v U'.heap L ∧ FrameEnd U o U' L ({ frames := 0, cells := 0, slots := 0, locals := 0 } : Room).cells ({ frames := 0, cells := 0, slots := 0, locals := 0 } : Room).slots) := by
  refine MetFree.of_bodySF (plainFor_of_name pn_jdk_internal_util_Preconditions) hisR ?_
  intro p e s m args below meth c s₁ Bd hml0 hP hK
  obtain ⟨rfl, hZ, hh⟩ := hP
  have hx := Bd.exec
  have hby := Bd.bytes
  have hml : c.maxLocals = 4 := hml0
  have hown : s.vm.findClass "jdk/internal/util/Preconditions" = some m.cls := findClass_of_methodNamed Bd.named
  have hnm := (name_of_methodNamed Bd.named Bd.method).1
  have X0 : Stand p l e ({ frames := 0, cells := 0, slots := 0, locals := 0 } : Room) s m #[(.int (own_i oa)), (.int (own_i na)), (.int (own_i la)), sf] below meth c s₁ [] 0 0 := Stand.of_body Bd
  have e0 : s₁.heap = h0 := by rw [← hh, Bd.state]; rfl
  have N0 := Fr.nil n0
  have Z0 := own_z0 O0
  have pre0 : ∀ tg_, Steps p.tables e below (s₁.setTop (mkF m 0 #[vI (own_i oa), vI (own_i na), vI (own_i la), .val sf] [])) tg_ → Steps p.tables e below (s₁.setTop (entryFrame m #[(.int (own_i oa)), (.int (own_i na)), (.int (own_i la)), sf] 4)) tg_ := fun tg_ kt_ => castTop (ef_pcfs m (own_i oa) (own_i na) (own_i la) sf hsf) kt_
  have pre1 := fun tg_ (kt_ : Steps p.tables e below (s₁.setTop (mkF m 12 #[vI (own_i oa), vI (own_i na), vI (own_i la), .val sf] [(.int ((own_i la) - (own_i oa))), (.int (own_i na))])) tg_) => pre0 tg_ (by
    refine XS.iloadN X0.here hx rfl (hb hby d54_0) rfl ?_
    refine XS.iloadN X0.here hx rfl (hb hby d54_1) rfl ?_
    refine XS.ior X0.here hx rfl (hb hby d54_2) rfl ?_
    refine XS.iloadN X0.here hx rfl (hb hby d54_3) rfl ?_
    refine XS.ior X0.here hx rfl (hb hby d54_4) rfl ?_
    refine XS.ifNo X0.here hx rfl (hb hby d54_5) rfl ((if0 _ _).trans (flt (own_or0 (own_or0 (own_inn (by omega)) (own_inn (by omega))) (own_inn (by omega)) : ¬ ((((own_i la) ||| (own_i oa)) ||| (own_i na)) < (0 : Int32)))).1) ?_
    refine XS.iloadN X0.here hx rfl (hb hby d54_8) rfl ?_
    refine XS.iloadN X0.here hx rfl (hb hby d54_9) rfl ?_
    refine XS.iloadN X0.here hx rfl (hb hby d54_10) rfl ?_
    refine XS.isub X0.here hx rfl (hb hby d54_11) rfl ?_
    exact kt_)
  have pre2 := fun tg_ (kt_ : Steps p.tables e below (s₁.setTop (mkF m 12 #[vI (own_i oa), vI (own_i na), vI (own_i la), .val sf] [(.int (own_i (la - oa))), (.int (own_i na))])) tg_) => pre1 tg_ (by
    rw [show ((own_i la) - (own_i oa)) = (own_i (la - oa)) from own_isub (by omega)]
    exact kt_)
  obtain ⟨fs, hr, hrun, hended, hW, hsame⟩ := X0.leave (v := some (.int (own_i oa))) (fun h => by rw [Bd.returns] at h; cases h)
  refine ⟨_, _, pre2 _ ?_, hrun, hended, _, _, rfl, ?_, ⟨_, rfl⟩, hW, hsame.mono (by decide) (by decide)⟩
  · refine XS.icmpYes X0.here hx rfl (pc0 := 12) (pc' := 23) rfl (hb hby d54_12) rfl (flt ((by rw [own_ilt (by omega) (by omega)]; omega) : ¬ ((own_i (la - oa)) < (own_i na)))).2.2.2 (by decide) (by decide) ?_
    refine XS.iloadN X0.here hx rfl (hb hby d54_23) rfl ?_
    show Steps _ _ _ (s₁.setTop (mkF m 24 #[vI (own_i oa), vI (own_i na), vI (own_i la), .val sf] [(.int (own_i oa))])) _
    exact retI X0 hx Bd.returns (hb hby d54_24) hr
  · show Qpcfs Z sf oa na la h0 n0 _ s₁.heap _
    rw [e0]
    exact ⟨rfl, N0, rfl⟩
abbrev c53_ := jdk_42_method_157_code
theorem d53_0 : decode c53_ 0 = .ok (.iload_n 0, 1) := by decide +kernel
theorem d53_1 : decode c53_ 1 = .ok (.iload_n 1, 1) := by decide +kernel
theorem d53_2 : decode c53_ 2 = .ok (.iload_n 2, 1) := by decide +kernel
theorem w_287 : (Cond.fieldLink "java/lang/String" (1053 : Nat) "jdk/internal/util/Preconditions" "SIOOBE_FORMATTER" "Ljava/util/function/BiFunction;") ∈ tables_1 := List.mem_of_getElem? (i := 287) (by decide +kernel)
theorem d53_3 : decode c53_ 3 = .ok (.getstatic 1053, 3) := by decide +kernel
theorem w_289 : (Cond.methodLink "java/lang/String" (1065 : Nat) mN20) ∈ tables_1 := List.mem_of_getElem? (i := 289) (by decide +kernel)
theorem w_291 : (Cond.code mN20 jdk_41_method_13_code (4 : Nat) (Option.some FieldType.int)) ∈ tables_1 := List.mem_of_getElem? (i := 291) (by decide +kernel)
theorem w_288 : (Cond.initialized "jdk/internal/util/Preconditions") ∈ tables_1 := List.mem_of_getElem? (i := 288) (by decide +kernel)
theorem pd__IIILjava_util_function_BiFunction__I : parseMethodDescriptor "(IIILjava/util/function/BiFunction;)I" = some ⟨[.int, .int, .int, (.object "java/util/function/BiFunction")], some .int⟩ := by decide +kernel
theorem d53_6 : decode c53_ 6 = .ok (.invokestatic 1065, 3) := by decide +kernel
theorem w_290 : (Cond.static mN20) ∈ tables_1 := List.mem_of_getElem? (i := 290) (by decide +kernel)
theorem d53_9 : decode c53_ 9 = .ok (.ireturn, 1) := by decide +kernel
abbrev mN21 : MethodName := ⟨"java/lang/String", "checkBoundsOffCount", "(III)I"⟩
theorem ef_scbo (m : MethodId) (x0 : Int32) (x1 : Int32) (x2 : Int32) : entryFrame m #[(.int x0), (.int x1), (.int x2)] 3 = mkF m 0 #[vI x0, vI x1, vI x2] [] := by first | (simp [entryFrame, mkF, argsToLocals, Value.category]; done) | rfl
def Qscbo (Z : State) (oa : Nat) (na : Nat) (la : Nat) (sf : Value) (h0 : Heap) (n0 : Nat) (v : Option Value) (h : Heap) (L : List Loc) : Prop := v = some (.int (own_i oa)) ∧ Fr n0 L ∧ h = h0
set_option maxRecDepth 65536 in
set_option maxHeartbeats 40000000 in
theorem rmscbo (l : Launch) (Z : State) (a0 : Array Value) (hw : ∀ d ∈ tables_1, d.before a0 Z = true) (ws : List Jvm.Cond) (oa : Nat) (na : Nat) (la : Nat) (sf : Value) (h0 : Heap) (n0 : Nat) (O0 : Old Z n0 h0) (hp0 : Sta Z Z.heap "jdk/internal/util/Preconditions" "SIOOBE_FORMATTER" "Ljava/util/function/BiFunction;" sf) (hsf : (sf.isRef = true)) (hol : (oa + na ≤ la)) (hla : (la ≤ 1000)) :
    MetFree l mN21 (head1 (Jvm.Cond.code mN21 jdk_42_method_157_code 3 (some .int) :: ws) ({ frames := 1, cells := 0, slots := 0, locals := 15 } : Room)) (fun as_ U => as_ = #[(.int (own_i oa)), (.int (own_i na)), (.int (own_i la))] ∧ Z.Warmed39 U.vm ∧ U.heap = h0) (fun _ _ _ _ _ => True) (fun _ U o U' => ∃ v L, o = .returned v ∧ Qscbo Z oa na la sf h0 n0 v U'.heap L ∧ FrameEnd U o U' L ({ frames := 1, cells := 0, slots := 0, locals := 15 } : Room).cells ({ frames := 1, cells := 0, slots := 0, locals := 15 } : Room).slots) := by
  refine MetFree.of_bodySF (plainFor_of_name pn_java_lang_String) hisR ?_
  intro p e s m args below meth c s₁ Bd hml0 hP hK
  obtain ⟨rfl, hZ, hh⟩ := hP
  have hx := Bd.exec
  have hby := Bd.bytes
  have hml : c.maxLocals = 3 := hml0
  have hown : s.vm.findClass "java/lang/String" = some m.cls := findClass_of_methodNamed Bd.named
  have hnm := (name_of_methodNamed Bd.named Bd.method).1
  have X0 : Stand p l e ({ frames := 1, cells := 0, slots := 0, locals := 15 } : Room) s m #[(.int (own_i oa)), (.int (own_i na)), (.int (own_i la))] below meth c s₁ [] 0 0 := Stand.of_body Bd
  have e0 : s₁.heap = h0 := by rw [← hh, Bd.state]; rfl
  have N0 := Fr.nil n0
  have Z0 := own_z0 O0
  have pre0 : ∀ tg_, Steps p.tables e below (s₁.setTop (mkF m 0 #[vI (own_i oa), vI (own_i na), vI (own_i la)] [])) tg_ → Steps p.tables e below (s₁.setTop (entryFrame m #[(.int (own_i oa)), (.int (own_i na)), (.int (own_i la))] 3)) tg_ := fun tg_ kt_ => castTop (ef_scbo m (own_i oa) (own_i na) (own_i la)) kt_
  obtain ⟨T1, X1, e1, st1⟩ := getS2 X0 hx hZ hown (host := "") (Or.inl (hw _ w_287)) Via.refl e0 (hp0.ext O0.2) (g := (mkF m 3 #[vI (own_i oa), vI (own_i na), vI (own_i la)] [(.int (own_i la)), (.int (own_i na)), (.int (own_i oa))])) rfl (hb hby d53_3)
  obtain ⟨_, _, ⟨T2, L2, k2, n2⟩, -, X2, ⟨Lc2, hQ2, l2, y2, z2⟩, st2⟩ := Jvm.LawKit.callS X1 hx (y := mN20) hown (mvT hZ (hw _ w_289)) (mvT hZ (hw _ w_290)) (mvT hZ (hw _ w_288)) (mvT hZ (hw _ w_291)) (by decide) (backOf (W := 0) (rmpcfs l Z a0 hw [] sf oa na la h0 n0 O0 hsf hol hla) hZ (hw _ w_291) (hw _ w_288) (by decide) (by decide)) (g := (mkF m 6 #[vI (own_i oa), vI (own_i na), vI (own_i la)] [sf, (.int (own_i la)), (.int (own_i na)), (.int (own_i oa))])) rfl (by rw [hml]; rfl) (argsL := [(.int (own_i oa)), (.int (own_i na)), (.int (own_i la)), sf]) (rest := []) (lenOf pd__IIILjava_util_function_BiFunction__I rfl) rfl (by show 2 * 0 + _ ≤ _; exact Nat.le_of_eq rfl) (hb hby d53_6) (fun _ _ => ⟨rfl, e1, (by decide : 0 + 0 ≤ _), (by decide : 0 + 0 ≤ _)⟩)
  dsimp only [Pt.U, Pt.locs, Pt.cells, Pt.slots] at X2 l2 y2 z2 st2 hQ2
  subst l2 y2 z2
  obtain ⟨rfl, N2q, eh2⟩ := hQ2
  have N2 := Fr.app N0 N2q
  obtain ⟨fs, hr, hrun, hended, hW, hsame⟩ := X2.leave (v := some (.int (own_i oa))) (fun h => by rw [Bd.returns] at h; cases h)
  refine ⟨_, _, pre0 _ ?_, hrun, hended, _, _, rfl, ?_, ⟨_, rfl⟩, hW, hsame.mono (by decide) (by decide)⟩
  · refine XS.iloadN X0.here hx rfl (hb hby d53_0) rfl ?_
    refine XS.iloadN X0.here hx rfl (hb hby d53_1) rfl ?_
    refine XS.iloadN X0.here hx rfl (hb hby d53_2) rfl ?_
    refine st1 _ ?_
    refine st2 _ ?_
    exact retI X2 hx Bd.returns (hb hby d53_9) hr
  · show Qscbo Z oa na la sf h0 n0 _ T2.heap _
    rw [eh2]
    exact ⟨rfl, N2, rfl⟩
abbrev c52_ := jdk_52_method_6_code
theorem d52_0 : decode c52_ 0 = .ok (.aload_n 0, 1) := by decide +kernel
theorem d52_1 : decode c52_ 1 = .ok (.arraylength, 1) := by decide +kernel
theorem d52_2 : decode c52_ 2 = .ok (.iconst 1, 1) := by decide +kernel
theorem d52_3 : decode c52_ 3 = .ok (.ishr, 1) := by decide +kernel
theorem d52_4 : decode c52_ 4 = .ok (.ireturn, 1) := by decide +kernel
abbrev mN22 : MethodName := ⟨"java/lang/StringUTF16", "length", "([B)I"⟩
theorem ef_u16l (m : MethodId) (x0 : Addr) : entryFrame m #[(.ref x0)] 1 = mkF m 0 #[vR x0] [] := by first | (simp [entryFrame, mkF, argsToLocals, Value.category]; done) | rfl
def Qu16l (Z : State) (d : Addr) (kd : ClassId) (cp : Nat) (vs : List Value) (h0 : Heap) (n0 : Nat) (v : Option Value) (h : Heap) (L : List Loc) : Prop := v = some (.int (own_i cp)) ∧ Fr n0 L ∧ h = h0
set_option maxRecDepth 65536 in
set_option maxHeartbeats 40000000 in
theorem rmu16l (l : Launch) (Z : State) (a0 : Array Value) (hw : ∀ d ∈ tables_1, d.before a0 Z = true) (ws : List Jvm.Cond) (d : Addr) (kd : ClassId) (cp : Nat) (vs : List Value) (h0 : Heap) (n0 : Nat) (O0 : Old Z n0 h0) (hp0 : Arv Z h0 d kd .byte (own_i (2 * cp)) vs (.int 0)) (hcp : (cp ≤ 1000)) :
    MetFree l mN22 (head1 (Jvm.Cond.code mN22 jdk_52_method_6_code 1 (some .int) :: ws) ({ frames := 0, cells := 0, slots := 0, locals := 0 } : Room)) (fun as_ U => as_ = #[(.ref d)] ∧ Z.Warmed39 U.vm ∧ U.heap = h0) (fun _ _ _ _ _ => True) (fun _ U o U' => ∃ v L, o = .returned v ∧ Qu16l Z d kd cp vs h0 n0 v U'.heap L ∧ FrameEnd U o U' L ({ frames := 0, cells := 0, slots := 0, locals := 0 } : Room).cells ({ frames := 0, cells := 0, slots := 0, locals := 0 } : Room).slots) := by
  refine MetFree.of_bodySF (plainFor_of_name pn_java_lang_StringUTF16) hisR ?_
  intro p e s m args below meth c s₁ Bd hml0 hP hK
  obtain ⟨rfl, hZ, hh⟩ := hP
  have hx := Bd.exec
  have hby := Bd.bytes
  have hml : c.maxLocals = 1 := hml0
  have hown : s.vm.findClass "java/lang/StringUTF16" = some m.cls := findClass_of_methodNamed Bd.named
  have hnm := (name_of_methodNamed Bd.named Bd.method).1
  have X0 : Stand p l e ({ frames := 0, cells := 0, slots := 0, locals := 0 } : Room) s m #[(.ref d)] below meth c s₁ [] 0 0 := Stand.of_body Bd
  have e0 : s₁.heap = h0 := by rw [← hh, Bd.state]; rfl
  have N0 := Fr.nil n0
  have Z0 := own_z0 O0
  have pre0 : ∀ tg_, Steps p.tables e below (s₁.setTop (mkF m 0 #[vR d] [])) tg_ → Steps p.tables e below (s₁.setTop (entryFrame m #[(.ref d)] 1)) tg_ := fun tg_ kt_ => castTop (ef_u16l m d) kt_
  obtain ⟨cl1, Ar1, -, S1, Ng1, -, -⟩ := id hp0
  obtain ⟨fs, hr, hrun, hended, hW, hsame⟩ := X0.leave (v := some (.int ((own_i (2 * cp)) >>> ((1 : Int32) &&& 31)))) (fun h => by rw [Bd.returns] at h; cases h)
  refine ⟨_, _, pre0 _ ?_, hrun, hended, _, _, rfl, ?_, ⟨_, rfl⟩, hW, hsame.mono (by decide) (by decide)⟩
  · refine XS.aloadN X0.here hx rfl (hb hby d52_0) rfl rfl ?_
    refine X0.arraylength hx (by rw [e0]; exact Ar1.1) (State.isArrayOf_alike hZ.alike Ar1.2.1) (g := (mkF m 1 #[vR d] [(.ref d)])) rfl rfl (hb hby d52_1) _ ?_
    rw [len_of S1 Ng1]
    refine XS.iconst X0.here hx rfl (hb hby d52_2) ?_
    refine XS.ishr X0.here hx rfl (hb hby d52_3) rfl ?_
    exact retI X0 hx Bd.returns (hb hby d52_4) hr
  · show Qu16l Z d kd cp vs h0 n0 _ s₁.heap _
    rw [e0]
    exact ⟨(own_ret (congrArg Value.int ((own_shr1 (by omega)).trans (congrArg own_i (by omega))))), N0, rfl⟩
abbrev c51_ := jdk_52_method_94_code
theorem d51_0 : decode c51_ 0 = .ok (.iload_n 0, 1) := by decide +kernel
theorem d51_1 : decode c51_ 1 = .ok (.iload_n 1, 1) := by decide +kernel
theorem d51_2 : decode c51_ 2 = .ok (.aload_n 2, 1) := by decide +kernel
theorem w_281 : (Cond.methodLink "java/lang/StringUTF16" (48 : Nat) mN22) ∈ tables_1 := List.mem_of_getElem? (i := 281) (by decide +kernel)
theorem w_283 : (Cond.code mN22 jdk_52_method_6_code (1 : Nat) (Option.some FieldType.int)) ∈ tables_1 := List.mem_of_getElem? (i := 283) (by decide +kernel)
theorem pd__AB_I : parseMethodDescriptor "([B)I" = some ⟨[(.array .byte)], some .int⟩ := by decide +kernel
theorem d51_3 : decode c51_ 3 = .ok (.invokestatic 48, 3) := by decide +kernel
theorem w_282 : (Cond.static mN22) ∈ tables_1 := List.mem_of_getElem? (i := 282) (by decide +kernel)
theorem w_284 : (Cond.methodLink "java/lang/StringUTF16" (419 : Nat) mN21) ∈ tables_1 := List.mem_of_getElem? (i := 284) (by decide +kernel)
theorem w_286 : (Cond.code mN21 jdk_42_method_157_code (3 : Nat) (Option.some FieldType.int)) ∈ tables_1 := List.mem_of_getElem? (i := 286) (by decide +kernel)
theorem d51_6 : decode c51_ 6 = .ok (.invokestatic 419, 3) := by decide +kernel
theorem w_285 : (Cond.static mN21) ∈ tables_1 := List.mem_of_getElem? (i := 285) (by decide +kernel)
theorem d51_9 : decode c51_ 9 = .ok (.pop, 1) := by decide +kernel
theorem d51_10 : decode c51_ 10 = .ok (.return_, 1) := by decide +kernel
abbrev mN23 : MethodName := ⟨"java/lang/StringUTF16", "checkBoundsOffCount", "(II[B)V"⟩
theorem ef_ucbo (m : MethodId) (x0 : Int32) (x1 : Int32) (x2 : Addr) : entryFrame m #[(.int x0), (.int x1), (.ref x2)] 3 = mkF m 0 #[vI x0, vI x1, vR x2] [] := by first | (simp [entryFrame, mkF, argsToLocals, Value.category]; done) | rfl
def Qucbo (Z : State) (d : Addr) (oa : Nat) (na : Nat) (sf : Value) (kd : ClassId) (cp : Nat) (vs : List Value) (h0 : Heap) (n0 : Nat) (v : Option Value) (h : Heap) (L : List Loc) : Prop := v = none ∧ Fr n0 L ∧ h = h0
set_option maxRecDepth 65536 in
set_option maxHeartbeats 40000000 in
theorem rmucbo (l : Launch) (Z : State) (a0 : Array Value) (hw : ∀ d ∈ tables_1, d.before a0 Z = true) (ws : List Jvm.Cond) (d : Addr) (oa : Nat) (na : Nat) (sf : Value) (kd : ClassId) (cp : Nat) (vs : List Value) (h0 : Heap) (n0 : Nat) (O0 : Old Z n0 h0) (hp0 : Sta Z Z.heap "jdk/internal/util/Preconditions" "SIOOBE_FORMATTER" "Ljava/util/function/BiFunction;" sf) (hsf : (sf.isRef = true)) (hp2 : Arv Z h0 d kd .byte (own_i (2 * cp)) vs (.int 0)) (hol : (oa + na ≤ cp)) (hcp : (cp ≤ 1000)) :
    MetFree l mN23 (head1 (Jvm.Cond.code mN23 jdk_52_method_94_code 3 none :: ws) ({ frames := 2, cells := 0, slots := 0, locals := 29 } : Room)) (fun as_ U => as_ = #[(.int (own_i oa)), (.int (own_i na)), (.ref d)] ∧ Z.Warmed39 U.vm ∧ U.heap = h0) (fun _ _ _ _ _ => True) (fun _ U o U' => ∃ v L, o = .returned v ∧ Qucbo Z d oa na sf kd cp vs h0 n0 v U'.heap L ∧ FrameEnd U o U' L ({ frames := 2, cells := 0, slots := 0, locals := 29 } : Room).cells ({ frames := 2, cells := 0, slots := 0, locals := 29 } : Room).slots) := by
  refine MetFree.of_bodySF (plainFor_of_name pn_java_lang_StringUTF16) hisR ?_
  intro p e s m args below meth c s₁ Bd hml0 hP hK
  obtain ⟨rfl, hZ, hh⟩ := hP
  have hx := Bd.exec
  have hby := Bd.bytes
  have hml : c.maxLocals = 3 := hml0
  have hown : s.vm.findClass "java/lang/StringUTF16" = some m.cls := findClass_of_methodNamed Bd.named
  have hnm := (name_of_methodNamed Bd.named Bd.method).1
  have X0 : Stand p l e ({ frames := 2, cells := 0, slots := 0, locals := 29 } : Room) s m #[(.int (own_i oa)), (.int (own_i na)), (.ref d)] below meth c s₁ [] 0 0 := Stand.of_body Bd
  have e0 : s₁.heap = h0 := by rw [← hh, Bd.state]; rfl
  have N0 := Fr.nil n0
  have Z0 := own_z0 O0
  have pre0 : ∀ tg_, Steps p.tables e below (s₁.setTop (mkF m 0 #[vI (own_i oa), vI (own_i na), vR d] [])) tg_ → Steps p.tables e below (s₁.setTop (entryFrame m #[(.int (own_i oa)), (.int (own_i na)), (.ref d)] 3)) tg_ := fun tg_ kt_ => castTop (ef_ucbo m (own_i oa) (own_i na) d) kt_
  obtain ⟨_, _, ⟨T1, L1, k1, n1⟩, -, X1, ⟨Lc1, hQ1, l1, y1, z1⟩, st1⟩ := Jvm.LawKit.callS X0 hx (y := mN22) hown (mvT hZ (hw _ w_281)) (mvT hZ (hw _ w_282)) (mvT hZ (hw _ w_238)) (mvT hZ (hw _ w_283)) (by decide) (backOf (W := 2) (rmu16l l Z a0 hw [] d kd cp vs h0 n0 O0 hp2 hcp) hZ (hw _ w_283) (hw _ w_238) (by decide) (by decide)) (g := (mkF m 3 #[vI (own_i oa), vI (own_i na), vR d] [(.ref d), (.int (own_i na)), (.int (own_i oa))])) rfl (by rw [hml]; rfl) (argsL := [(.ref d)]) (rest := [(.int (own_i na)), (.int (own_i oa))]) (lenOf pd__AB_I rfl) rfl (by show 2 * 0 + _ ≤ _; exact Nat.le_of_eq rfl) (hb hby d51_3) (fun _ _ => ⟨rfl, e0, (by decide : 0 + 0 ≤ _), (by decide : 0 + 0 ≤ _)⟩)
  dsimp only [Pt.U, Pt.locs, Pt.cells, Pt.slots] at X1 l1 y1 z1 st1 hQ1
  subst l1 y1 z1
  obtain ⟨rfl, N1q, eh1⟩ := hQ1
  have N1 := Fr.app N0 N1q
  obtain ⟨_, _, ⟨T2, L2, k2, n2⟩, -, X2, ⟨Lc2, hQ2, l2, y2, z2⟩, st2⟩ := Jvm.LawKit.callS X1 hx (y := mN21) hown (mvT hZ (hw _ w_284)) (mvT hZ (hw _ w_285)) (mvT hZ (hw _ w_2)) (mvT hZ (hw _ w_286)) (by decide) (backOf (W := 0) (rmscbo l Z a0 hw [] oa na cp sf h0 n0 O0 hp0 hsf hol hcp) hZ (hw _ w_286) (hw _ w_2) (by decide) (by decide)) (g := (mkF m 6 #[vI (own_i oa), vI (own_i na), vR d] [(.int (own_i cp)), (.int (own_i na)), (.int (own_i oa))])) rfl (by rw [hml]; rfl) (argsL := [(.int (own_i oa)), (.int (own_i na)), (.int (own_i cp))]) (rest := []) (lenOf pd__III_I rfl) rfl (by show 2 * 0 + _ ≤ _; exact Nat.le_of_eq rfl) (hb hby d51_6) (fun _ _ => ⟨rfl, eh1, (by decide : 0 + 0 ≤ _), (by decide : 0 + 0 ≤ _)⟩)
  dsimp only [Pt.U, Pt.locs, Pt.cells, Pt.slots] at X2 l2 y2 z2 st2 hQ2
  subst l2 y2 z2
  obtain ⟨rfl, N2q, eh2⟩ := hQ2
  have N2 := Fr.app N1 N2q
  obtain ⟨fs, hr, hrun, hended, hW, hsame⟩ := X2.leave (v := none) (fun _ => rfl)
  refine ⟨_, _, pre0 _ ?_, hrun, hended, _, _, rfl, ?_, ⟨_, rfl⟩, hW, hsame.mono (by decide) (by decide)⟩
  · refine XS.iloadN X0.here hx rfl (hb hby d51_0) rfl ?_
    refine XS.iloadN X0.here hx rfl (hb hby d51_1) rfl ?_
    refine XS.aloadN X0.here hx rfl (hb hby d51_2) rfl rfl ?_
    refine st1 _ ?_
    refine st2 _ ?_
    refine XS.pop X2.here hx rfl (hb hby d51_9) rfl rfl ?_
    exact X2.returnOut hx Bd.returns (hb hby d51_10) hr
  · show Qucbo Z d oa na sf kd cp vs h0 n0 _ T2.heap _
    rw [eh2]
    exact ⟨rfl, N2, rfl⟩
abbrev c50_ := jdk_52_method_86_code
theorem d50_10 : decode c50_ 10 = .ok (.iload 5, 2) := by decide +kernel
theorem d50_12 : decode c50_ 12 = .ok (.iload 4, 2) := by decide +kernel
theorem d50_14 : decode c50_ 14 = .ok (.if_icmp .ge 27, 3) := by decide +kernel
theorem d50_17 : decode c50_ 17 = .ok (.aload_n 2, 1) := by decide +kernel
theorem d50_18 : decode c50_ 18 = .ok (.iload_n 3, 1) := by decide +kernel
theorem d50_19 : decode c50_ 19 = .ok (.iinc 3 1, 3) := by decide +kernel
theorem d50_22 : decode c50_ 22 = .ok (.aload_n 0, 1) := by decide +kernel
theorem d50_23 : decode c50_ 23 = .ok (.iload_n 1, 1) := by decide +kernel
theorem d50_24 : decode c50_ 24 = .ok (.iinc 1 1, 3) := by decide +kernel
theorem d50_27 : decode c50_ 27 = .ok (.baload, 1) := by decide +kernel
theorem d50_28 : decode c50_ 28 = .ok (.sipush 255, 3) := by decide +kernel
theorem d50_31 : decode c50_ 31 = .ok (.iand, 1) := by decide +kernel
theorem d50_32 : decode c50_ 32 = .ok (.invokestatic 111, 3) := by decide +kernel
theorem d50_35 : decode c50_ 35 = .ok (.iinc 5 1, 3) := by decide +kernel
theorem d50_38 : decode c50_ 38 = .ok (.goto (-28), 3) := by decide +kernel
theorem d50_41 : decode c50_ 41 = .ok (.return_, 1) := by decide +kernel
theorem d50_0 : decode c50_ 0 = .ok (.iload_n 3, 1) := by decide +kernel
theorem d50_1 : decode c50_ 1 = .ok (.iload 4, 2) := by decide +kernel
theorem d50_3 : decode c50_ 3 = .ok (.aload_n 2, 1) := by decide +kernel
theorem w_278 : (Cond.methodLink "java/lang/StringUTF16" (173 : Nat) mN23) ∈ tables_1 := List.mem_of_getElem? (i := 278) (by decide +kernel)
theorem w_280 : (Cond.code mN23 jdk_52_method_94_code (3 : Nat) (Option.none : Option Jvm.ClassFile.FieldType)) ∈ tables_1 := List.mem_of_getElem? (i := 280) (by decide +kernel)
theorem pd__IIAB_V : parseMethodDescriptor "(II[B)V" = some ⟨[.int, .int, (.array .byte)], none⟩ := by decide +kernel
theorem d50_4 : decode c50_ 4 = .ok (.invokestatic 173, 3) := by decide +kernel
theorem w_279 : (Cond.static mN23) ∈ tables_1 := List.mem_of_getElem? (i := 279) (by decide +kernel)
theorem d50_7 : decode c50_ 7 = .ok (.iconst 0, 1) := by decide +kernel
theorem d50_8 : decode c50_ 8 = .ok (.istore 5, 2) := by decide +kernel
abbrev mN24 : MethodName := ⟨"java/lang/StringUTF16", "inflate", "([BI[BII)V"⟩
theorem ef_uinf (m : MethodId) (x0 : Addr) (x1 : Int32) (x2 : Addr) (x3 : Int32) (x4 : Int32) : entryFrame m #[(.ref x0), (.int x1), (.ref x2), (.int x3), (.int x4)] 6 = mkF m 0 #[vR x0, vI x1, vR x2, vI x3, vI x4, .unset] [] := by first | (simp [entryFrame, mkF, argsToLocals, Value.category]; done) | rfl
def Quinf (Z : State) (s_ : Addr) (d : Addr) (di : Nat) (ks : ClassId) (sc : Nat) (ds : List Int32) (kd : ClassId) (cp : Nat) (ys : List Int32) (sf : Value) (h0 : Heap) (n0 : Nat) (v : Option Value) (h : Heap) (L : List Loc) : Prop := v = none ∧ Fr n0 L ∧ Keep h0 h [d] ∧ Arv Z h d kd .byte (own_i (2 * cp)) ((own_e1 (ys ++ ds)).map Value.int) (.int 0)
set_option maxRecDepth 65536 in
set_option maxHeartbeats 40000000 in
theorem rmuinf (l : Launch) (Z : State) (a0 : Array Value) (hw : ∀ d ∈ tables_1, d.before a0 Z = true) (ws : List Jvm.Cond) (s_ : Addr) (d : Addr) (di : Nat) (ks : ClassId) (sc : Nat) (ds : List Int32) (kd : ClassId) (cp : Nat) (ys : List Int32) (sf : Value) (h0 : Heap) (n0 : Nat) (O0 : Old Z n0 h0) (hp0 : Arv Z h0 s_ ks .byte (own_i sc) ((ds.map own_b).map Value.int) (.int 0)) (hp1 : n0 ≤ d) (hp2 : Arv Z h0 d kd .byte (own_i (2 * cp)) ((own_e1 ys).map Value.int) (.int 0)) (hsd : (s_ ≠ d)) (hdi : (ys.length = di)) (hol : (di + ds.length ≤ cp)) (hcp : (cp ≤ 500)) (hsc : (ds.length ≤ sc ∧ sc ≤ 1000)) (hch : (own_Ch ds)) (h0_ : (own_cd ds = 0)) (hp10 : Sta Z Z.heap "java/lang/StringUTF16" "$assertionsDisabled" "Z" (.int 1)) (hp11 : Sta Z Z.heap "java/lang/StringUTF16" "HI_BYTE_SHIFT" "I" (.int 0)) (hp12 : Sta Z Z.heap "java/lang/StringUTF16" "LO_BYTE_SHIFT" "I" (.int 8)) (hp13 : Sta Z Z.heap "jdk/internal/util/Preconditions" "SIOOBE_FORMATTER" "Ljava/util/function/BiFunction;" sf) (hsf : (sf.isRef = true)) :
    MetFree l mN24 (head1 (Jvm.Cond.code mN24 jdk_52_method_86_code 6 none :: ws) ({ frames := 3, cells := 0, slots := 0, locals := 43 } : Room)) (fun as_ U => as_ = #[(.ref s_), (.int 0), (.ref d), (.int (own_i di)), (.int (own_i ds.length))] ∧ Z.Warmed39 U.vm ∧ U.heap = h0) (fun _ _ _ _ _ => True) (fun _ U o U' => ∃ v L, o = .returned v ∧ Quinf Z s_ d di ks sc ds kd cp ys sf h0 n0 v U'.heap L ∧ FrameEnd U o U' L ({ frames := 3, cells := 0, slots := 0, locals := 43 } : Room).cells ({ frames := 3, cells := 0, slots := 0, locals := 43 } : Room).slots) := by
  refine MetFree.of_bodySF (plainFor_of_name pn_java_lang_StringUTF16) hisR ?_
  intro p e s m args below meth c s₁ Bd hml0 hP hK
  obtain ⟨rfl, hZ, hh⟩ := hP
  have hx := Bd.exec
  have hby := Bd.bytes
  have hml : c.maxLocals = 6 := hml0
  have hown : s.vm.findClass "java/lang/StringUTF16" = some m.cls := findClass_of_methodNamed Bd.named
  have hnm := (name_of_methodNamed Bd.named Bd.method).1
  have X0 : Stand p l e ({ frames := 3, cells := 0, slots := 0, locals := 43 } : Room) s m #[(.ref s_), (.int 0), (.ref d), (.int (own_i di)), (.int (own_i ds.length))] below meth c s₁ [] 0 0 := Stand.of_body Bd
  have e0 : s₁.heap = h0 := by rw [← hh, Bd.state]; rfl
  have N0 := Fr.nil n0
  have Z0 := own_z0 O0
  have pre0 : ∀ tg_, Steps p.tables e below (s₁.setTop (mkF m 0 #[vR s_, vI 0, vR d, vI (own_i di), vI (own_i ds.length), .unset] [])) tg_ → Steps p.tables e below (s₁.setTop (entryFrame m #[(.ref s_), (.int 0), (.ref d), (.int (own_i di)), (.int (own_i ds.length))] 6)) tg_ := fun tg_ kt_ => castTop (ef_uinf m s_ (0 : Int32) d (own_i di) (own_i ds.length)) kt_
  refine own_loop (fun k_ G_ => ∀ (T_ : State) (h_ : Heap) (L_ : List Loc) (i : Nat) (X_ : Stand p l e ({ frames := 3, cells := 0, slots := 0, locals := 43 } : Room) s m #[(.ref s_), (.int 0), (.ref d), (.int (own_i di)), (.int (own_i ds.length))] below meth c T_ L_ 0 0) (e_ : T_.heap = h_) (O_ : Old Z n0 h_) (K_ : Keep h0 h_ [d]) (N_ : Fr n0 L_) (hj0 : Arv Z h_ s_ ks .byte (own_i sc) ((ds.map own_b).map Value.int) (.int 0)) (hj1 : Arv Z h_ d kd .byte (own_i (2 * cp)) ((own_e1 (ys ++ ds.take i)).map Value.int) (.int 0)) (hi : (i ≤ ds.length)) (pre_ : ∀ tg_, Steps p.tables e below (T_.setTop (mkF m 10 #[vR s_, vI (own_i i), vR d, vI (own_i (di + i)), vI (own_i ds.length), vI (own_i i)] [])) tg_ → Steps p.tables e below (s₁.setTop (entryFrame m #[(.ref s_), (.int 0), (.ref d), (.int (own_i di)), (.int (own_i ds.length))] 6)) tg_) (hm_ : ds.length - i = k_), G_) ?_ ?_
  · intro k_ IH_lp T_ h_ L_ i X_ e_ O_ K_ N_ hj0 hj1 hi pre_ hm_
    have pre1 := fun tg_ (kt_ : Steps p.tables e below (T_.setTop (mkF m 14 #[vR s_, vI (own_i i), vR d, vI (own_i (di + i)), vI (own_i ds.length), vI (own_i i)] [(.int (own_i ds.length)), (.int (own_i i))])) tg_) => pre_ tg_ (by
      refine XS.iload X_.here hx rfl (hb hby d50_10) rfl ?_
      refine XS.iload X_.here hx rfl (hb hby d50_12) rfl ?_
      exact kt_)
    by_cases hc2 : (own_i i) < (own_i ds.length)
    · obtain ⟨cl3, Ar3, -, S3, Ng3, H3, G3⟩ := id hj0
      have hin3 : ¬ ((own_i i) < 0 ∨ cl3.slots.size ≤ ((own_i i)).toNatClampNeg) := inb_of S3 ⟨own_inn (by omega), (own_ilt (by omega) (by omega)).mpr (by have z := ((own_ilt (by omega) (by omega)).mp hc2); omega)⟩
      have hat3 : cl3.slots[((own_i i)).toNatClampNeg]? = some (.int ((ds.map own_b).getD i 0)) := H3.at hin3 (own_gd (ds.map own_b) (by omega))
      obtain ⟨_, _, ⟨T4, L4, k4, n4⟩, -, X4, ⟨Lc4, hQ4, l4, y4, z4⟩, st4⟩ := Jvm.LawKit.callS X_ hx (y := mN5) hown (mvT hZ (hw _ w_256)) (mvT hZ (hw _ w_257)) (mvT hZ (hw _ w_238)) (mvT hZ (hw _ w_258)) (by decide) (backOf (W := 0) (rmputC l Z a0 hw [] d (((ds.map own_b).getD i 0) &&& (255 : Int32)) (di + i) (2 * cp) (ys ++ ds.take i) kd h_ n0 O_ hp1 hj1 (by rw [List.length_append, List.length_take]; have z := ((own_ilt (by omega) (by omega)).mp hc2); omega) (by have z := ((own_ilt (by omega) (by omega)).mp hc2); omega) (by omega) hp10 hp11 hp12) hZ (hw _ w_258) (hw _ w_238) (by decide) (by decide)) (g := (mkF m 32 #[vR s_, vI ((own_i i) + (1 : Int32)), vR d, vI ((own_i (di + i)) + (1 : Int32)), vI (own_i ds.length), vI (own_i i)] [(.int (((ds.map own_b).getD i 0) &&& (255 : Int32))), (.int (own_i (di + i))), (.ref d)])) rfl (by rw [hml]; rfl) (argsL := [(.ref d), (.int (own_i (di + i))), (.int (((ds.map own_b).getD i 0) &&& (255 : Int32)))]) (rest := []) (lenOf pd__ABII_V rfl) rfl (by show 2 * 0 + _ ≤ _; exact Nat.le_of_eq rfl) (hb hby d50_32) (fun _ _ => ⟨rfl, e_, (by decide : 0 + 0 ≤ _), (by decide : 0 + 0 ≤ _)⟩)
      dsimp only [Pt.U, Pt.locs, Pt.cells, Pt.slots] at X4 l4 y4 z4 st4 hQ4
      subst l4 y4 z4
      obtain ⟨rfl, N4q, Kc4, r4_1⟩ := hQ4
      have N4 := Fr.app N_ N4q
      have O4 : Old Z n0 T4.heap := O_.keep Kc4 (allS hp1 all0)
      have K4 : Keep h0 T4.heap [d] := K_.trans Kc4 (allS (Or.inl (List.mem_of_getElem? (i := 0) rfl)) all0)
      have pre5 := fun tg_ (kt_ : Steps p.tables e below (T4.setTop (mkF m 10 #[vR s_, vI ((own_i i) + (1 : Int32)), vR d, vI ((own_i (di + i)) + (1 : Int32)), vI (own_i ds.length), vI ((own_i i) + (1 : Int32))] [])) tg_) => pre1 tg_ (by
        refine XS.icmpNo X_.here hx rfl (hb hby d50_14) rfl (tlt hc2).2.1 ?_
        refine XS.aloadN X_.here hx rfl (hb hby d50_17) rfl rfl ?_
        refine XS.iloadN X_.here hx rfl (hb hby d50_18) rfl ?_
        refine XS.iinc X_.here hx rfl (hb hby d50_19) rfl (l' := #[vR s_, vI (own_i i), vR d, vI ((own_i (di + i)) + (1 : Int32)), vI (own_i ds.length), vI (own_i i)]) rfl ?_
        refine XS.aloadN X_.here hx rfl (hb hby d50_22) rfl rfl ?_
        refine XS.iloadN X_.here hx rfl (hb hby d50_23) rfl ?_
        refine XS.iinc X_.here hx rfl (hb hby d50_24) rfl (l' := #[vR s_, vI ((own_i i) + (1 : Int32)), vR d, vI ((own_i (di + i)) + (1 : Int32)), vI (own_i ds.length), vI (own_i i)]) rfl ?_
        refine X_.baloadBytes hx (j := (own_i i)) (v := (.int ((ds.map own_b).getD i 0))) (by rw [e_]; exact Ar3.1) (State.isArrayOf_alike hZ.alike Ar3.2.1) Ar3.2.2 hin3 hat3 (g := (mkF m 27 #[vR s_, vI ((own_i i) + (1 : Int32)), vR d, vI ((own_i (di + i)) + (1 : Int32)), vI (own_i ds.length), vI (own_i i)] [(.int (own_i i)), (.ref s_), (.int (own_i (di + i))), (.ref d)])) rfl rfl (hb hby d50_27) _ ?_
        refine XS.sipush X_.here hx rfl (hb hby d50_28) ?_
        refine XS.iand X_.here hx rfl (hb hby d50_31) rfl ?_
        show Steps _ _ _ (T_.setTop (mkF m 32 #[vR s_, vI ((own_i i) + (1 : Int32)), vR d, vI ((own_i (di + i)) + (1 : Int32)), vI (own_i ds.length), vI (own_i i)] [(.int (((ds.map own_b).getD i 0) &&& (255 : Int32))), (.int (own_i (di + i))), (.ref d)])) _
        refine st4 _ ?_
        refine XS.iinc X4.here hx rfl (hb hby d50_35) rfl (l' := #[vR s_, vI ((own_i i) + (1 : Int32)), vR d, vI ((own_i (di + i)) + (1 : Int32)), vI (own_i ds.length), vI ((own_i i) + (1 : Int32))]) rfl ?_
        refine XS.goto X4.here hx rfl (pc0 := 38) (pc' := 10) rfl (hb hby d50_38) (by decide) (by decide) ?_
        exact kt_)
      have pre6 := fun tg_ (kt_ : Steps p.tables e below (T4.setTop (mkF m 10 #[vR s_, vI ((own_i i) + (1 : Int32)), vR d, vI (own_i (di + (i + 1))), vI (own_i ds.length), vI ((own_i i) + (1 : Int32))] [])) tg_) => pre5 tg_ (by
        rw [show ((own_i (di + i)) + (1 : Int32)) = (own_i (di + (i + 1))) from own_iadd (di + i) 1]
        exact kt_)
      have pre7 := fun tg_ (kt_ : Steps p.tables e below (T4.setTop (mkF m 10 #[vR s_, vI (own_i (i + 1)), vR d, vI (own_i (di + (i + 1))), vI (own_i ds.length), vI (own_i (i + 1))] [])) tg_) => pre6 tg_ (by
        rw [show ((own_i i) + (1 : Int32)) = (own_i (i + 1)) from own_iadd i 1]
        exact kt_)
      have Vr8 : Arv Z T4.heap d kd .byte (own_i (2 * cp)) ((own_e1 (ys ++ ds.take (i + 1))).map Value.int) (.int 0) := by
        have q := r4_1
        rw [own_infS ((own_ilt (by omega) (by omega)).mp hc2) hch h0_] at q; exact q
      exact IH_lp _ (by have z := ((own_ilt (by omega) (by omega)).mp hc2); omega) T4 T4.heap _ (i + 1) (Stand.more X4 (by decide) (by decide)) rfl O4 K4 N4 (hj0.keep Kc4 (ninS hsd nin0)) Vr8 ((own_ilt (by omega) (by omega)).mp hc2) pre7 rfl
    · obtain ⟨fs, hr, hrun, hended, hW, hsame⟩ := X_.leave (v := none) (fun _ => rfl)
      refine ⟨_, _, pre1 _ ?_, hrun, hended, _, _, rfl, ?_, ⟨_, rfl⟩, hW, hsame.mono (by decide) (by decide)⟩
      · refine XS.icmpYes X_.here hx rfl (pc0 := 14) (pc' := 41) rfl (hb hby d50_14) rfl (flt hc2).2.1 (by decide) (by decide) ?_
        exact X_.returnOut hx Bd.returns (hb hby d50_41) hr
      · show Quinf Z s_ d di ks sc ds kd cp ys sf h0 n0 _ T_.heap _
        rw [e_]
        exact ⟨rfl, N_, K_, (by have q := hj1; rw [List.take_of_length_le (by have z : ¬ _ := (fun y => hc2 ((own_ilt (by omega) (by omega)).mpr y)); omega)] at q; exact q)⟩
  · intro lp
    obtain ⟨_, _, ⟨T9, L9, k9, n9⟩, -, X9, ⟨Lc9, hQ9, l9, y9, z9⟩, st9⟩ := Jvm.LawKit.callS X0 hx (y := mN23) hown (mvT hZ (hw _ w_278)) (mvT hZ (hw _ w_279)) (mvT hZ (hw _ w_238)) (mvT hZ (hw _ w_280)) (by decide) (backOf (W := 0) (rmucbo l Z a0 hw [] d di ds.length sf kd cp ((own_e1 ys).map Value.int) h0 n0 O0 hp13 hsf hp2 hol (by omega)) hZ (hw _ w_280) (hw _ w_238) (by decide) (by decide)) (g := (mkF m 4 #[vR s_, vI 0, vR d, vI (own_i di), vI (own_i ds.length), .unset] [(.ref d), (.int (own_i ds.length)), (.int (own_i di))])) rfl (by rw [hml]; rfl) (argsL := [(.int (own_i di)), (.int (own_i ds.length)), (.ref d)]) (rest := []) (lenOf pd__IIAB_V rfl) rfl (by show 2 * 0 + _ ≤ _; exact Nat.le_of_eq rfl) (hb hby d50_4) (fun _ _ => ⟨rfl, e0, (by decide : 0 + 0 ≤ _), (by decide : 0 + 0 ≤ _)⟩)
    dsimp only [Pt.U, Pt.locs, Pt.cells, Pt.slots] at X9 l9 y9 z9 st9 hQ9
    subst l9 y9 z9
    obtain ⟨rfl, N9q, eh9⟩ := hQ9
    have N9 := Fr.app N0 N9q
    have pre10 := fun tg_ (kt_ : Steps p.tables e below (T9.setTop (mkF m 10 #[vR s_, vI 0, vR d, vI (own_i di), vI (own_i ds.length), vI 0] [])) tg_) => pre0 tg_ (by
      refine XS.iloadN X0.here hx rfl (hb hby d50_0) rfl ?_
      refine XS.iload X0.here hx rfl (hb hby d50_1) rfl ?_
      refine XS.aloadN X0.here hx rfl (hb hby d50_3) rfl rfl ?_
      refine st9 _ ?_
      refine XS.iconst X9.here hx rfl (hb hby d50_7) ?_
      refine XS.istore X9.here hx rfl (hb hby d50_8) rfl (l' := #[vR s_, vI 0, vR d, vI (own_i di), vI (own_i ds.length), vI 0]) rfl ?_
      exact kt_)
    have pre11 := fun tg_ (kt_ : Steps p.tables e below (T9.setTop (mkF m 10 #[vR s_, vI 0, vR d, vI (own_i (di + 0)), vI (own_i ds.length), vI 0] [])) tg_) => pre10 tg_ (by
      rw [show (own_i di) = (own_i (di + 0)) from rfl]
      exact kt_)
    have Vr12 : Arv Z h0 d kd .byte (own_i (2 * cp)) ((own_e1 (ys ++ ds.take 0)).map Value.int) (.int 0) := by
      have q := hp2
      rw [List.take_zero, List.append_nil]; exact q
    exact lp _ T9 h0 _ 0 (Stand.more X9 (by decide) (by decide)) eh9 O0 (Keep.refl h0 [d]) N9 hp0 Vr12 (Nat.zero_le _) pre11 rfl
abbrev c49_ := jdk_43_method_50_code
theorem d49_0 : decode c49_ 0 = .ok (.aload_n 0, 1) := by decide +kernel
theorem d49_1 : decode c49_ 1 = .ok (.iload_n 1, 1) := by decide +kernel
theorem d49_2 : decode c49_ 2 = .ok (.aload_n 2, 1) := by decide +kernel
theorem d49_3 : decode c49_ 3 = .ok (.iload_n 3, 1) := by decide +kernel
theorem d49_4 : decode c49_ 4 = .ok (.iload 4, 2) := by decide +kernel
theorem w_275 : (Cond.methodLink "java/lang/StringLatin1" (240 : Nat) mN24) ∈ tables_1 := List.mem_of_getElem? (i := 275) (by decide +kernel)
theorem w_277 : (Cond.code mN24 jdk_52_method_86_code (6 : Nat) (Option.none : Option Jvm.ClassFile.FieldType)) ∈ tables_1 := List.mem_of_getElem? (i := 277) (by decide +kernel)
theorem pd__ABIABII_V : parseMethodDescriptor "([BI[BII)V" = some ⟨[(.array .byte), .int, (.array .byte), .int, .int], none⟩ := by decide +kernel
theorem d49_6 : decode c49_ 6 = .ok (.invokestatic 240, 3) := by decide +kernel
theorem w_276 : (Cond.static mN24) ∈ tables_1 := List.mem_of_getElem? (i := 276) (by decide +kernel)
theorem d49_9 : decode c49_ 9 = .ok (.return_, 1) := by decide +kernel
abbrev mN25 : MethodName := ⟨"java/lang/StringLatin1", "inflate", "([BI[BII)V"⟩
theorem ef_linf (m : MethodId) (x0 : Addr) (x1 : Int32) (x2 : Addr) (x3 : Int32) (x4 : Int32) : entryFrame m #[(.ref x0), (.int x1), (.ref x2), (.int x3), (.int x4)] 5 = mkF m 0 #[vR x0, vI x1, vR x2, vI x3, vI x4] [] := by first | (simp [entryFrame, mkF, argsToLocals, Value.category]; done) | rfl
def Qlinf (Z : State) (s_ : Addr) (d : Addr) (di : Nat) (ks : ClassId) (sc : Nat) (ds : List Int32) (kd : ClassId) (cp : Nat) (ys : List Int32) (sf : Value) (h0 : Heap) (n0 : Nat) (v : Option Value) (h : Heap) (L : List Loc) : Prop := v = none ∧ Fr n0 L ∧ Keep h0 h [d] ∧ Arv Z h d kd .byte (own_i (2 * cp)) ((own_e1 (ys ++ ds)).map Value.int) (.int 0)
theorem pn_java_lang_StringLatin1 : plainName "java/lang/StringLatin1" = true := by first | (simp [plainName, overriddenIn]; done) | decide +kernel
set_option maxRecDepth 65536 in
set_option maxHeartbeats 40000000 in
theorem rmlinf (l : Launch) (Z : State) (a0 : Array Value) (hw : ∀ d ∈ tables_1, d.before a0 Z = true) (ws : List Jvm.Cond) (s_ : Addr) (d : Addr) (di : Nat) (ks : ClassId) (sc : Nat) (ds : List Int32) (kd : ClassId) (cp : Nat) (ys : List Int32) (sf : Value) (h0 : Heap) (n0 : Nat) (O0 : Old Z n0 h0) (hp0 : Arv Z h0 s_ ks .byte (own_i sc) ((ds.map own_b).map Value.int) (.int 0)) (hp1 : n0 ≤ d) (hp2 : Arv Z h0 d kd .byte (own_i (2 * cp)) ((own_e1 ys).map Value.int) (.int 0)) (hsd : (s_ ≠ d)) (hdi : (ys.length = di)) (hol : (di + ds.length ≤ cp)) (hcp : (cp ≤ 500)) (hsc : (ds.length ≤ sc ∧ sc ≤ 1000)) (hch : (own_Ch ds)) (h0_ : (own_cd ds = 0)) (hp10 : Sta Z Z.heap "java/lang/StringUTF16" "$assertionsDisabled" "Z" (.int 1)) (hp11 : Sta Z Z.heap "java/lang/StringUTF16" "HI_BYTE_SHIFT" "I" (.int 0)) (hp12 : Sta Z Z.heap "java/lang/StringUTF16" "LO_BYTE_SHIFT" "I" (.int 8)) (hp13 : Sta Z Z.heap "jdk/internal/util/Preconditions" "SIOOBE_FORMATTER" "Ljava/util/function/BiFunction;" sf) (hsf : (sf.isRef = true)) :
    MetFree l mN25 (head1 (Jvm.Cond.code mN25 jdk_43_method_50_code 5 none :: ws) ({ frames := 4, cells := 0, slots := 0, locals := 60 } : Room)) (fun as_ U => as_ = #[(.ref s_), (.int 0), (.ref d), (.int (own_i di)), (.int (own_i ds.length))] ∧ Z.Warmed39 U.vm ∧ U.heap = h0) (fun _ _ _ _ _ => True) (fun _ U o U' => ∃ v L, o = .returned v ∧ Qlinf Z s_ d di ks sc ds kd cp ys sf h0 n0 v U'.heap L ∧ FrameEnd U o U' L ({ frames := 4, cells := 0, slots := 0, locals := 60 } : Room).cells ({ frames := 4, cells := 0, slots := 0, locals := 60 } : Room).slots) := by
  refine MetFree.of_bodySF (plainFor_of_name pn_java_lang_StringLatin1) hisR ?_
  intro p e s m args below meth c s₁ Bd hml0 hP hK
  obtain ⟨rfl, hZ, hh⟩ := hP
  have hx := Bd.exec
  have hby := Bd.bytes
  have hml : c.maxLocals = 5 := hml0
  have hown : s.vm.findClass "java/lang/StringLatin1" = some m.cls := findClass_of_methodNamed Bd.named
  have hnm := (name_of_methodNamed Bd.named Bd.method).1
  have X0 : Stand p l e ({ frames := 4, cells := 0, slots := 0, locals := 60 } : Room) s m #[(.ref s_), (.int 0), (.ref d), (.int (own_i di)), (.int (own_i ds.length))] below meth c s₁ [] 0 0 := Stand.of_body Bd
  have e0 : s₁.heap = h0 := by rw [← hh, Bd.state]; rfl
  have N0 := Fr.nil n0
  have Z0 := own_z0 O0
  have pre0 : ∀ tg_, Steps p.tables e below (s₁.setTop (mkF m 0 #[vR s_, vI 0, vR d, vI (own_i di), vI (own_i ds.length)] [])) tg_ → Steps p.tables e below (s₁.setTop (entryFrame m #[(.ref s_), (.int 0), (.ref d), (.int (own_i di)), (.int (own_i ds.length))] 5)) tg_ := fun tg_ kt_ => castTop (ef_linf m s_ (0 : Int32) d (own_i di) (own_i ds.length)) kt_
  obtain ⟨_, _, ⟨T1, L1, k1, n1⟩, -, X1, ⟨Lc1, hQ1, l1, y1, z1⟩, st1⟩ := Jvm.LawKit.callS X0 hx (y := mN24) hown (mvT hZ (hw _ w_275)) (mvT hZ (hw _ w_276)) (mvT hZ (hw _ w_238)) (mvT hZ (hw _ w_277)) (by decide) (backOf (W := 0) (rmuinf l Z a0 hw [] s_ d di ks sc ds kd cp ys sf h0 n0 O0 hp0 hp1 hp2 hsd hdi hol hcp hsc hch h0_ hp10 hp11 hp12 hp13 hsf) hZ (hw _ w_277) (hw _ w_238) (by decide) (by decide)) (g := (mkF m 6 #[vR s_, vI 0, vR d, vI (own_i di), vI (own_i ds.length)] [(.int (own_i ds.length)), (.int (own_i di)), (.ref d), (.int 0), (.ref s_)])) rfl (by rw [hml]; rfl) (argsL := [(.ref s_), (.int 0), (.ref d), (.int (own_i di)), (.int (own_i ds.length))]) (rest := []) (lenOf pd__ABIABII_V rfl) rfl (by show 2 * 0 + _ ≤ _; exact Nat.le_of_eq rfl) (hb hby d49_6) (fun _ _ => ⟨rfl, e0, (by decide : 0 + 0 ≤ _), (by decide : 0 + 0 ≤ _)⟩)
  dsimp only [Pt.U, Pt.locs, Pt.cells, Pt.slots] at X1 l1 y1 z1 st1 hQ1
  subst l1 y1 z1
  obtain ⟨rfl, N1q, Kc1, r1_1⟩ := hQ1
  have N1 := Fr.app N0 N1q
  have O1 : Old Z n0 T1.heap := O0.keep Kc1 (allS hp1 all0)
  have K1 : Keep h0 T1.heap [d] := (Keep.refl h0 [d]).trans Kc1 (allS (Or.inl (List.mem_of_getElem? (i := 0) rfl)) all0)
  obtain ⟨fs, hr, hrun, hended, hW, hsame⟩ := X1.leave (v := none) (fun _ => rfl)
  refine ⟨_, _, pre0 _ ?_, hrun, hended, _, _, rfl, ?_, ⟨_, rfl⟩, hW, hsame.mono (by decide) (by decide)⟩
  · refine XS.aloadN X0.here hx rfl (hb hby d49_0) rfl rfl ?_
    refine XS.iloadN X0.here hx rfl (hb hby d49_1) rfl ?_
    refine XS.aloadN X0.here hx rfl (hb hby d49_2) rfl rfl ?_
    refine XS.iloadN X0.here hx rfl (hb hby d49_3) rfl ?_
    refine XS.iload X0.here hx rfl (hb hby d49_4) rfl ?_
    refine st1 _ ?_
    exact X1.returnOut hx Bd.returns (hb hby d49_9) hr
  · show Qlinf Z s_ d di ks sc ds kd cp ys sf h0 n0 _ T1.heap _
    exact ⟨rfl, N1, K1, r1_1⟩
theorem w_41 : (Cond.fieldLink "java/lang/AbstractStringBuilder" (18 : Nat) "java/lang/String" "COMPACT_STRINGS" "Z") ∈ tables_1 := List.mem_of_getElem? (i := 41) (by decide +kernel)
abbrev c26_ := jdk_68_method_68_code
theorem d26_0 : decode c26_ 0 = .ok (.getstatic 18, 3) := by decide +kernel
theorem d26_3 : decode c26_ 3 = .ok (.ifCond .eq 14, 3) := by decide +kernel
theorem d26_6 : decode c26_ 6 = .ok (.aload_n 0, 1) := by decide +kernel
theorem d26_7 : decode c26_ 7 = .ok (.getfield 22, 3) := by decide +kernel
theorem d26_10 : decode c26_ 10 = .ok (.ifCond .ne 7, 3) := by decide +kernel
theorem d26_13 : decode c26_ 13 = .ok (.iconst 1, 1) := by decide +kernel
theorem d26_14 : decode c26_ 14 = .ok (.goto 4, 3) := by decide +kernel
theorem d26_18 : decode c26_ 18 = .ok (.ireturn, 1) := by decide +kernel
abbrev mN26 : MethodName := ⟨"java/lang/AbstractStringBuilder", "isLatin1", "()Z"⟩
theorem ef_asbL0 (m : MethodId) (x0 : Addr) : entryFrame m #[(.ref x0)] 1 = mkF m 0 #[vR x0] [] := by first | (simp [entryFrame, mkF, argsToLocals, Value.category]; done) | rfl
def QasbL0 (Z : State) (b : Addr) (cz : Int32) (h0 : Heap) (n0 : Nat) (v : Option Value) (h : Heap) (L : List Loc) : Prop := v = some (.int 1) ∧ Fr n0 L ∧ h = h0
set_option maxRecDepth 65536 in
set_option maxHeartbeats 40000000 in
theorem rmasbL0 (l : Launch) (Z : State) (a0 : Array Value) (hw : ∀ d ∈ tables_1, d.before a0 Z = true) (ws : List Jvm.Cond) (b : Addr) (cz : Int32) (h0 : Heap) (n0 : Nat) (O0 : Old Z n0 h0) (hp0 : Fld Z h0 b "java/lang/AbstractStringBuilder" "coder" "B" (.int 0)) (hp1 : Sta Z Z.heap "java/lang/String" "COMPACT_STRINGS" "Z" (.int cz)) (hcz : (¬ (cz = (0 : Int32)))) :
    MetFree l mN26 (head1 (Jvm.Cond.code mN26 jdk_68_method_68_code 1 (some .boolean) :: ws) ({ frames := 0, cells := 0, slots := 0, locals := 0 } : Room)) (fun as_ U => as_ = #[(.ref b)] ∧ Z.Warmed39 U.vm ∧ U.heap = h0) (fun _ _ _ _ _ => True) (fun _ U o U' => ∃ v L, o = .returned v ∧ QasbL0 Z b cz h0 n0 v U'.heap L ∧ FrameEnd U o U' L ({ frames := 0, cells := 0, slots := 0, locals := 0 } : Room).cells ({ frames := 0, cells := 0, slots := 0, locals := 0 } : Room).slots) := by
  refine MetFree.of_bodySF (plainFor_of_name pn_java_lang_AbstractStringBuilder) hisR ?_
  intro p e s m args below meth c s₁ Bd hml0 hP hK
  obtain ⟨rfl, hZ, hh⟩ := hP
  have hx := Bd.exec
  have hby := Bd.bytes
  have hml : c.maxLocals = 1 := hml0
  have hown : s.vm.findClass "java/lang/AbstractStringBuilder" = some m.cls := findClass_of_methodNamed Bd.named
  have hnm := (name_of_methodNamed Bd.named Bd.method).1
  have X0 : Stand p l e ({ frames := 0, cells := 0, slots := 0, locals := 0 } : Room) s m #[(.ref b)] below meth c s₁ [] 0 0 := Stand.of_body Bd
  have e0 : s₁.heap = h0 := by rw [← hh, Bd.state]; rfl
  have N0 := Fr.nil n0
  have Z0 := own_z0 O0
  have pre0 : ∀ tg_, Steps p.tables e below (s₁.setTop (mkF m 0 #[vR b] [])) tg_ → Steps p.tables e below (s₁.setTop (entryFrame m #[(.ref b)] 1)) tg_ := fun tg_ kt_ => castTop (ef_asbL0 m b) kt_
  obtain ⟨T1, X1, e1, st1⟩ := getS2 X0 hx hZ hown (host := "") (Or.inl (hw _ w_41)) Via.refl e0 (hp1.ext O0.2) (g := (mkF m 0 #[vR b] [])) rfl (hb hby d26_0)
  obtain ⟨T2, X2, e2, st2⟩ := getF X1 hx hZ hown (host := "") (Or.inl (hw _ w_44)) Via.refl e1 hp0 (g := (mkF m 7 #[vR b] [(.ref b)])) rfl rfl (hb hby d26_7)
  obtain ⟨fs, hr, hrun, hended, hW, hsame⟩ := X2.leave (v := some (.int 1)) (fun h => by rw [Bd.returns] at h; cases h)
  refine ⟨_, _, pre0 _ ?_, hrun, hended, _, _, rfl, ?_, ⟨_, rfl⟩, hW, hsame.mono (by decide) (by decide)⟩
  · refine st1 _ ?_
    refine XS.ifNo X1.here hx rfl (hb hby d26_3) rfl ((if0 _ _).trans (feq hcz).1) ?_
    refine XS.aloadN X1.here hx rfl (hb hby d26_6) rfl rfl ?_
    refine st2 _ ?_
    refine XS.ifNo X2.here hx rfl (hb hby d26_10) rfl ((if0 _ _).trans (teq (by decide : (0 : Int32) = (0 : Int32))).2) ?_
    refine XS.iconst X2.here hx rfl (hb hby d26_13) ?_
    refine XS.goto X2.here hx rfl (pc0 := 14) (pc' := 18) rfl (hb hby d26_14) (by decide) (by decide) ?_
    exact retN X2 hx (t := .boolean) Bd.returns (by simp) (hb hby d26_18) hr
  · show QasbL0 Z b cz h0 n0 _ T2.heap _
    rw [e2]
    exact ⟨rfl, N0, rfl⟩
theorem d26_17 : decode c26_ 17 = .ok (.iconst 0, 1) := by decide +kernel
theorem ef_asbL1 (m : MethodId) (x0 : Addr) : entryFrame m #[(.ref x0)] 1 = mkF m 0 #[vR x0] [] := by first | (simp [entryFrame, mkF, argsToLocals, Value.category]; done) | rfl
def QasbL1 (Z : State) (b : Addr) (cz : Int32) (h0 : Heap) (n0 : Nat) (v : Option Value) (h : Heap) (L : List Loc) : Prop := v = some (.int 0) ∧ Fr n0 L ∧ h = h0
set_option maxRecDepth 65536 in
set_option maxHeartbeats 40000000 in
theorem rmasbL1 (l : Launch) (Z : State) (a0 : Array Value) (hw : ∀ d ∈ tables_1, d.before a0 Z = true) (ws : List Jvm.Cond) (b : Addr) (cz : Int32) (h0 : Heap) (n0 : Nat) (O0 : Old Z n0 h0) (hp0 : Fld Z h0 b "java/lang/AbstractStringBuilder" "coder" "B" (.int 1)) (hp1 : Sta Z Z.heap "java/lang/String" "COMPACT_STRINGS" "Z" (.int cz)) (hcz : (¬ (cz = (0 : Int32)))) :
    MetFree l mN26 (head1 (Jvm.Cond.code mN26 jdk_68_method_68_code 1 (some .boolean) :: ws) ({ frames := 0, cells := 0, slots := 0, locals := 0 } : Room)) (fun as_ U => as_ = #[(.ref b)] ∧ Z.Warmed39 U.vm ∧ U.heap = h0) (fun _ _ _ _ _ => True) (fun _ U o U' => ∃ v L, o = .returned v ∧ QasbL1 Z b cz h0 n0 v U'.heap L ∧ FrameEnd U o U' L ({ frames := 0, cells := 0, slots := 0, locals := 0 } : Room).cells ({ frames := 0, cells := 0, slots := 0, locals := 0 } : Room).slots) := by
  refine MetFree.of_bodySF (plainFor_of_name pn_java_lang_AbstractStringBuilder) hisR ?_
  intro p e s m args below meth c s₁ Bd hml0 hP hK
  obtain ⟨rfl, hZ, hh⟩ := hP
  have hx := Bd.exec
  have hby := Bd.bytes
  have hml : c.maxLocals = 1 := hml0
  have hown : s.vm.findClass "java/lang/AbstractStringBuilder" = some m.cls := findClass_of_methodNamed Bd.named
  have hnm := (name_of_methodNamed Bd.named Bd.method).1
  have X0 : Stand p l e ({ frames := 0, cells := 0, slots := 0, locals := 0 } : Room) s m #[(.ref b)] below meth c s₁ [] 0 0 := Stand.of_body Bd
  have e0 : s₁.heap = h0 := by rw [← hh, Bd.state]; rfl
  have N0 := Fr.nil n0
  have Z0 := own_z0 O0
  have pre0 : ∀ tg_, Steps p.tables e below (s₁.setTop (mkF m 0 #[vR b] [])) tg_ → Steps p.tables e below (s₁.setTop (entryFrame m #[(.ref b)] 1)) tg_ := fun tg_ kt_ => castTop (ef_asbL1 m b) kt_
  obtain ⟨T1, X1, e1, st1⟩ := getS2 X0 hx hZ hown (host := "") (Or.inl (hw _ w_41)) Via.refl e0 (hp1.ext O0.2) (g := (mkF m 0 #[vR b] [])) rfl (hb hby d26_0)
  obtain ⟨T2, X2, e2, st2⟩ := getF X1 hx hZ hown (host := "") (Or.inl (hw _ w_44)) Via.refl e1 hp0 (g := (mkF m 7 #[vR b] [(.ref b)])) rfl rfl (hb hby d26_7)
  obtain ⟨fs, hr, hrun, hended, hW, hsame⟩ := X2.leave (v := some (.int 0)) (fun h => by rw [Bd.returns] at h; cases h)
  refine ⟨_, _, pre0 _ ?_, hrun, hended, _, _, rfl, ?_, ⟨_, rfl⟩, hW, hsame.mono (by decide) (by decide)⟩
  · refine st1 _ ?_
    refine XS.ifNo X1.here hx rfl (hb hby d26_3) rfl ((if0 _ _).trans (feq hcz).1) ?_
    refine XS.aloadN X1.here hx rfl (hb hby d26_6) rfl rfl ?_
    refine st2 _ ?_
    refine XS.ifYes X2.here hx rfl (pc0 := 10) (pc' := 17) rfl (hb hby d26_10) rfl ((if0 _ _).trans (feq (by decide : ¬ ((1 : Int32) = (0 : Int32)))).2) (by decide) (by decide) ?_
    refine XS.iconst X2.here hx rfl (hb hby d26_17) ?_
    exact retN X2 hx (t := .boolean) Bd.returns (by simp) (hb hby d26_18) hr
  · show QasbL1 Z b cz h0 n0 _ T2.heap _
    rw [e2]
    exact ⟨rfl, N0, rfl⟩
theorem ef_coder0 (m : MethodId) (x0 : Addr) : entryFrame m #[(.ref x0)] 1 = mkF m 0 #[vR x0] [] := by first | (simp [entryFrame, mkF, argsToLocals, Value.category]; done) | rfl
def Qcoder0 (Z : State) (a : Addr) (cz : Int32) (h0 : Heap) (n0 : Nat) (v : Option Value) (h : Heap) (L : List Loc) : Prop := v = some (.int 0) ∧ Fr n0 L ∧ h = h0
set_option maxRecDepth 65536 in
set_option maxHeartbeats 40000000 in
theorem rmcoder0 (l : Launch) (Z : State) (a0 : Array Value) (hw : ∀ d ∈ tables_1, d.before a0 Z = true) (ws : List Jvm.Cond) (a : Addr) (cz : Int32) (h0 : Heap) (n0 : Nat) (O0 : Old Z n0 h0) (hp0 : Fld Z h0 a "java/lang/String" "coder" "B" (.int 0)) (hp1 : Sta Z Z.heap "java/lang/String" "COMPACT_STRINGS" "Z" (.int cz)) (hcz : (¬ (cz = (0 : Int32)))) :
    MetFree l mN1 (head1 (Jvm.Cond.code mN1 jdk_42_method_152_code 1 (some .byte) :: ws) ({ frames := 0, cells := 0, slots := 0, locals := 0 } : Room)) (fun as_ U => as_ = #[(.ref a)] ∧ Z.Warmed39 U.vm ∧ U.heap = h0) (fun _ _ _ _ _ => True) (fun _ U o U' => ∃ v L, o = .returned v ∧ Qcoder0 Z a cz h0 n0 v U'.heap L ∧ FrameEnd U o U' L ({ frames := 0, cells := 0, slots := 0, locals := 0 } : Room).cells ({ frames := 0, cells := 0, slots := 0, locals := 0 } : Room).slots) := by
  refine MetFree.of_bodySF (plainFor_of_name pn_java_lang_String) hisR ?_
  intro p e s m args below meth c s₁ Bd hml0 hP hK
  obtain ⟨rfl, hZ, hh⟩ := hP
  have hx := Bd.exec
  have hby := Bd.bytes
  have hml : c.maxLocals = 1 := hml0
  have hown : s.vm.findClass "java/lang/String" = some m.cls := findClass_of_methodNamed Bd.named
  have hnm := (name_of_methodNamed Bd.named Bd.method).1
  have X0 : Stand p l e ({ frames := 0, cells := 0, slots := 0, locals := 0 } : Room) s m #[(.ref a)] below meth c s₁ [] 0 0 := Stand.of_body Bd
  have e0 : s₁.heap = h0 := by rw [← hh, Bd.state]; rfl
  have N0 := Fr.nil n0
  have Z0 := own_z0 O0
  have pre0 : ∀ tg_, Steps p.tables e below (s₁.setTop (mkF m 0 #[vR a] [])) tg_ → Steps p.tables e below (s₁.setTop (entryFrame m #[(.ref a)] 1)) tg_ := fun tg_ kt_ => castTop (ef_coder0 m a) kt_
  obtain ⟨T1, X1, e1, st1⟩ := getS2 X0 hx hZ hown (host := "") (Or.inl (hw _ w_67)) Via.refl e0 (hp1.ext O0.2) (g := (mkF m 0 #[vR a] [])) rfl (hb hby d10_0)
  obtain ⟨T2, X2, e2, st2⟩ := getF X1 hx hZ hown (host := "") (Or.inl (hw _ w_21)) Via.refl e1 hp0 (g := (mkF m 7 #[vR a] [(.ref a)])) rfl rfl (hb hby d10_7)
  obtain ⟨fs, hr, hrun, hended, hW, hsame⟩ := X2.leave (v := some (.int 0)) (fun h => by rw [Bd.returns] at h; cases h)
  refine ⟨_, _, pre0 _ ?_, hrun, hended, _, _, rfl, ?_, ⟨_, rfl⟩, hW, hsame.mono (by decide) (by decide)⟩
  · refine st1 _ ?_
    refine XS.ifNo X1.here hx rfl (hb hby d10_3) rfl ((if0 _ _).trans (feq hcz).1) ?_
    refine XS.aloadN X1.here hx rfl (hb hby d10_6) rfl rfl ?_
    refine st2 _ ?_
    refine XS.goto X2.here hx rfl (pc0 := 10) (pc' := 14) rfl (hb hby d10_10) (by decide) (by decide) ?_
    exact retN X2 hx (t := .byte) Bd.returns (by simp) (hb hby d10_14) hr
  · show Qcoder0 Z a cz h0 n0 _ T2.heap _
    rw [e2]
    exact ⟨rfl, N0, rfl⟩
theorem ef_coder1 (m : MethodId) (x0 : Addr) : entryFrame m #[(.ref x0)] 1 = mkF m 0 #[vR x0] [] := by first | (simp [entryFrame, mkF, argsToLocals, Value.category]; done) | rfl
def Qcoder1 (Z : State) (a : Addr) (cz : Int32) (h0 : Heap) (n0 : Nat) (v : Option Value) (h : Heap) (L : List Loc) : Prop := v = some (.int 1) ∧ Fr n0 L ∧ h = h0
set_option maxRecDepth 65536 in
set_option maxHeartbeats 40000000 in
theorem rmcoder1 (l : Launch) (Z : State) (a0 : Array Value) (hw : ∀ d ∈ tables_1, d.before a0 Z = true) (ws : List Jvm.Cond) (a : Addr) (cz : Int32) (h0 : Heap) (n0 : Nat) (O0 : Old Z n0 h0) (hp0 : Fld Z h0 a "java/lang/String" "coder" "B" (.int 1)) (hp1 : Sta Z Z.heap "java/lang/String" "COMPACT_STRINGS" "Z" (.int cz)) (hcz : (¬ (cz = (0 : Int32)))) :
    MetFree l mN1 (head1 (Jvm.Cond.code mN1 jdk_42_method_152_code 1 (some .byte) :: ws) ({ frames := 0, cells := 0, slots := 0, locals := 0 } : Room)) (fun as_ U => as_ = #[(.ref a)] ∧ Z.Warmed39 U.vm ∧ U.heap = h0) (fun _ _ _ _ _ => True) (fun _ U o U' => ∃ v L, o = .returned v ∧ Qcoder1 Z a cz h0 n0 v U'.heap L ∧ FrameEnd U o U' L ({ frames := 0, cells := 0, slots := 0, locals := 0 } : Room).cells ({ frames := 0, cells := 0, slots := 0, locals := 0 } : Room).slots) := by
  refine MetFree.of_bodySF (plainFor_of_name pn_java_lang_String) hisR ?_
  intro p e s m args below meth c s₁ Bd hml0 hP hK
  obtain ⟨rfl, hZ, hh⟩ := hP
  have hx := Bd.exec
  have hby := Bd.bytes
  have hml : c.maxLocals = 1 := hml0
  have hown : s.vm.findClass "java/lang/String" = some m.cls := findClass_of_methodNamed Bd.named
  have hnm := (name_of_methodNamed Bd.named Bd.method).1
  have X0 : Stand p l e ({ frames := 0, cells := 0, slots := 0, locals := 0 } : Room) s m #[(.ref a)] below meth c s₁ [] 0 0 := Stand.of_body Bd
  have e0 : s₁.heap = h0 := by rw [← hh, Bd.state]; rfl
  have N0 := Fr.nil n0
  have Z0 := own_z0 O0
  have pre0 : ∀ tg_, Steps p.tables e below (s₁.setTop (mkF m 0 #[vR a] [])) tg_ → Steps p.tables e below (s₁.setTop (entryFrame m #[(.ref a)] 1)) tg_ := fun tg_ kt_ => castTop (ef_coder1 m a) kt_
  obtain ⟨T1, X1, e1, st1⟩ := getS2 X0 hx hZ hown (host := "") (Or.inl (hw _ w_67)) Via.refl e0 (hp1.ext O0.2) (g := (mkF m 0 #[vR a] [])) rfl (hb hby d10_0)
  obtain ⟨T2, X2, e2, st2⟩ := getF X1 hx hZ hown (host := "") (Or.inl (hw _ w_21)) Via.refl e1 hp0 (g := (mkF m 7 #[vR a] [(.ref a)])) rfl rfl (hb hby d10_7)
  obtain ⟨fs, hr, hrun, hended, hW, hsame⟩ := X2.leave (v := some (.int 1)) (fun h => by rw [Bd.returns] at h; cases h)
  refine ⟨_, _, pre0 _ ?_, hrun, hended, _, _, rfl, ?_, ⟨_, rfl⟩, hW, hsame.mono (by decide) (by decide)⟩
  · refine st1 _ ?_
    refine XS.ifNo X1.here hx rfl (hb hby d10_3) rfl ((if0 _ _).trans (feq hcz).1) ?_
    refine XS.aloadN X1.here hx rfl (hb hby d10_6) rfl rfl ?_
    refine st2 _ ?_
    refine XS.goto X2.here hx rfl (pc0 := 10) (pc' := 14) rfl (hb hby d10_10) (by decide) (by decide) ?_
    exact retN X2 hx (t := .byte) Bd.returns (by simp) (hb hby d10_14) hr
  · show Qcoder1 Z a cz h0 n0 _ T2.heap _
    rw [e2]
    exact ⟨rfl, N0, rfl⟩
abbrev c48_ := jdk_68_method_11_code
theorem d48_0 : decode c48_ 0 = .ok (.aload_n 0, 1) := by decide +kernel
theorem w_270 : (Cond.methodLink "java/lang/AbstractStringBuilder" (83 : Nat) mN26) ∈ tables_1 := List.mem_of_getElem? (i := 270) (by decide +kernel)
theorem w_148 : (Cond.code mN26 jdk_68_method_68_code (1 : Nat) (Option.some FieldType.boolean)) ∈ tables_1 := List.mem_of_getElem? (i := 148) (by decide +kernel)
theorem pd___Z : parseMethodDescriptor "()Z" = some ⟨[], some .boolean⟩ := by decide +kernel
theorem d48_1 : decode c48_ 1 = .ok (.invokevirtual 83, 3) := by decide +kernel
theorem w_147 : (Cond.selects "java/lang/StringBuilder" mN26 mN26) ∈ tables_1 := List.mem_of_getElem? (i := 147) (by decide +kernel)
theorem w_145 : (Cond.declares mN26) ∈ tables_1 := List.mem_of_getElem? (i := 145) (by decide +kernel)
theorem w_146 : (Cond.instanceMethod mN26) ∈ tables_1 := List.mem_of_getElem? (i := 146) (by decide +kernel)
theorem d48_4 : decode c48_ 4 = .ok (.ifCond .ne 4, 3) := by decide +kernel
theorem d48_8 : decode c48_ 8 = .ok (.aload_n 0, 1) := by decide +kernel
theorem d48_9 : decode c48_ 9 = .ok (.getfield 15, 3) := by decide +kernel
theorem d48_12 : decode c48_ 12 = .ok (.arraylength, 1) := by decide +kernel
theorem w_271 : (Cond.methodLink "java/lang/AbstractStringBuilder" (26 : Nat) mN4) ∈ tables_1 := List.mem_of_getElem? (i := 271) (by decide +kernel)
theorem d48_13 : decode c48_ 13 = .ok (.invokestatic 26, 3) := by decide +kernel
theorem d48_16 : decode c48_ 16 = .ok (.astore_n 1, 1) := by decide +kernel
theorem d48_17 : decode c48_ 17 = .ok (.aload_n 0, 1) := by decide +kernel
theorem d48_18 : decode c48_ 18 = .ok (.getfield 15, 3) := by decide +kernel
theorem d48_21 : decode c48_ 21 = .ok (.iconst 0, 1) := by decide +kernel
theorem d48_22 : decode c48_ 22 = .ok (.aload_n 1, 1) := by decide +kernel
theorem d48_23 : decode c48_ 23 = .ok (.iconst 0, 1) := by decide +kernel
theorem d48_24 : decode c48_ 24 = .ok (.aload_n 0, 1) := by decide +kernel
theorem w_68 : (Cond.fieldLink "java/lang/AbstractStringBuilder" (79 : Nat) "java/lang/AbstractStringBuilder" "count" "I") ∈ tables_1 := List.mem_of_getElem? (i := 68) (by decide +kernel)
theorem d48_25 : decode c48_ 25 = .ok (.getfield 79, 3) := by decide +kernel
theorem w_272 : (Cond.methodLink "java/lang/AbstractStringBuilder" (125 : Nat) mN25) ∈ tables_1 := List.mem_of_getElem? (i := 272) (by decide +kernel)
theorem w_274 : (Cond.code mN25 jdk_43_method_50_code (5 : Nat) (Option.none : Option Jvm.ClassFile.FieldType)) ∈ tables_1 := List.mem_of_getElem? (i := 274) (by decide +kernel)
theorem w_234 : (Cond.initialized "java/lang/StringLatin1") ∈ tables_1 := List.mem_of_getElem? (i := 234) (by decide +kernel)
theorem d48_28 : decode c48_ 28 = .ok (.invokestatic 125, 3) := by decide +kernel
theorem w_273 : (Cond.static mN25) ∈ tables_1 := List.mem_of_getElem? (i := 273) (by decide +kernel)
theorem d48_31 : decode c48_ 31 = .ok (.aload_n 0, 1) := by decide +kernel
theorem d48_32 : decode c48_ 32 = .ok (.aload_n 1, 1) := by decide +kernel
theorem d48_33 : decode c48_ 33 = .ok (.putfield 15, 3) := by decide +kernel
theorem d48_36 : decode c48_ 36 = .ok (.aload_n 0, 1) := by decide +kernel
theorem d48_37 : decode c48_ 37 = .ok (.iconst 1, 1) := by decide +kernel
theorem d48_38 : decode c48_ 38 = .ok (.putfield 22, 3) := by decide +kernel
theorem d48_41 : decode c48_ 41 = .ok (.return_, 1) := by decide +kernel
abbrev mN27 : MethodName := ⟨"java/lang/AbstractStringBuilder", "inflate", "()V"⟩
theorem ef_infL (m : MethodId) (x0 : Addr) : entryFrame m #[(.ref x0)] 2 = mkF m 0 #[vR x0, .unset] [] := by first | (simp [entryFrame, mkF, argsToLocals, Value.category]; done) | rfl
def QinfL (Z : State) (b : Addr) (cz : Int32) (sf : Value) (vb : Addr) (kv : ClassId) (cs : List Int32) (cp : Nat) (h0 : Heap) (n0 : Nat) (v : Option Value) (h : Heap) (L : List Loc) : Prop := ∃ (r : Addr), ∃ (kr : ClassId), v = none ∧ Fr n0 L ∧ Keep h0 h [b] ∧ h0.size ≤ r ∧ Exa Z h b "java/lang/StringBuilder" ∧ Fld Z h b "java/lang/AbstractStringBuilder" "value" "[B" (.ref r) ∧ Fld Z h b "java/lang/AbstractStringBuilder" "coder" "B" (.int 1) ∧ Fld Z h b "java/lang/AbstractStringBuilder" "count" "I" (.int (own_i cs.length)) ∧ Fld Z h b "java/lang/AbstractStringBuilder" "maybeLatin1" "Z" (.int 0) ∧ Arv Z h r kr .byte (own_i (2 * cp)) ((own_e1 cs).map Value.int) (.int 0)
set_option maxRecDepth 65536 in
set_option maxHeartbeats 40000000 in
theorem rminfL (l : Launch) (Z : State) (a0 : Array Value) (hw : ∀ d ∈ tables_1, d.before a0 Z = true) (ws : List Jvm.Cond) (b : Addr) (cz : Int32) (sf : Value) (vb : Addr) (kv : ClassId) (cs : List Int32) (cp : Nat) (h0 : Heap) (n0 : Nat) (O0 : Old Z n0 h0) (hp0 : Exa Z h0 b "java/lang/StringBuilder") (hp1 : n0 ≤ b) (hp2 : Fld Z h0 b "java/lang/AbstractStringBuilder" "value" "[B" (.ref vb)) (hp3 : Fld Z h0 b "java/lang/AbstractStringBuilder" "coder" "B" (.int 0)) (hp4 : Fld Z h0 b "java/lang/AbstractStringBuilder" "count" "I" (.int (own_i cs.length))) (hp5 : Fld Z h0 b "java/lang/AbstractStringBuilder" "maybeLatin1" "Z" (.int 0)) (hp6 : Arv Z h0 vb kv .byte (own_i cp) ((cs.map own_b).map Value.int) (.int 0)) (hlc : (cs.length ≤ cp)) (hcp : (cp ≤ 80)) (hch : (own_Ch cs)) (h0_ : (own_cd cs = 0)) (hp11 : Sta Z Z.heap "java/lang/StringUTF16" "$assertionsDisabled" "Z" (.int 1)) (hp12 : Sta Z Z.heap "java/lang/StringUTF16" "HI_BYTE_SHIFT" "I" (.int 0)) (hp13 : Sta Z Z.heap "java/lang/StringUTF16" "LO_BYTE_SHIFT" "I" (.int 8)) (hp14 : Sta Z Z.heap "jdk/internal/util/Preconditions" "SIOOBE_FORMATTER" "Ljava/util/function/BiFunction;" sf) (hsf : (sf.isRef = true)) (hp16 : Sta Z Z.heap "java/lang/String" "COMPACT_STRINGS" "Z" (.int cz)) (hcz : (¬ (cz = (0 : Int32)))) :
    MetFree l mN27 (head1 (Jvm.Cond.code mN27 jdk_68_method_11_code 2 none :: ws) ({ frames := 5, cells := 1, slots := 160, locals := 76 } : Room)) (fun as_ U => as_ = #[(.ref b)] ∧ Z.Warmed39 U.vm ∧ U.heap = h0) (fun _ _ _ _ _ => True) (fun _ U o U' => ∃ v L, o = .returned v ∧ QinfL Z b cz sf vb kv cs cp h0 n0 v U'.heap L ∧ FrameEnd U o U' L ({ frames := 5, cells := 1, slots := 160, locals := 76 } : Room).cells ({ frames := 5, cells := 1, slots := 160, locals := 76 } : Room).slots) := by
  refine MetFree.of_bodySF (plainFor_of_name pn_java_lang_AbstractStringBuilder) hisR ?_
  intro p e s m args below meth c s₁ Bd hml0 hP hK
  obtain ⟨rfl, hZ, hh⟩ := hP
  have hx := Bd.exec
  have hby := Bd.bytes
  have hml : c.maxLocals = 2 := hml0
  have hown : s.vm.findClass "java/lang/AbstractStringBuilder" = some m.cls := findClass_of_methodNamed Bd.named
  have hnm := (name_of_methodNamed Bd.named Bd.method).1
  have X0 : Stand p l e ({ frames := 5, cells := 1, slots := 160, locals := 76 } : Room) s m #[(.ref b)] below meth c s₁ [] 0 0 := Stand.of_body Bd
  have e0 : s₁.heap = h0 := by rw [← hh, Bd.state]; rfl
  have N0 := Fr.nil n0
  have Z0 := own_z0 O0
  have pre0 : ∀ tg_, Steps p.tables e below (s₁.setTop (mkF m 0 #[vR b, .unset] [])) tg_ → Steps p.tables e below (s₁.setTop (entryFrame m #[(.ref b)] 2)) tg_ := fun tg_ kt_ => castTop (ef_infL m b) kt_
  obtain ⟨cq1, kq1, q1a, q1b, q1c⟩ := isOf hZ e0 hp0
  obtain ⟨_, _, ⟨T1, L1, k1, n1⟩, -, X1, ⟨Lc1, hQ1, l1, y1, z1⟩, st1⟩ := X0.virtualBack hx (y := mN26) (z := mN26) hown (mvT hZ (hw _ w_270)) (mvT hZ (hw _ w_145)) (notFace_of_selects (args := #[]) (mvT hZ (hw _ w_147))) (mvT hZ (hw _ w_147)) (mvT hZ (hw _ w_146)) (by decide) (backOf (W := 0) (rmasbL0 l Z a0 hw [] b cz h0 n0 O0 hp3 hp16 hcz) hZ (hw _ w_148) (hw _ w_38) (by decide) (by decide)) q1a q1c (g := (mkF m 1 #[vR b, .unset] [(.ref b)])) rfl (by rw [hml]; rfl) (Steps.refl _) (argsL := []) (rest := []) (lenOf pd___Z rfl) rfl (by show 2 * 0 + _ ≤ _; exact Nat.le_of_eq rfl) (hb hby d48_1) (fun _ _ => ⟨rfl, e0, (by decide : 0 + 0 ≤ _), (by decide : 0 + 0 ≤ _)⟩)
  dsimp only [Pt.U, Pt.locs, Pt.cells, Pt.slots] at X1 l1 y1 z1 st1 hQ1
  subst l1 y1 z1
  obtain ⟨rfl, N1q, eh1⟩ := hQ1
  have N1 := Fr.app N0 N1q
  obtain ⟨T2, X2, e2, st2⟩ := getF X1 hx hZ hown (host := "") (Or.inl (hw _ w_42)) Via.refl eh1 hp2 (g := (mkF m 9 #[vR b, .unset] [(.ref b)])) rfl rfl (hb hby d48_9)
  obtain ⟨cl3, Ar3, -, S3, Ng3, -, -⟩ := id hp6
  obtain ⟨_, _, ⟨T4, L4, k4, n4⟩, -, X4, ⟨Lc4, hQ4, l4, y4, z4⟩, st4⟩ := Jvm.LawKit.callS X2 hx (y := mN4) hown (mvT hZ (hw _ w_271)) (mvT hZ (hw _ w_250)) (mvT hZ (hw _ w_238)) (mvT hZ (hw _ w_251)) (by decide) (backOf (W := 0) (rmnbf l Z a0 hw [] cp h0 n0 O0 hcp) hZ (hw _ w_251) (hw _ w_238) (by decide) (by decide)) (g := (mkF m 13 #[vR b, .unset] [(.int (own_i cp))])) rfl (by rw [hml]; rfl) (argsL := [(.int (own_i cp))]) (rest := []) (lenOf pd__I_AB rfl) rfl (by show 2 * 0 + _ ≤ _; exact Nat.le_of_eq rfl) (hb hby d48_13) (fun _ _ => ⟨rfl, e2, (by decide : 0 + 1 ≤ _), (by decide : 0 + 160 ≤ _)⟩)
  dsimp only [Pt.U, Pt.locs, Pt.cells, Pt.slots] at X4 l4 y4 z4 st4 hQ4
  subst l4 y4 z4
  obtain ⟨r_4, kr_4, rfl, N4q, Kc4, r4_1, r4_2⟩ := hQ4
  have N4 := Fr.app N1 N4q
  have sz5 : h0.size ≤ r_4 := Nat.le_trans (Keep.refl h0 [b]).1 r4_1
  have gn5 : n0 ≤ r_4 := Nat.le_trans Z0 sz5
  have O4 : Old Z n0 T4.heap := O0.keep Kc4 all0
  have K4 : Keep h0 T4.heap [b] := (Keep.refl h0 [b]).trans Kc4 all0
  obtain ⟨T7, X7, e7, st7⟩ := getF X4 hx hZ hown (host := "") (Or.inl (hw _ w_42)) Via.refl rfl (hp2.keep Kc4 nin0) (g := (mkF m 18 #[vR b, vR r_4] [(.ref b)])) rfl rfl (hb hby d48_18)
  obtain ⟨T8, X8, e8, st8⟩ := getF X7 hx hZ hown (host := "") (Or.inl (hw _ w_68)) Via.refl e7 (hp4.keep Kc4 nin0) (g := (mkF m 25 #[vR b, vR r_4] [(.ref b), (.int 0), (.ref r_4), (.int 0), (.ref vb)])) rfl rfl (hb hby d48_25)
  have Vr9 : Arv Z T4.heap r_4 kr_4 .byte (own_i (2 * cp)) ((own_e1 []).map Value.int) (.int 0) := by
    have q := r4_2
    exact q
  obtain ⟨_, _, ⟨T10, L10, k10, n10⟩, -, X10, ⟨Lc10, hQ10, l10, y10, z10⟩, st10⟩ := Jvm.LawKit.callS X8 hx (y := mN25) hown (mvT hZ (hw _ w_272)) (mvT hZ (hw _ w_273)) (mvT hZ (hw _ w_234)) (mvT hZ (hw _ w_274)) (by decide) (backOf (W := 0) (rmlinf l Z a0 hw [] vb r_4 0 kv cp cs kr_4 cp [] sf T4.heap n0 O4 (hp6.keep Kc4 nin0) gn5 Vr9 (Nat.ne_of_lt (Nat.lt_of_lt_of_le hp6.lt r4_1)) rfl (by omega) (by omega) (⟨hlc, by omega⟩) hch h0_ hp11 hp12 hp13 hp14 hsf) hZ (hw _ w_274) (hw _ w_234) (by decide) (by decide)) (g := (mkF m 28 #[vR b, vR r_4] [(.int (own_i cs.length)), (.int 0), (.ref r_4), (.int 0), (.ref vb)])) rfl (by rw [hml]; rfl) (argsL := [(.ref vb), (.int 0), (.ref r_4), (.int 0), (.int (own_i cs.length))]) (rest := []) (lenOf pd__ABIABII_V rfl) rfl (by show 2 * 0 + _ ≤ _; exact Nat.le_of_eq rfl) (hb hby d48_28) (fun _ _ => ⟨rfl, e8, (by decide : 1 + 0 ≤ _), (by decide : 160 + 0 ≤ _)⟩)
  dsimp only [Pt.U, Pt.locs, Pt.cells, Pt.slots] at X10 l10 y10 z10 st10 hQ10
  subst l10 y10 z10
  obtain ⟨rfl, N10q, Kc10, r10_1⟩ := hQ10
  have N10 := Fr.app N4 N10q
  have O10 : Old Z n0 T10.heap := O4.keep Kc10 (allS gn5 all0)
  have K10 : Keep h0 T10.heap [b] := K4.trans Kc10 (allS (Or.inr sz5) all0)
  obtain ⟨T11, h11, X11, e11, W11, st11⟩ := putF X10 hx hZ hown (host := "") (Or.inl (hw _ w_42)) Via.refl rfl ((hp2.keep Kc4 nin0).keep Kc10 (ninS (Nat.ne_of_lt (Nat.lt_of_lt_of_le hp0.lt r4_1)) nin0)) ((hp0.keep Kc4).keep Kc10) (Or.inl (hw _ w_43)) (hw _ w_29) (ty := (.array .byte)) (by decide) rfl rfl (g := (mkF m 33 #[vR b, vR r_4] [(.ref r_4), (.ref b)])) rfl rfl (hb hby d48_33)
  have Fw11 := ((hp2.keep Kc4 nin0).keep Kc10 (ninS (Nat.ne_of_lt (Nat.lt_of_lt_of_le hp0.lt r4_1)) nin0)).same W11
  have N11 := Fr.snoc X11 N10 hp1
  have O11 : Old Z n0 h11 := O10.wr W11 hp1
  have K11 : Keep h0 h11 [b] := K10.wr W11 (Or.inl (List.mem_of_getElem? (i := 0) rfl))
  obtain ⟨T12, h12, X12, e12, W12, st12⟩ := putFN X11 hx hZ hown (hw _ w_44) Via.refl e11 (((hp3.keep Kc4 nin0).keep Kc10 (ninS (Nat.ne_of_lt (Nat.lt_of_lt_of_le hp0.lt r4_1)) nin0)).other W11 (Or.inr (slot_ne (Or.inl (hw _ w_45)) (Or.inl (hw _ w_43)) (by decide) (t := .byte) (t' := (.array .byte)) (by decide) (by decide)))) (((hp0.keep Kc4).keep Kc10).wr W11) (Or.inl (hw _ w_45)) (hw _ w_29) (ty := .byte) (v' := (.int 1)) (by decide) rfl rfl (g := (mkF m 38 #[vR b, vR r_4] [(.int 1), (.ref b)])) rfl rfl (hb hby d48_38)
  have Fw12 := (((hp3.keep Kc4 nin0).keep Kc10 (ninS (Nat.ne_of_lt (Nat.lt_of_lt_of_le hp0.lt r4_1)) nin0)).other W11 (Or.inr (slot_ne (Or.inl (hw _ w_45)) (Or.inl (hw _ w_43)) (by decide) (t := .byte) (t' := (.array .byte)) (by decide) (by decide)))).same W12
  have N12 := Fr.snoc X12 N11 hp1
  have O12 : Old Z n0 h12 := O11.wr W12 hp1
  have K12 : Keep h0 h12 [b] := K11.wr W12 (Or.inl (List.mem_of_getElem? (i := 0) rfl))
  obtain ⟨fs, hr, hrun, hended, hW, hsame⟩ := X12.leave (v := none) (fun _ => rfl)
  refine ⟨_, _, pre0 _ ?_, hrun, hended, _, _, rfl, ?_, ⟨_, rfl⟩, hW, hsame.mono (by decide) (by decide)⟩
  · refine XS.aloadN X0.here hx rfl (hb hby d48_0) rfl rfl ?_
    refine st1.trans ?_
    refine XS.ifYes X1.here hx rfl (pc0 := 4) (pc' := 8) rfl (hb hby d48_4) rfl ((if0 _ _).trans (feq (by decide : ¬ ((1 : Int32) = (0 : Int32)))).2) (by decide) (by decide) ?_
    refine XS.aloadN X1.here hx rfl (hb hby d48_8) rfl rfl ?_
    refine st2 _ ?_
    refine X2.arraylength hx (by rw [e2]; exact Ar3.1) (State.isArrayOf_alike hZ.alike Ar3.2.1) (g := (mkF m 12 #[vR b, .unset] [(.ref vb)])) rfl rfl (hb hby d48_12) _ ?_
    rw [len_of S3 Ng3]
    refine st4 _ ?_
    refine XS.astoreN X4.here hx rfl (hb hby d48_16) rfl rfl (l' := #[vR b, vR r_4]) rfl ?_
    refine XS.aloadN X4.here hx rfl (hb hby d48_17) rfl rfl ?_
    refine st7 _ ?_
    refine XS.iconst X7.here hx rfl (hb hby d48_21) ?_
    refine XS.aloadN X7.here hx rfl (hb hby d48_22) rfl rfl ?_
    refine XS.iconst X7.here hx rfl (hb hby d48_23) ?_
    refine XS.aloadN X7.here hx rfl (hb hby d48_24) rfl rfl ?_
    show Steps _ _ _ (T7.setTop (mkF m 25 #[vR b, vR r_4] [(.ref b), (.int 0), (.ref r_4), (.int 0), (.ref vb)])) _
    refine st8 _ ?_
    refine st10 _ ?_
    refine XS.aloadN X10.here hx rfl (hb hby d48_31) rfl rfl ?_
    refine XS.aloadN X10.here hx rfl (hb hby d48_32) rfl rfl ?_
    refine st11 _ ?_
    refine XS.aloadN X11.here hx rfl (hb hby d48_36) rfl rfl ?_
    refine XS.iconst X11.here hx rfl (hb hby d48_37) ?_
    refine st12 _ ?_
    exact X12.returnOut hx Bd.returns (hb hby d48_41) hr
  · show QinfL Z b cz sf vb kv cs cp h0 n0 _ T12.heap _
    rw [e12]
    exact ⟨r_4, kr_4, rfl, N12, K12, sz5, ((((hp0.keep Kc4).keep Kc10).wr W11).wr W12), (Fw11.other W12 (Or.inr (slot_ne (Or.inl (hw _ w_43)) (Or.inl (hw _ w_45)) (by decide) (t := (.array .byte)) (t' := .byte) (by decide) (by decide)))), Fw12, ((((hp4.keep Kc4 nin0).keep Kc10 (ninS (Nat.ne_of_lt (Nat.lt_of_lt_of_le hp0.lt r4_1)) nin0)).other W11 (Or.inr (slot_ne (Or.inl (hw _ w_69)) (Or.inl (hw _ w_43)) (by decide) (t := .int) (t' := (.array .byte)) (by decide) (by decide)))).other W12 (Or.inr (slot_ne (Or.inl (hw _ w_69)) (Or.inl (hw _ w_45)) (by decide) (t := .int) (t' := .byte) (by decide) (by decide)))), ((((hp5.keep Kc4 nin0).keep Kc10 (ninS (Nat.ne_of_lt (Nat.lt_of_lt_of_le hp0.lt r4_1)) nin0)).other W11 (Or.inr (slot_ne (Or.inl (hw _ w_294)) (Or.inl (hw _ w_43)) (by decide) (t := .boolean) (t' := (.array .byte)) (by decide) (by decide)))).other W12 (Or.inr (slot_ne (Or.inl (hw _ w_294)) (Or.inl (hw _ w_45)) (by decide) (t := .boolean) (t' := .byte) (by decide) (by decide)))), ((r10_1.other W11 (Ne.symm (Nat.ne_of_lt (Nat.lt_of_lt_of_le hp0.lt r4_1)))).other W12 (Ne.symm (Nat.ne_of_lt (Nat.lt_of_lt_of_le hp0.lt r4_1))))⟩
theorem d48_7 : decode c48_ 7 = .ok (.return_, 1) := by decide +kernel
theorem ef_infU (m : MethodId) (x0 : Addr) : entryFrame m #[(.ref x0)] 2 = mkF m 0 #[vR x0, .unset] [] := by first | (simp [entryFrame, mkF, argsToLocals, Value.category]; done) | rfl
def QinfU (Z : State) (b : Addr) (cz : Int32) (h0 : Heap) (n0 : Nat) (v : Option Value) (h : Heap) (L : List Loc) : Prop := v = none ∧ Fr n0 L ∧ h = h0
set_option maxRecDepth 65536 in
set_option maxHeartbeats 40000000 in
theorem rminfU (l : Launch) (Z : State) (a0 : Array Value) (hw : ∀ d ∈ tables_1, d.before a0 Z = true) (ws : List Jvm.Cond) (b : Addr) (cz : Int32) (h0 : Heap) (n0 : Nat) (O0 : Old Z n0 h0) (hp0 : Exa Z h0 b "java/lang/StringBuilder") (hp1 : Fld Z h0 b "java/lang/AbstractStringBuilder" "coder" "B" (.int 1)) (hp2 : Sta Z Z.heap "java/lang/String" "COMPACT_STRINGS" "Z" (.int cz)) (hcz : (¬ (cz = (0 : Int32)))) :
    MetFree l mN27 (head1 (Jvm.Cond.code mN27 jdk_68_method_11_code 2 none :: ws) ({ frames := 1, cells := 0, slots := 0, locals := 12 } : Room)) (fun as_ U => as_ = #[(.ref b)] ∧ Z.Warmed39 U.vm ∧ U.heap = h0) (fun _ _ _ _ _ => True) (fun _ U o U' => ∃ v L, o = .returned v ∧ QinfU Z b cz h0 n0 v U'.heap L ∧ FrameEnd U o U' L ({ frames := 1, cells := 0, slots := 0, locals := 12 } : Room).cells ({ frames := 1, cells := 0, slots := 0, locals := 12 } : Room).slots) := by
  refine MetFree.of_bodySF (plainFor_of_name pn_java_lang_AbstractStringBuilder) hisR ?_
  intro p e s m args below meth c s₁ Bd hml0 hP hK
  obtain ⟨rfl, hZ, hh⟩ := hP
  have hx := Bd.exec
  have hby := Bd.bytes
  have hml : c.maxLocals = 2 := hml0
  have hown : s.vm.findClass "java/lang/AbstractStringBuilder" = some m.cls := findClass_of_methodNamed Bd.named
  have hnm := (name_of_methodNamed Bd.named Bd.method).1
  have X0 : Stand p l e ({ frames := 1, cells := 0, slots := 0, locals := 12 } : Room) s m #[(.ref b)] below meth c s₁ [] 0 0 := Stand.of_body Bd
  have e0 : s₁.heap = h0 := by rw [← hh, Bd.state]; rfl
  have N0 := Fr.nil n0
  have Z0 := own_z0 O0
  have pre0 : ∀ tg_, Steps p.tables e below (s₁.setTop (mkF m 0 #[vR b, .unset] [])) tg_ → Steps p.tables e below (s₁.setTop (entryFrame m #[(.ref b)] 2)) tg_ := fun tg_ kt_ => castTop (ef_infU m b) kt_
  obtain ⟨cq1, kq1, q1a, q1b, q1c⟩ := isOf hZ e0 hp0
  obtain ⟨_, _, ⟨T1, L1, k1, n1⟩, -, X1, ⟨Lc1, hQ1, l1, y1, z1⟩, st1⟩ := X0.virtualBack hx (y := mN26) (z := mN26) hown (mvT hZ (hw _ w_270)) (mvT hZ (hw _ w_145)) (notFace_of_selects (args := #[]) (mvT hZ (hw _ w_147))) (mvT hZ (hw _ w_147)) (mvT hZ (hw _ w_146)) (by decide) (backOf (W := 0) (rmasbL1 l Z a0 hw [] b cz h0 n0 O0 hp1 hp2 hcz) hZ (hw _ w_148) (hw _ w_38) (by decide) (by decide)) q1a q1c (g := (mkF m 1 #[vR b, .unset] [(.ref b)])) rfl (by rw [hml]; rfl) (Steps.refl _) (argsL := []) (rest := []) (lenOf pd___Z rfl) rfl (by show 2 * 0 + _ ≤ _; exact Nat.le_of_eq rfl) (hb hby d48_1) (fun _ _ => ⟨rfl, e0, (by decide : 0 + 0 ≤ _), (by decide : 0 + 0 ≤ _)⟩)
  dsimp only [Pt.U, Pt.locs, Pt.cells, Pt.slots] at X1 l1 y1 z1 st1 hQ1
  subst l1 y1 z1
  obtain ⟨rfl, N1q, eh1⟩ := hQ1
  have N1 := Fr.app N0 N1q
  obtain ⟨fs, hr, hrun, hended, hW, hsame⟩ := X1.leave (v := none) (fun _ => rfl)
  refine ⟨_, _, pre0 _ ?_, hrun, hended, _, _, rfl, ?_, ⟨_, rfl⟩, hW, hsame.mono (by decide) (by decide)⟩
  · refine XS.aloadN X0.here hx rfl (hb hby d48_0) rfl rfl ?_
    refine st1.trans ?_
    refine XS.ifNo X1.here hx rfl (hb hby d48_4) rfl ((if0 _ _).trans (teq (by decide : (0 : Int32) = (0 : Int32))).2) ?_
    exact X1.returnOut hx Bd.returns (hb hby d48_7) hr
  · show QinfU Z b cz h0 n0 _ T1.heap _
    rw [eh1]
    exact ⟨rfl, N1, rfl⟩
abbrev c18_ := jdk_68_method_71_code
theorem d18_0 : decode c18_ 0 = .ok (.getstatic 18, 3) := by decide +kernel
theorem d18_3 : decode c18_ 3 = .ok (.ifCond .eq 18, 3) := by decide +kernel
theorem d18_6 : decode c18_ 6 = .ok (.aload_n 0, 1) := by decide +kernel
theorem d18_7 : decode c18_ 7 = .ok (.getfield 22, 3) := by decide +kernel
theorem d18_10 : decode c18_ 10 = .ok (.aload_n 1, 1) := by decide +kernel
theorem w_111 : (Cond.methodLink "java/lang/AbstractStringBuilder" (40 : Nat) mN1) ∈ tables_1 := List.mem_of_getElem? (i := 111) (by decide +kernel)
theorem d18_11 : decode c18_ 11 = .ok (.invokevirtual 40, 3) := by decide +kernel
theorem d18_14 : decode c18_ 14 = .ok (.if_icmp .eq 7, 3) := by decide +kernel
theorem d18_21 : decode c18_ 21 = .ok (.return_, 1) := by decide +kernel
theorem d18_17 : decode c18_ 17 = .ok (.aload_n 0, 1) := by decide +kernel
theorem w_265 : (Cond.methodLink "java/lang/AbstractStringBuilder" (195 : Nat) mN27) ∈ tables_1 := List.mem_of_getElem? (i := 265) (by decide +kernel)
theorem w_269 : (Cond.code mN27 jdk_68_method_11_code (2 : Nat) (Option.none : Option Jvm.ClassFile.FieldType)) ∈ tables_1 := List.mem_of_getElem? (i := 269) (by decide +kernel)
theorem pd___V : parseMethodDescriptor "()V" = some ⟨[], none⟩ := by decide +kernel
theorem d18_18 : decode c18_ 18 = .ok (.invokevirtual 195, 3) := by decide +kernel
theorem w_268 : (Cond.selects "java/lang/StringBuilder" mN27 mN27) ∈ tables_1 := List.mem_of_getElem? (i := 268) (by decide +kernel)
theorem w_267 : (Cond.privateMethod mN27) ∈ tables_1 := List.mem_of_getElem? (i := 267) (by decide +kernel)
theorem w_266 : (Cond.instanceMethod mN27) ∈ tables_1 := List.mem_of_getElem? (i := 266) (by decide +kernel)
abbrev mN28 : MethodName := ⟨"java/lang/AbstractStringBuilder", "inflateIfNeededFor", "(Ljava/lang/String;)V"⟩
theorem ef_infN (m : MethodId) (x0 : Addr) (x1 : Addr) : entryFrame m #[(.ref x0), (.ref x1)] 2 = mkF m 0 #[vR x0, vR x1] [] := by first | (simp [entryFrame, mkF, argsToLocals, Value.category]; done) | rfl
def QinfN (Z : State) (b : Addr) (a : Addr) (cz : Int32) (sf : Value) (vb : Addr) (kv : ClassId) (cs : List Int32) (cp : Nat) (ds : List Int32) (h0 : Heap) (n0 : Nat) (v : Option Value) (h : Heap) (L : List Loc) : Prop := ∃ (vb2 : Addr), ∃ (kv2 : ClassId), v = none ∧ Fr n0 L ∧ Keep h0 h [b] ∧ (vb2 = vb ∨ h0.size ≤ vb2) ∧ Exa Z h b "java/lang/StringBuilder" ∧ Fld Z h b "java/lang/AbstractStringBuilder" "value" "[B" (.ref vb2) ∧ Fld Z h b "java/lang/AbstractStringBuilder" "coder" "B" (.int (own_i (own_cd (cs ++ ds)))) ∧ Fld Z h b "java/lang/AbstractStringBuilder" "count" "I" (.int (own_i cs.length)) ∧ Fld Z h b "java/lang/AbstractStringBuilder" "maybeLatin1" "Z" (.int 0) ∧ Arv Z h vb2 kv2 .byte (own_i (own_wd (own_cd (cs ++ ds)) cp)) ((own_enc (own_cd (cs ++ ds)) cs).map Value.int) (.int 0)
set_option maxRecDepth 65536 in
set_option maxHeartbeats 40000000 in
theorem rminfN (l : Launch) (Z : State) (a0 : Array Value) (hw : ∀ d ∈ tables_1, d.before a0 Z = true) (ws : List Jvm.Cond) (b : Addr) (a : Addr) (cz : Int32) (sf : Value) (vb : Addr) (kv : ClassId) (cs : List Int32) (cp : Nat) (ds : List Int32) (h0 : Heap) (n0 : Nat) (O0 : Old Z n0 h0) (hp0 : Exa Z h0 b "java/lang/StringBuilder") (hp1 : Fld Z h0 b "java/lang/AbstractStringBuilder" "value" "[B" (.ref vb)) (hp2 : Fld Z h0 b "java/lang/AbstractStringBuilder" "coder" "B" (.int (own_i (own_cd cs)))) (hp3 : Fld Z h0 b "java/lang/AbstractStringBuilder" "count" "I" (.int (own_i cs.length))) (hp4 : Fld Z h0 b "java/lang/AbstractStringBuilder" "maybeLatin1" "Z" (.int 0)) (hp5 : Arv Z h0 vb kv .byte (own_i (own_wd (own_cd cs) cp)) ((own_enc (own_cd cs) cs).map Value.int) (.int 0)) (hp6 : n0 ≤ b) (hp7 : Exa Z h0 a "java/lang/String") (hp8 : Fld Z h0 a "java/lang/String" "coder" "B" (.int (own_i (own_cd ds)))) (hlc : (cs.length ≤ cp)) (hcp : (cp ≤ 80)) (hch : (own_Ch cs)) (hp12 : Sta Z Z.heap "java/lang/StringUTF16" "$assertionsDisabled" "Z" (.int 1)) (hp13 : Sta Z Z.heap "java/lang/StringUTF16" "HI_BYTE_SHIFT" "I" (.int 0)) (hp14 : Sta Z Z.heap "java/lang/StringUTF16" "LO_BYTE_SHIFT" "I" (.int 8)) (hp15 : Sta Z Z.heap "jdk/internal/util/Preconditions" "SIOOBE_FORMATTER" "Ljava/util/function/BiFunction;" sf) (hsf : (sf.isRef = true)) (hp17 : Sta Z Z.heap "java/lang/String" "COMPACT_STRINGS" "Z" (.int cz)) (hcz : (¬ (cz = (0 : Int32)))) :
    MetFree l mN28 (head1 (Jvm.Cond.code mN28 jdk_68_method_71_code 2 none :: ws) ({ frames := 6, cells := 1, slots := 160, locals := 89 } : Room)) (fun as_ U => as_ = #[(.ref b), (.ref a)] ∧ Z.Warmed39 U.vm ∧ U.heap = h0) (fun _ _ _ _ _ => True) (fun _ U o U' => ∃ v L, o = .returned v ∧ QinfN Z b a cz sf vb kv cs cp ds h0 n0 v U'.heap L ∧ FrameEnd U o U' L ({ frames := 6, cells := 1, slots := 160, locals := 89 } : Room).cells ({ frames := 6, cells := 1, slots := 160, locals := 89 } : Room).slots) := by
  refine MetFree.of_bodySF (plainFor_of_name pn_java_lang_AbstractStringBuilder) hisR ?_
  intro p e s m args below meth c s₁ Bd hml0 hP hK
  obtain ⟨rfl, hZ, hh⟩ := hP
  have hx := Bd.exec
  have hby := Bd.bytes
  have hml : c.maxLocals = 2 := hml0
  have hown : s.vm.findClass "java/lang/AbstractStringBuilder" = some m.cls := findClass_of_methodNamed Bd.named
  have hnm := (name_of_methodNamed Bd.named Bd.method).1
  have X0 : Stand p l e ({ frames := 6, cells := 1, slots := 160, locals := 89 } : Room) s m #[(.ref b), (.ref a)] below meth c s₁ [] 0 0 := Stand.of_body Bd
  have e0 : s₁.heap = h0 := by rw [← hh, Bd.state]; rfl
  have N0 := Fr.nil n0
  have Z0 := own_z0 O0
  have pre0 : ∀ tg_, Steps p.tables e below (s₁.setTop (mkF m 0 #[vR b, vR a] [])) tg_ → Steps p.tables e below (s₁.setTop (entryFrame m #[(.ref b), (.ref a)] 2)) tg_ := fun tg_ kt_ => castTop (ef_infN m b a) kt_
  rcases own_cd01 cs with ec1 | ec1
  · have Fk2 : Fld Z h0 b "java/lang/AbstractStringBuilder" "coder" "B" (.int 0) := by
      have q := hp2
      rw [ec1] at q
      exact q
    have Fk3 : Arv Z h0 vb kv .byte (own_i cp) ((cs.map own_b).map Value.int) (.int 0) := by
      have q := hp5
      rw [ec1] at q
      exact q
    rcases own_cd01 ds with ec4 | ec4
    · have Fk5 : Fld Z h0 a "java/lang/String" "coder" "B" (.int 0) := by
        have q := hp8
        rw [ec4] at q
        exact q
      obtain ⟨T6, X6, e6, st6⟩ := getS2 X0 hx hZ hown (host := "") (Or.inl (hw _ w_41)) Via.refl e0 (hp17.ext O0.2) (g := (mkF m 0 #[vR b, vR a] [])) rfl (hb hby d18_0)
      obtain ⟨T7, X7, e7, st7⟩ := getF X6 hx hZ hown (host := "") (Or.inl (hw _ w_44)) Via.refl e6 Fk2 (g := (mkF m 7 #[vR b, vR a] [(.ref b)])) rfl rfl (hb hby d18_7)
      obtain ⟨cq8, kq8, q8a, q8b, q8c⟩ := isOf hZ e7 hp7
      obtain ⟨_, _, ⟨T8, L8, k8, n8⟩, -, X8, ⟨Lc8, hQ8, l8, y8, z8⟩, st8⟩ := X7.virtualBack hx (y := mN1) (z := mN1) hown (mvT hZ (hw _ w_111)) (mvT hZ (hw _ w_63)) (notFace_of_selects (args := #[]) (mvT hZ (hw _ w_65))) (mvT hZ (hw _ w_65)) (mvT hZ (hw _ w_64)) (by decide) (backOf (W := 1) (rmcoder0 l Z a0 hw [] a cz h0 n0 O0 Fk5 hp17 hcz) hZ (hw _ w_66) (hw _ w_2) (by decide) (by decide)) q8a q8c (g := (mkF m 11 #[vR b, vR a] [(.ref a), (.int 0)])) rfl (by rw [hml]; rfl) (Steps.refl _) (argsL := []) (rest := [(.int 0)]) (lenOf pd___B rfl) rfl (by show 2 * 0 + _ ≤ _; exact Nat.le_of_eq rfl) (hb hby d18_11) (fun _ _ => ⟨rfl, e7, (by decide : 0 + 0 ≤ _), (by decide : 0 + 0 ≤ _)⟩)
      dsimp only [Pt.U, Pt.locs, Pt.cells, Pt.slots] at X8 l8 y8 z8 st8 hQ8
      subst l8 y8 z8
      obtain ⟨rfl, N8q, eh8⟩ := hQ8
      have N8 := Fr.app N0 N8q
      obtain ⟨fs, hr, hrun, hended, hW, hsame⟩ := X8.leave (v := none) (fun _ => rfl)
      refine ⟨_, _, pre0 _ ?_, hrun, hended, _, _, rfl, ?_, ⟨_, rfl⟩, hW, hsame.mono (by decide) (by decide)⟩
      · refine st6 _ ?_
        refine XS.ifNo X6.here hx rfl (hb hby d18_3) rfl ((if0 _ _).trans (feq hcz).1) ?_
        refine XS.aloadN X6.here hx rfl (hb hby d18_6) rfl rfl ?_
        refine st7 _ ?_
        refine XS.aloadN X7.here hx rfl (hb hby d18_10) rfl rfl ?_
        refine st8.trans ?_
        refine XS.icmpYes X8.here hx rfl (pc0 := 14) (pc' := 21) rfl (hb hby d18_14) rfl (teq (by decide : (0 : Int32) = (0 : Int32))).1 (by decide) (by decide) ?_
        exact X8.returnOut hx Bd.returns (hb hby d18_21) hr
      · show QinfN Z b a cz sf vb kv cs cp ds h0 n0 _ T8.heap _
        rw [eh8]
        exact ⟨vb, kv, rfl, N8, (Keep.refl h0 [b]), (Or.inl rfl), hp0, hp1, (by rw [own_cdapp, ec1, ec4]; exact Fk2), hp3, hp4, (by rw [own_cdapp, ec1, ec4]; exact Fk3)⟩
    · have Fk9 : Fld Z h0 a "java/lang/String" "coder" "B" (.int 1) := by
        have q := hp8
        rw [ec4] at q
        exact q
      obtain ⟨T10, X10, e10, st10⟩ := getS2 X0 hx hZ hown (host := "") (Or.inl (hw _ w_41)) Via.refl e0 (hp17.ext O0.2) (g := (mkF m 0 #[vR b, vR a] [])) rfl (hb hby d18_0)
      obtain ⟨T11, X11, e11, st11⟩ := getF X10 hx hZ hown (host := "") (Or.inl (hw _ w_44)) Via.refl e10 Fk2 (g := (mkF m 7 #[vR b, vR a] [(.ref b)])) rfl rfl (hb hby d18_7)
      obtain ⟨cq12, kq12, q12a, q12b, q12c⟩ := isOf hZ e11 hp7
      obtain ⟨_, _, ⟨T12, L12, k12, n12⟩, -, X12, ⟨Lc12, hQ12, l12, y12, z12⟩, st12⟩ := X11.virtualBack hx (y := mN1) (z := mN1) hown (mvT hZ (hw _ w_111)) (mvT hZ (hw _ w_63)) (notFace_of_selects (args := #[]) (mvT hZ (hw _ w_65))) (mvT hZ (hw _ w_65)) (mvT hZ (hw _ w_64)) (by decide) (backOf (W := 1) (rmcoder1 l Z a0 hw [] a cz h0 n0 O0 Fk9 hp17 hcz) hZ (hw _ w_66) (hw _ w_2) (by decide) (by decide)) q12a q12c (g := (mkF m 11 #[vR b, vR a] [(.ref a), (.int 0)])) rfl (by rw [hml]; rfl) (Steps.refl _) (argsL := []) (rest := [(.int 0)]) (lenOf pd___B rfl) rfl (by show 2 * 0 + _ ≤ _; exact Nat.le_of_eq rfl) (hb hby d18_11) (fun _ _ => ⟨rfl, e11, (by decide : 0 + 0 ≤ _), (by decide : 0 + 0 ≤ _)⟩)
      dsimp only [Pt.U, Pt.locs, Pt.cells, Pt.slots] at X12 l12 y12 z12 st12 hQ12
      subst l12 y12 z12
      obtain ⟨rfl, N12q, eh12⟩ := hQ12
      have N12 := Fr.app N0 N12q
      obtain ⟨cq13, q13, q13'⟩ := hp0.cell
      obtain ⟨_, _, ⟨T13, L13, k13, n13⟩, -, X13, ⟨Lc13, hQ13, l13, y13, z13⟩, st13⟩ := X12.privateBack hx (y := mN27) hown (mvT hZ (hw _ w_265)) (mvT hZ (hw _ w_266)) (mvT hZ (own_selfPriv (hw _ w_268) (hw _ w_267) (hw _ w_266) (by decide))) (Cond.privateMethod_at (mvP hZ (hw _ w_267) (args := #[]))) (mvT hZ (hw _ w_269)) (by decide) (backOf (W := 0) (rminfL l Z a0 hw [] b cz sf vb kv cs cp h0 n0 O0 hp0 hp6 hp1 Fk2 hp3 hp4 Fk3 hlc hcp hch ec1 hp12 hp13 hp14 hp15 hsf hp17 hcz) hZ (hw _ w_269) (hw _ w_38) (by decide) (by decide)) (g := (mkF m 18 #[vR b, vR a] [(.ref b)])) rfl (by rw [hml]; rfl) (Steps.refl _) (a := b) (by rw [eh12]; exact q13) q13' (argsL := []) (rest := []) (lenOf pd___V rfl) rfl (by show 2 * 0 + _ ≤ _; exact Nat.le_of_eq rfl) (hb hby d18_18) (fun _ _ => ⟨rfl, eh12, (by decide : 0 + 1 ≤ _), (by decide : 0 + 160 ≤ _)⟩)
      dsimp only [Pt.U, Pt.locs, Pt.cells, Pt.slots] at X13 l13 y13 z13 st13 hQ13
      subst l13 y13 z13
      obtain ⟨r_13, kr_13, rfl, N13q, Kc13, r13_1, r13_2, r13_3, r13_4, r13_5, r13_6, r13_7⟩ := hQ13
      have N13 := Fr.app N12 N13q
      have sz14 : h0.size ≤ r_13 := Nat.le_trans (Keep.refl h0 [b]).1 r13_1
      have gn14 : n0 ≤ r_13 := Nat.le_trans Z0 sz14
      have O13 : Old Z n0 T13.heap := O0.keep Kc13 (allS hp6 all0)
      have K13 : Keep h0 T13.heap [b] := (Keep.refl h0 [b]).trans Kc13 (allS (Or.inl (List.mem_of_getElem? (i := 0) rfl)) all0)
      obtain ⟨fs, hr, hrun, hended, hW, hsame⟩ := X13.leave (v := none) (fun _ => rfl)
      refine ⟨_, _, pre0 _ ?_, hrun, hended, _, _, rfl, ?_, ⟨_, rfl⟩, hW, hsame.mono (by decide) (by decide)⟩
      · refine st10 _ ?_
        refine XS.ifNo X10.here hx rfl (hb hby d18_3) rfl ((if0 _ _).trans (feq hcz).1) ?_
        refine XS.aloadN X10.here hx rfl (hb hby d18_6) rfl rfl ?_
        refine st11 _ ?_
        refine XS.aloadN X11.here hx rfl (hb hby d18_10) rfl rfl ?_
        refine st12.trans ?_
        refine XS.icmpNo X12.here hx rfl (hb hby d18_14) rfl (feq (by decide : ¬ ((0 : Int32) = (1 : Int32)))).1 ?_
        refine XS.aloadN X12.here hx rfl (hb hby d18_17) rfl rfl ?_
        refine st13.trans ?_
        exact X13.returnOut hx Bd.returns (hb hby d18_21) hr
      · show QinfN Z b a cz sf vb kv cs cp ds h0 n0 _ T13.heap _
        exact ⟨r_13, kr_13, rfl, N13, K13, (Or.inr sz14), r13_2, r13_3, (by rw [own_cdapp, ec1, ec4]; exact r13_4), r13_5, r13_6, (by rw [own_cdapp, ec1, ec4]; exact r13_7)⟩
  · have Fk16 : Fld Z h0 b "java/lang/AbstractStringBuilder" "coder" "B" (.int 1) := by
      have q := hp2
      rw [ec1] at q
      exact q
    have Fk17 : Arv Z h0 vb kv .byte (own_i (2 * cp)) ((own_e1 cs).map Value.int) (.int 0) := by
      have q := hp5
      rw [ec1] at q
      exact q
    rcases own_cd01 ds with ec18 | ec18
    · have Fk19 : Fld Z h0 a "java/lang/String" "coder" "B" (.int 0) := by
        have q := hp8
        rw [ec18] at q
        exact q
      obtain ⟨T20, X20, e20, st20⟩ := getS2 X0 hx hZ hown (host := "") (Or.inl (hw _ w_41)) Via.refl e0 (hp17.ext O0.2) (g := (mkF m 0 #[vR b, vR a] [])) rfl (hb hby d18_0)
      obtain ⟨T21, X21, e21, st21⟩ := getF X20 hx hZ hown (host := "") (Or.inl (hw _ w_44)) Via.refl e20 Fk16 (g := (mkF m 7 #[vR b, vR a] [(.ref b)])) rfl rfl (hb hby d18_7)
      obtain ⟨cq22, kq22, q22a, q22b, q22c⟩ := isOf hZ e21 hp7
      obtain ⟨_, _, ⟨T22, L22, k22, n22⟩, -, X22, ⟨Lc22, hQ22, l22, y22, z22⟩, st22⟩ := X21.virtualBack hx (y := mN1) (z := mN1) hown (mvT hZ (hw _ w_111)) (mvT hZ (hw _ w_63)) (notFace_of_selects (args := #[]) (mvT hZ (hw _ w_65))) (mvT hZ (hw _ w_65)) (mvT hZ (hw _ w_64)) (by decide) (backOf (W := 1) (rmcoder0 l Z a0 hw [] a cz h0 n0 O0 Fk19 hp17 hcz) hZ (hw _ w_66) (hw _ w_2) (by decide) (by decide)) q22a q22c (g := (mkF m 11 #[vR b, vR a] [(.ref a), (.int 1)])) rfl (by rw [hml]; rfl) (Steps.refl _) (argsL := []) (rest := [(.int 1)]) (lenOf pd___B rfl) rfl (by show 2 * 0 + _ ≤ _; exact Nat.le_of_eq rfl) (hb hby d18_11) (fun _ _ => ⟨rfl, e21, (by decide : 0 + 0 ≤ _), (by decide : 0 + 0 ≤ _)⟩)
      dsimp only [Pt.U, Pt.locs, Pt.cells, Pt.slots] at X22 l22 y22 z22 st22 hQ22
      subst l22 y22 z22
      obtain ⟨rfl, N22q, eh22⟩ := hQ22
      have N22 := Fr.app N0 N22q
      obtain ⟨cq23, q23, q23'⟩ := hp0.cell
      obtain ⟨_, _, ⟨T23, L23, k23, n23⟩, -, X23, ⟨Lc23, hQ23, l23, y23, z23⟩, st23⟩ := X22.privateBack hx (y := mN27) hown (mvT hZ (hw _ w_265)) (mvT hZ (hw _ w_266)) (mvT hZ (own_selfPriv (hw _ w_268) (hw _ w_267) (hw _ w_266) (by decide))) (Cond.privateMethod_at (mvP hZ (hw _ w_267) (args := #[]))) (mvT hZ (hw _ w_269)) (by decide) (backOf (W := 0) (rminfU l Z a0 hw [] b cz h0 n0 O0 hp0 Fk16 hp17 hcz) hZ (hw _ w_269) (hw _ w_38) (by decide) (by decide)) (g := (mkF m 18 #[vR b, vR a] [(.ref b)])) rfl (by rw [hml]; rfl) (Steps.refl _) (a := b) (by rw [eh22]; exact q23) q23' (argsL := []) (rest := []) (lenOf pd___V rfl) rfl (by show 2 * 0 + _ ≤ _; exact Nat.le_of_eq rfl) (hb hby d18_18) (fun _ _ => ⟨rfl, eh22, (by decide : 0 + 0 ≤ _), (by decide : 0 + 0 ≤ _)⟩)
      dsimp only [Pt.U, Pt.locs, Pt.cells, Pt.slots] at X23 l23 y23 z23 st23 hQ23
      subst l23 y23 z23
      obtain ⟨rfl, N23q, eh23⟩ := hQ23
      have N23 := Fr.app N22 N23q
      obtain ⟨fs, hr, hrun, hended, hW, hsame⟩ := X23.leave (v := none) (fun _ => rfl)
      refine ⟨_, _, pre0 _ ?_, hrun, hended, _, _, rfl, ?_, ⟨_, rfl⟩, hW, hsame.mono (by decide) (by decide)⟩
      · refine st20 _ ?_
        refine XS.ifNo X20.here hx rfl (hb hby d18_3) rfl ((if0 _ _).trans (feq hcz).1) ?_
        refine XS.aloadN X20.here hx rfl (hb hby d18_6) rfl rfl ?_
        refine st21 _ ?_
        refine XS.aloadN X21.here hx rfl (hb hby d18_10) rfl rfl ?_
        refine st22.trans ?_
        refine XS.icmpNo X22.here hx rfl (hb hby d18_14) rfl (feq (by decide : ¬ ((1 : Int32) = (0 : Int32)))).1 ?_
        refine XS.aloadN X22.here hx rfl (hb hby d18_17) rfl rfl ?_
        refine st23.trans ?_
        exact X23.returnOut hx Bd.returns (hb hby d18_21) hr
      · show QinfN Z b a cz sf vb kv cs cp ds h0 n0 _ T23.heap _
        rw [eh23]
        exact ⟨vb, kv, rfl, N23, (Keep.refl h0 [b]), (Or.inl rfl), hp0, hp1, (by rw [own_cdapp, ec1, ec18]; exact Fk16), hp3, hp4, (by rw [own_cdapp, ec1, ec18]; exact Fk17)⟩
    · have Fk24 : Fld Z h0 a "java/lang/String" "coder" "B" (.int 1) := by
        have q := hp8
        rw [ec18] at q
        exact q
      obtain ⟨T25, X25, e25, st25⟩ := getS2 X0 hx hZ hown (host := "") (Or.inl (hw _ w_41)) Via.refl e0 (hp17.ext O0.2) (g := (mkF m 0 #[vR b, vR a] [])) rfl (hb hby d18_0)
      obtain ⟨T26, X26, e26, st26⟩ := getF X25 hx hZ hown (host := "") (Or.inl (hw _ w_44)) Via.refl e25 Fk16 (g := (mkF m 7 #[vR b, vR a] [(.ref b)])) rfl rfl (hb hby d18_7)
      obtain ⟨cq27, kq27, q27a, q27b, q27c⟩ := isOf hZ e26 hp7
      obtain ⟨_, _, ⟨T27, L27, k27, n27⟩, -, X27, ⟨Lc27, hQ27, l27, y27, z27⟩, st27⟩ := X26.virtualBack hx (y := mN1) (z := mN1) hown (mvT hZ (hw _ w_111)) (mvT hZ (hw _ w_63)) (notFace_of_selects (args := #[]) (mvT hZ (hw _ w_65))) (mvT hZ (hw _ w_65)) (mvT hZ (hw _ w_64)) (by decide) (backOf (W := 1) (rmcoder1 l Z a0 hw [] a cz h0 n0 O0 Fk24 hp17 hcz) hZ (hw _ w_66) (hw _ w_2) (by decide) (by decide)) q27a q27c (g := (mkF m 11 #[vR b, vR a] [(.ref a), (.int 1)])) rfl (by rw [hml]; rfl) (Steps.refl _) (argsL := []) (rest := [(.int 1)]) (lenOf pd___B rfl) rfl (by show 2 * 0 + _ ≤ _; exact Nat.le_of_eq rfl) (hb hby d18_11) (fun _ _ => ⟨rfl, e26, (by decide : 0 + 0 ≤ _), (by decide : 0 + 0 ≤ _)⟩)
      dsimp only [Pt.U, Pt.locs, Pt.cells, Pt.slots] at X27 l27 y27 z27 st27 hQ27
      subst l27 y27 z27
      obtain ⟨rfl, N27q, eh27⟩ := hQ27
      have N27 := Fr.app N0 N27q
      obtain ⟨fs, hr, hrun, hended, hW, hsame⟩ := X27.leave (v := none) (fun _ => rfl)
      refine ⟨_, _, pre0 _ ?_, hrun, hended, _, _, rfl, ?_, ⟨_, rfl⟩, hW, hsame.mono (by decide) (by decide)⟩
      · refine st25 _ ?_
        refine XS.ifNo X25.here hx rfl (hb hby d18_3) rfl ((if0 _ _).trans (feq hcz).1) ?_
        refine XS.aloadN X25.here hx rfl (hb hby d18_6) rfl rfl ?_
        refine st26 _ ?_
        refine XS.aloadN X26.here hx rfl (hb hby d18_10) rfl rfl ?_
        refine st27.trans ?_
        refine XS.icmpYes X27.here hx rfl (pc0 := 14) (pc' := 21) rfl (hb hby d18_14) rfl (teq (by decide : (1 : Int32) = (1 : Int32))).1 (by decide) (by decide) ?_
        exact X27.returnOut hx Bd.returns (hb hby d18_21) hr
      · show QinfN Z b a cz sf vb kv cs cp ds h0 n0 _ T27.heap _
        rw [eh27]
        exact ⟨vb, kv, rfl, N27, (Keep.refl h0 [b]), (Or.inl rfl), hp0, hp1, (by rw [own_cdapp, ec1, ec18]; exact Fk16), hp3, hp4, (by rw [own_cdapp, ec1, ec18]; exact Fk17)⟩
abbrev c19_ := jdk_42_method_147_code
theorem d19_0 : decode c19_ 0 = .ok (.aload_n 0, 1) := by decide +kernel
theorem d19_1 : decode c19_ 1 = .ok (.invokevirtual 335, 3) := by decide +kernel
theorem d19_4 : decode c19_ 4 = .ok (.iload_n 3, 1) := by decide +kernel
theorem d19_5 : decode c19_ 5 = .ok (.if_icmp .ne 23, 3) := by decide +kernel
theorem d19_8 : decode c19_ 8 = .ok (.aload_n 0, 1) := by decide +kernel
theorem d19_9 : decode c19_ 9 = .ok (.getfield 9, 3) := by decide +kernel
theorem d19_12 : decode c19_ 12 = .ok (.iconst 0, 1) := by decide +kernel
theorem d19_13 : decode c19_ 13 = .ok (.aload_n 1, 1) := by decide +kernel
theorem d19_14 : decode c19_ 14 = .ok (.iload_n 2, 1) := by decide +kernel
theorem d19_15 : decode c19_ 15 = .ok (.iload_n 3, 1) := by decide +kernel
theorem d19_16 : decode c19_ 16 = .ok (.ishl, 1) := by decide +kernel
theorem d19_17 : decode c19_ 17 = .ok (.aload_n 0, 1) := by decide +kernel
theorem d19_18 : decode c19_ 18 = .ok (.getfield 9, 3) := by decide +kernel
theorem d19_21 : decode c19_ 21 = .ok (.arraylength, 1) := by decide +kernel
theorem w_117 : (Cond.methodLink "java/lang/String" (212 : Nat) mN17) ∈ tables_1 := List.mem_of_getElem? (i := 117) (by decide +kernel)
theorem d19_22 : decode c19_ 22 = .ok (.invokestatic 212, 3) := by decide +kernel
theorem d19_25 : decode c19_ 25 = .ok (.goto 18, 3) := by decide +kernel
theorem d19_43 : decode c19_ 43 = .ok (.return_, 1) := by decide +kernel
theorem d19_28 : decode c19_ 28 = .ok (.aload_n 0, 1) := by decide +kernel
theorem d19_29 : decode c19_ 29 = .ok (.getfield 9, 3) := by decide +kernel
theorem d19_32 : decode c19_ 32 = .ok (.iconst 0, 1) := by decide +kernel
theorem d19_33 : decode c19_ 33 = .ok (.aload_n 1, 1) := by decide +kernel
theorem d19_34 : decode c19_ 34 = .ok (.iload_n 2, 1) := by decide +kernel
theorem d19_35 : decode c19_ 35 = .ok (.aload_n 0, 1) := by decide +kernel
theorem d19_36 : decode c19_ 36 = .ok (.getfield 9, 3) := by decide +kernel
theorem d19_39 : decode c19_ 39 = .ok (.arraylength, 1) := by decide +kernel
theorem w_292 : (Cond.methodLink "java/lang/String" (106 : Nat) mN25) ∈ tables_1 := List.mem_of_getElem? (i := 292) (by decide +kernel)
theorem d19_40 : decode c19_ 40 = .ok (.invokestatic 106, 3) := by decide +kernel
abbrev mN29 : MethodName := ⟨"java/lang/String", "getBytes", "([BIB)V"⟩
theorem ef_getB (m : MethodId) (x0 : Addr) (x1 : Addr) (x2 : Int32) (x3 : Int32) : entryFrame m #[(.ref x0), (.ref x1), (.int x2), (.int x3)] 4 = mkF m 0 #[vR x0, vR x1, vI x2, vI x3] [] := by first | (simp [entryFrame, mkF, argsToLocals, Value.category]; done) | rfl
def QgetB (Z : State) (a : Addr) (d : Addr) (t : Addr) (kt : ClassId) (ds : List Int32) (cz : Int32) (sf : Value) (kd : ClassId) (cs : List Int32) (cp : Nat) (h0 : Heap) (n0 : Nat) (v : Option Value) (h : Heap) (L : List Loc) : Prop := v = none ∧ Fr n0 L ∧ Keep h0 h [d] ∧ Arv Z h d kd .byte (own_i (own_wd (own_cd (cs ++ ds)) cp)) ((own_enc (own_cd (cs ++ ds)) (cs ++ ds)).map Value.int) (.int 0)
set_option maxRecDepth 65536 in
set_option maxHeartbeats 40000000 in
theorem rmgetB (l : Launch) (Z : State) (a0 : Array Value) (hw : ∀ d ∈ tables_1, d.before a0 Z = true) (ws : List Jvm.Cond) (a : Addr) (d : Addr) (t : Addr) (kt : ClassId) (ds : List Int32) (cz : Int32) (sf : Value) (kd : ClassId) (cs : List Int32) (cp : Nat) (h0 : Heap) (n0 : Nat) (O0 : Old Z n0 h0) (hp0 : Exa Z h0 a "java/lang/String") (hp1 : Fld Z h0 a "java/lang/String" "value" "[B" (.ref t)) (hp2 : Fld Z h0 a "java/lang/String" "coder" "B" (.int (own_i (own_cd ds)))) (hp3 : Arv Z h0 t kt .byte (own_i (own_wd (own_cd ds) ds.length)) ((own_enc (own_cd ds) ds).map Value.int) (.int 0)) (hp4 : n0 ≤ d) (hp5 : Arv Z h0 d kd .byte (own_i (own_wd (own_cd (cs ++ ds)) cp)) ((own_enc (own_cd (cs ++ ds)) cs).map Value.int) (.int 0)) (htd : (t ≠ d)) (hlc : (cs.length + ds.length ≤ cp)) (hcp : (cp ≤ 80)) (hch : (own_Ch cs)) (hcd : (own_Ch ds)) (hp11 : Sta Z Z.heap "java/lang/StringUTF16" "$assertionsDisabled" "Z" (.int 1)) (hp12 : Sta Z Z.heap "java/lang/StringUTF16" "HI_BYTE_SHIFT" "I" (.int 0)) (hp13 : Sta Z Z.heap "java/lang/StringUTF16" "LO_BYTE_SHIFT" "I" (.int 8)) (hp14 : Sta Z Z.heap "jdk/internal/util/Preconditions" "SIOOBE_FORMATTER" "Ljava/util/function/BiFunction;" sf) (hsf : (sf.isRef = true)) (hp16 : Sta Z Z.heap "java/lang/String" "COMPACT_STRINGS" "Z" (.int cz)) (hcz : (¬ (cz = (0 : Int32)))) :
    MetFree l mN29 (head1 (Jvm.Cond.code mN29 jdk_42_method_147_code 4 none :: ws) ({ frames := 5, cells := 0, slots := 0, locals := 76 } : Room)) (fun as_ U => as_ = #[(.ref a), (.ref d), (.int (own_i cs.length)), (.int (own_i (own_cd (cs ++ ds))))] ∧ Z.Warmed39 U.vm ∧ U.heap = h0) (fun _ _ _ _ _ => True) (fun _ U o U' => ∃ v L, o = .returned v ∧ QgetB Z a d t kt ds cz sf kd cs cp h0 n0 v U'.heap L ∧ FrameEnd U o U' L ({ frames := 5, cells := 0, slots := 0, locals := 76 } : Room).cells ({ frames := 5, cells := 0, slots := 0, locals := 76 } : Room).slots) := by
  refine MetFree.of_bodySF (plainFor_of_name pn_java_lang_String) hisR ?_
  intro p e s m args below meth c s₁ Bd hml0 hP hK
  obtain ⟨rfl, hZ, hh⟩ := hP
  have hx := Bd.exec
  have hby := Bd.bytes
  have hml : c.maxLocals = 4 := hml0
  have hown : s.vm.findClass "java/lang/String" = some m.cls := findClass_of_methodNamed Bd.named
  have hnm := (name_of_methodNamed Bd.named Bd.method).1
  have X0 : Stand p l e ({ frames := 5, cells := 0, slots := 0, locals := 76 } : Room) s m #[(.ref a), (.ref d), (.int (own_i cs.length)), (.int (own_i (own_cd (cs ++ ds))))] below meth c s₁ [] 0 0 := Stand.of_body Bd
  have e0 : s₁.heap = h0 := by rw [← hh, Bd.state]; rfl
  have N0 := Fr.nil n0
  have Z0 := own_z0 O0
  have pre0 : ∀ tg_, Steps p.tables e below (s₁.setTop (mkF m 0 #[vR a, vR d, vI (own_i cs.length), vI (own_i (own_cd (cs ++ ds)))] [])) tg_ → Steps p.tables e below (s₁.setTop (entryFrame m #[(.ref a), (.ref d), (.int (own_i cs.length)), (.int (own_i (own_cd (cs ++ ds))))] 4)) tg_ := fun tg_ kt_ => castTop (ef_getB m a d (own_i cs.length) (own_i (own_cd (cs ++ ds)))) kt_
  rcases own_cd01 cs with ec1 | ec1
  · rcases own_cd01 ds with ec2 | ec2
    · have pre3 := fun tg_ (kt_ : Steps p.tables e below (s₁.setTop (mkF m 0 #[vR a, vR d, vI (own_i cs.length), vI 0] [])) tg_) => pre0 tg_ (by
        rw [show (own_i (own_cd (cs ++ ds))) = (0 : Int32) from (by rw [own_cdapp, ec1, ec2]; rfl)]
        exact kt_)
      have Fk4 : Fld Z h0 a "java/lang/String" "coder" "B" (.int 0) := by
        have q := hp2
        rw [ec2] at q
        exact q
      have Fk5 : Arv Z h0 t kt .byte (own_i ds.length) ((ds.map own_b).map Value.int) (.int 0) := by
        have q := hp3
        rw [ec2] at q
        exact q
      have Vr6 : Arv Z h0 d kd .byte (own_i cp) ((cs.map own_b).map Value.int) (.int 0) := by
        have q := hp5
        rw [own_cdapp, ec1, ec2] at q; exact q
      obtain ⟨cq7, kq7, q7a, q7b, q7c⟩ := isOf hZ e0 hp0
      obtain ⟨_, _, ⟨T7, L7, k7, n7⟩, -, X7, ⟨Lc7, hQ7, l7, y7, z7⟩, st7⟩ := X0.virtualBack hx (y := mN1) (z := mN1) hown (mvT hZ (hw _ w_62)) (mvT hZ (hw _ w_63)) (notFace_of_selects (args := #[]) (mvT hZ (hw _ w_65))) (mvT hZ (hw _ w_65)) (mvT hZ (hw _ w_64)) (by decide) (backOf (W := 0) (rmcoder0 l Z a0 hw [] a cz h0 n0 O0 Fk4 hp16 hcz) hZ (hw _ w_66) (hw _ w_2) (by decide) (by decide)) q7a q7c (g := (mkF m 1 #[vR a, vR d, vI (own_i cs.length), vI 0] [(.ref a)])) rfl (by rw [hml]; rfl) (Steps.refl _) (argsL := []) (rest := []) (lenOf pd___B rfl) rfl (by show 2 * 0 + _ ≤ _; exact Nat.le_of_eq rfl) (hb hby d19_1) (fun _ _ => ⟨rfl, e0, (by decide : 0 + 0 ≤ _), (by decide : 0 + 0 ≤ _)⟩)
      dsimp only [Pt.U, Pt.locs, Pt.cells, Pt.slots] at X7 l7 y7 z7 st7 hQ7
      subst l7 y7 z7
      obtain ⟨rfl, N7q, eh7⟩ := hQ7
      have N7 := Fr.app N0 N7q
      obtain ⟨T8, X8, e8, st8⟩ := getF X7 hx hZ hown (host := "") (Or.inl (hw _ w_20)) Via.refl eh7 hp1 (g := (mkF m 9 #[vR a, vR d, vI (own_i cs.length), vI 0] [(.ref a)])) rfl rfl (hb hby d19_9)
      have pre9 := fun tg_ (kt_ : Steps p.tables e below (T8.setTop (mkF m 17 #[vR a, vR d, vI (own_i cs.length), vI 0] [(.int ((own_i cs.length) <<< ((0 : Int32) &&& 31))), (.ref d), (.int 0), (.ref t)])) tg_) => pre3 tg_ (by
        refine XS.aloadN X0.here hx rfl (hb hby d19_0) rfl rfl ?_
        refine st7.trans ?_
        refine XS.iloadN X7.here hx rfl (hb hby d19_4) rfl ?_
        refine XS.icmpNo X7.here hx rfl (hb hby d19_5) rfl (teq (by decide : (0 : Int32) = (0 : Int32))).2 ?_
        refine XS.aloadN X7.here hx rfl (hb hby d19_8) rfl rfl ?_
        refine st8 _ ?_
        refine XS.iconst X8.here hx rfl (hb hby d19_12) ?_
        refine XS.aloadN X8.here hx rfl (hb hby d19_13) rfl rfl ?_
        refine XS.iloadN X8.here hx rfl (hb hby d19_14) rfl ?_
        refine XS.iloadN X8.here hx rfl (hb hby d19_15) rfl ?_
        refine XS.ishl X8.here hx rfl (hb hby d19_16) rfl ?_
        exact kt_)
      have pre10 := fun tg_ (kt_ : Steps p.tables e below (T8.setTop (mkF m 17 #[vR a, vR d, vI (own_i cs.length), vI 0] [(.int (own_i cs.length)), (.ref d), (.int 0), (.ref t)])) tg_) => pre9 tg_ (by
        rw [show ((own_i cs.length) <<< ((0 : Int32) &&& 31)) = (own_i cs.length) from own_shl0 _]
        exact kt_)
      obtain ⟨T11, X11, e11, st11⟩ := getF X8 hx hZ hown (host := "") (Or.inl (hw _ w_20)) Via.refl e8 hp1 (g := (mkF m 18 #[vR a, vR d, vI (own_i cs.length), vI 0] [(.ref a), (.int (own_i cs.length)), (.ref d), (.int 0), (.ref t)])) rfl rfl (hb hby d19_18)
      obtain ⟨cl12, Ar12, -, S12, Ng12, -, -⟩ := id Fk5
      have Vp13 : Arv Z h0 d kd .byte (own_i cp) (((cs.map own_b).map Value.int) ++ List.replicate cp (Value.int (0 : Int32))) (.int 0) := (Vr6).pad (pad_rep _ _ cp)
      obtain ⟨T14, h14, L14, X14, e14, N14, Kc14, V14, st14⟩ := cpA X11 hx hZ hown (hw _ w_117) (hw _ w_100) (hw _ w_98) (hw _ w_99) e11 Fk5 Vp13 (us := ((ds.map own_b).map Value.int)) (Or.inl ⟨rfl, rfl⟩) (by decide) (own_inn (by omega)) (own_inn (by omega)) (by rw [own_inat (by omega)]; show 0 + _ ≤ _; omega) (by rw [own_inat (by omega), own_inat (by omega), own_inat (by omega)]; omega) (by rw [own_inat (by omega)]; exact own_rng (ds.map own_b) (by rw [List.length_map])) (by rw [own_inat (by omega), own_inat (by omega), List.length_append, List.length_map, List.length_map, List.length_replicate]; omega) N7 hp4 (g := (mkF m 22 #[vR a, vR d, vI (own_i cs.length), vI 0] [(.int (own_i ds.length)), (.int (own_i cs.length)), (.ref d), (.int 0), (.ref t)])) rfl (by rw [hml]; rfl) rfl (hb hby d19_22) (by decide) (W := 0) (by show 2 * 0 + _ ≤ _; exact Nat.le_of_eq rfl) (by decide)
      have O14 : Old Z n0 h14 := O0.keep Kc14 (allS hp4 all0)
      have K14 : Keep h0 h14 [d] := (Keep.refl h0 [d]).trans Kc14 (allS (Or.inl (List.mem_of_getElem? (i := 0) rfl)) all0)
      have Vc14 : Arv Z h14 d kd .byte (own_i cp) (((cs ++ ds).map own_b).map Value.int) (.int 0) := V14.pad (fun i => (own_cpE (A := (cs.map own_b)) (B := (ds.map own_b)) (T := ((cs ++ ds).map own_b)) (cap := cp) (List.map_append) (by rw [List.length_map]) (by rw [List.length_map]) i).trans (by rw [own_inat (by omega), own_inat (by omega)]))
      obtain ⟨fs, hr, hrun, hended, hW, hsame⟩ := X14.leave (v := none) (fun _ => rfl)
      refine ⟨_, _, pre10 _ ?_, hrun, hended, _, _, rfl, ?_, ⟨_, rfl⟩, hW, hsame.mono (by decide) (by decide)⟩
      · refine XS.aloadN X8.here hx rfl (hb hby d19_17) rfl rfl ?_
        show Steps _ _ _ (T8.setTop (mkF m 18 #[vR a, vR d, vI (own_i cs.length), vI 0] [(.ref a), (.int (own_i cs.length)), (.ref d), (.int 0), (.ref t)])) _
        refine st11 _ ?_
        refine X11.arraylength hx (by rw [e11]; exact Ar12.1) (State.isArrayOf_alike hZ.alike Ar12.2.1) (g := (mkF m 21 #[vR a, vR d, vI (own_i cs.length), vI 0] [(.ref t), (.int (own_i cs.length)), (.ref d), (.int 0), (.ref t)])) rfl rfl (hb hby d19_21) _ ?_
        rw [len_of S12 Ng12]
        refine st14 _ ?_
        refine XS.goto X14.here hx rfl (pc0 := 25) (pc' := 43) rfl (hb hby d19_25) (by decide) (by decide) ?_
        exact X14.returnOut hx Bd.returns (hb hby d19_43) hr
      · show QgetB Z a d t kt ds cz sf kd cs cp h0 n0 _ T14.heap _
        rw [e14]
        exact ⟨rfl, N14, K14, (by rw [own_cdapp, ec1, ec2]; exact Vc14)⟩
    · have pre15 := fun tg_ (kt_ : Steps p.tables e below (s₁.setTop (mkF m 0 #[vR a, vR d, vI (own_i cs.length), vI 1] [])) tg_) => pre0 tg_ (by
        rw [show (own_i (own_cd (cs ++ ds))) = (1 : Int32) from (by rw [own_cdapp, ec1, ec2]; rfl)]
        exact kt_)
      have Fk16 : Fld Z h0 a "java/lang/String" "coder" "B" (.int 1) := by
        have q := hp2
        rw [ec2] at q
        exact q
      have Fk17 : Arv Z h0 t kt .byte (own_i (2 * ds.length)) ((own_e1 ds).map Value.int) (.int 0) := by
        have q := hp3
        rw [ec2] at q
        exact q
      have Vr18 : Arv Z h0 d kd .byte (own_i (2 * cp)) ((own_e1 cs).map Value.int) (.int 0) := by
        have q := hp5
        rw [own_cdapp, ec1, ec2] at q; exact q
      obtain ⟨cq19, kq19, q19a, q19b, q19c⟩ := isOf hZ e0 hp0
      obtain ⟨_, _, ⟨T19, L19, k19, n19⟩, -, X19, ⟨Lc19, hQ19, l19, y19, z19⟩, st19⟩ := X0.virtualBack hx (y := mN1) (z := mN1) hown (mvT hZ (hw _ w_62)) (mvT hZ (hw _ w_63)) (notFace_of_selects (args := #[]) (mvT hZ (hw _ w_65))) (mvT hZ (hw _ w_65)) (mvT hZ (hw _ w_64)) (by decide) (backOf (W := 0) (rmcoder1 l Z a0 hw [] a cz h0 n0 O0 Fk16 hp16 hcz) hZ (hw _ w_66) (hw _ w_2) (by decide) (by decide)) q19a q19c (g := (mkF m 1 #[vR a, vR d, vI (own_i cs.length), vI 1] [(.ref a)])) rfl (by rw [hml]; rfl) (Steps.refl _) (argsL := []) (rest := []) (lenOf pd___B rfl) rfl (by show 2 * 0 + _ ≤ _; exact Nat.le_of_eq rfl) (hb hby d19_1) (fun _ _ => ⟨rfl, e0, (by decide : 0 + 0 ≤ _), (by decide : 0 + 0 ≤ _)⟩)
      dsimp only [Pt.U, Pt.locs, Pt.cells, Pt.slots] at X19 l19 y19 z19 st19 hQ19
      subst l19 y19 z19
      obtain ⟨rfl, N19q, eh19⟩ := hQ19
      have N19 := Fr.app N0 N19q
      obtain ⟨T20, X20, e20, st20⟩ := getF X19 hx hZ hown (host := "") (Or.inl (hw _ w_20)) Via.refl eh19 hp1 (g := (mkF m 9 #[vR a, vR d, vI (own_i cs.length), vI 1] [(.ref a)])) rfl rfl (hb hby d19_9)
      have pre21 := fun tg_ (kt_ : Steps p.tables e below (T20.setTop (mkF m 17 #[vR a, vR d, vI (own_i cs.length), vI 1] [(.int ((own_i cs.length) <<< ((1 : Int32) &&& 31))), (.ref d), (.int 0), (.ref t)])) tg_) => pre15 tg_ (by
        refine XS.aloadN X0.here hx rfl (hb hby d19_0) rfl rfl ?_
        refine st19.trans ?_
        refine XS.iloadN X19.here hx rfl (hb hby d19_4) rfl ?_
        refine XS.icmpNo X19.here hx rfl (hb hby d19_5) rfl (teq (by decide : (1 : Int32) = (1 : Int32))).2 ?_
        refine XS.aloadN X19.here hx rfl (hb hby d19_8) rfl rfl ?_
        refine st20 _ ?_
        refine XS.iconst X20.here hx rfl (hb hby d19_12) ?_
        refine XS.aloadN X20.here hx rfl (hb hby d19_13) rfl rfl ?_
        refine XS.iloadN X20.here hx rfl (hb hby d19_14) rfl ?_
        refine XS.iloadN X20.here hx rfl (hb hby d19_15) rfl ?_
        refine XS.ishl X20.here hx rfl (hb hby d19_16) rfl ?_
        exact kt_)
      have pre22 := fun tg_ (kt_ : Steps p.tables e below (T20.setTop (mkF m 17 #[vR a, vR d, vI (own_i cs.length), vI 1] [(.int (own_i (2 * cs.length))), (.ref d), (.int 0), (.ref t)])) tg_) => pre21 tg_ (by
        rw [show ((own_i cs.length) <<< ((1 : Int32) &&& 31)) = (own_i (2 * cs.length)) from own_shl1 _]
        exact kt_)
      obtain ⟨T23, X23, e23, st23⟩ := getF X20 hx hZ hown (host := "") (Or.inl (hw _ w_20)) Via.refl e20 hp1 (g := (mkF m 18 #[vR a, vR d, vI (own_i cs.length), vI 1] [(.ref a), (.int (own_i (2 * cs.length))), (.ref d), (.int 0), (.ref t)])) rfl rfl (hb hby d19_18)
      obtain ⟨cl24, Ar24, -, S24, Ng24, -, -⟩ := id Fk17
      have Vp25 : Arv Z h0 d kd .byte (own_i (2 * cp)) (((own_e1 cs).map Value.int) ++ List.replicate (2 * cp) (Value.int (0 : Int32))) (.int 0) := (Vr18).pad (pad_rep _ _ (2 * cp))
      obtain ⟨T26, h26, L26, X26, e26, N26, Kc26, V26, st26⟩ := cpA X23 hx hZ hown (hw _ w_117) (hw _ w_100) (hw _ w_98) (hw _ w_99) e23 Fk17 Vp25 (us := ((own_e1 ds).map Value.int)) (Or.inl ⟨rfl, rfl⟩) (by decide) (own_inn (by omega)) (own_inn (by omega)) (by rw [own_inat (by omega)]; show 0 + _ ≤ _; omega) (by rw [own_inat (by omega), own_inat (by omega), own_inat (by omega)]; omega) (by rw [own_inat (by omega)]; exact own_rng (own_e1 ds) (by rw [own_e1len])) (by rw [own_inat (by omega), own_inat (by omega), List.length_append, List.length_map, own_e1len, List.length_replicate]; omega) N19 hp4 (g := (mkF m 22 #[vR a, vR d, vI (own_i cs.length), vI 1] [(.int (own_i (2 * ds.length))), (.int (own_i (2 * cs.length))), (.ref d), (.int 0), (.ref t)])) rfl (by rw [hml]; rfl) rfl (hb hby d19_22) (by decide) (W := 0) (by show 2 * 0 + _ ≤ _; exact Nat.le_of_eq rfl) (by decide)
      have O26 : Old Z n0 h26 := O0.keep Kc26 (allS hp4 all0)
      have K26 : Keep h0 h26 [d] := (Keep.refl h0 [d]).trans Kc26 (allS (Or.inl (List.mem_of_getElem? (i := 0) rfl)) all0)
      have Vc26 : Arv Z h26 d kd .byte (own_i (2 * cp)) ((own_e1 (cs ++ ds)).map Value.int) (.int 0) := V26.pad (fun i => (own_cpE (A := (own_e1 cs)) (B := (own_e1 ds)) (T := (own_e1 (cs ++ ds))) (cap := (2 * cp)) (own_e1app _ _) (by rw [own_e1len]) (by rw [own_e1len]) i).trans (by rw [own_inat (by omega), own_inat (by omega)]))
      obtain ⟨fs, hr, hrun, hended, hW, hsame⟩ := X26.leave (v := none) (fun _ => rfl)
      refine ⟨_, _, pre22 _ ?_, hrun, hended, _, _, rfl, ?_, ⟨_, rfl⟩, hW, hsame.mono (by decide) (by decide)⟩
      · refine XS.aloadN X20.here hx rfl (hb hby d19_17) rfl rfl ?_
        show Steps _ _ _ (T20.setTop (mkF m 18 #[vR a, vR d, vI (own_i cs.length), vI 1] [(.ref a), (.int (own_i (2 * cs.length))), (.ref d), (.int 0), (.ref t)])) _
        refine st23 _ ?_
        refine X23.arraylength hx (by rw [e23]; exact Ar24.1) (State.isArrayOf_alike hZ.alike Ar24.2.1) (g := (mkF m 21 #[vR a, vR d, vI (own_i cs.length), vI 1] [(.ref t), (.int (own_i (2 * cs.length))), (.ref d), (.int 0), (.ref t)])) rfl rfl (hb hby d19_21) _ ?_
        rw [len_of S24 Ng24]
        refine st26 _ ?_
        refine XS.goto X26.here hx rfl (pc0 := 25) (pc' := 43) rfl (hb hby d19_25) (by decide) (by decide) ?_
        exact X26.returnOut hx Bd.returns (hb hby d19_43) hr
      · show QgetB Z a d t kt ds cz sf kd cs cp h0 n0 _ T26.heap _
        rw [e26]
        exact ⟨rfl, N26, K26, (by rw [own_cdapp, ec1, ec2]; exact Vc26)⟩
  · rcases own_cd01 ds with ec27 | ec27
    · have pre28 := fun tg_ (kt_ : Steps p.tables e below (s₁.setTop (mkF m 0 #[vR a, vR d, vI (own_i cs.length), vI 1] [])) tg_) => pre0 tg_ (by
        rw [show (own_i (own_cd (cs ++ ds))) = (1 : Int32) from (by rw [own_cdapp, ec1, ec27]; rfl)]
        exact kt_)
      have Fk29 : Fld Z h0 a "java/lang/String" "coder" "B" (.int 0) := by
        have q := hp2
        rw [ec27] at q
        exact q
      have Fk30 : Arv Z h0 t kt .byte (own_i ds.length) ((ds.map own_b).map Value.int) (.int 0) := by
        have q := hp3
        rw [ec27] at q
        exact q
      have Vr31 : Arv Z h0 d kd .byte (own_i (2 * cp)) ((own_e1 cs).map Value.int) (.int 0) := by
        have q := hp5
        rw [own_cdapp, ec1, ec27] at q; exact q
      obtain ⟨cq32, kq32, q32a, q32b, q32c⟩ := isOf hZ e0 hp0
      obtain ⟨_, _, ⟨T32, L32, k32, n32⟩, -, X32, ⟨Lc32, hQ32, l32, y32, z32⟩, st32⟩ := X0.virtualBack hx (y := mN1) (z := mN1) hown (mvT hZ (hw _ w_62)) (mvT hZ (hw _ w_63)) (notFace_of_selects (args := #[]) (mvT hZ (hw _ w_65))) (mvT hZ (hw _ w_65)) (mvT hZ (hw _ w_64)) (by decide) (backOf (W := 0) (rmcoder0 l Z a0 hw [] a cz h0 n0 O0 Fk29 hp16 hcz) hZ (hw _ w_66) (hw _ w_2) (by decide) (by decide)) q32a q32c (g := (mkF m 1 #[vR a, vR d, vI (own_i cs.length), vI 1] [(.ref a)])) rfl (by rw [hml]; rfl) (Steps.refl _) (argsL := []) (rest := []) (lenOf pd___B rfl) rfl (by show 2 * 0 + _ ≤ _; exact Nat.le_of_eq rfl) (hb hby d19_1) (fun _ _ => ⟨rfl, e0, (by decide : 0 + 0 ≤ _), (by decide : 0 + 0 ≤ _)⟩)
      dsimp only [Pt.U, Pt.locs, Pt.cells, Pt.slots] at X32 l32 y32 z32 st32 hQ32
      subst l32 y32 z32
      obtain ⟨rfl, N32q, eh32⟩ := hQ32
      have N32 := Fr.app N0 N32q
      obtain ⟨T33, X33, e33, st33⟩ := getF X32 hx hZ hown (host := "") (Or.inl (hw _ w_20)) Via.refl eh32 hp1 (g := (mkF m 29 #[vR a, vR d, vI (own_i cs.length), vI 1] [(.ref a)])) rfl rfl (hb hby d19_29)
      obtain ⟨T34, X34, e34, st34⟩ := getF X33 hx hZ hown (host := "") (Or.inl (hw _ w_20)) Via.refl e33 hp1 (g := (mkF m 36 #[vR a, vR d, vI (own_i cs.length), vI 1] [(.ref a), (.int (own_i cs.length)), (.ref d), (.int 0), (.ref t)])) rfl rfl (hb hby d19_36)
      obtain ⟨cl35, Ar35, -, S35, Ng35, -, -⟩ := id Fk30
      obtain ⟨_, _, ⟨T36, L36, k36, n36⟩, -, X36, ⟨Lc36, hQ36, l36, y36, z36⟩, st36⟩ := Jvm.LawKit.callS X34 hx (y := mN25) hown (mvT hZ (hw _ w_292)) (mvT hZ (hw _ w_273)) (mvT hZ (hw _ w_234)) (mvT hZ (hw _ w_274)) (by decide) (backOf (W := 0) (rmlinf l Z a0 hw [] t d cs.length kt ds.length ds kd cp cs sf h0 n0 O0 Fk30 hp4 Vr31 htd rfl hlc (by omega) (⟨Nat.le_refl _, by omega⟩) hcd ec27 hp11 hp12 hp13 hp14 hsf) hZ (hw _ w_274) (hw _ w_234) (by decide) (by decide)) (g := (mkF m 40 #[vR a, vR d, vI (own_i cs.length), vI 1] [(.int (own_i ds.length)), (.int (own_i cs.length)), (.ref d), (.int 0), (.ref t)])) rfl (by rw [hml]; rfl) (argsL := [(.ref t), (.int 0), (.ref d), (.int (own_i cs.length)), (.int (own_i ds.length))]) (rest := []) (lenOf pd__ABIABII_V rfl) rfl (by show 2 * 0 + _ ≤ _; exact Nat.le_of_eq rfl) (hb hby d19_40) (fun _ _ => ⟨rfl, e34, (by decide : 0 + 0 ≤ _), (by decide : 0 + 0 ≤ _)⟩)
      dsimp only [Pt.U, Pt.locs, Pt.cells, Pt.slots] at X36 l36 y36 z36 st36 hQ36
      subst l36 y36 z36
      obtain ⟨rfl, N36q, Kc36, r36_1⟩ := hQ36
      have N36 := Fr.app N32 N36q
      have O36 : Old Z n0 T36.heap := O0.keep Kc36 (allS hp4 all0)
      have K36 : Keep h0 T36.heap [d] := (Keep.refl h0 [d]).trans Kc36 (allS (Or.inl (List.mem_of_getElem? (i := 0) rfl)) all0)
      obtain ⟨fs, hr, hrun, hended, hW, hsame⟩ := X36.leave (v := none) (fun _ => rfl)
      refine ⟨_, _, pre28 _ ?_, hrun, hended, _, _, rfl, ?_, ⟨_, rfl⟩, hW, hsame.mono (by decide) (by decide)⟩
      · refine XS.aloadN X0.here hx rfl (hb hby d19_0) rfl rfl ?_
        refine st32.trans ?_
        refine XS.iloadN X32.here hx rfl (hb hby d19_4) rfl ?_
        refine XS.icmpYes X32.here hx rfl (pc0 := 5) (pc' := 28) rfl (hb hby d19_5) rfl (feq (by decide : ¬ ((0 : Int32) = (1 : Int32)))).2 (by decide) (by decide) ?_
        refine XS.aloadN X32.here hx rfl (hb hby d19_28) rfl rfl ?_
        refine st33 _ ?_
        refine XS.iconst X33.here hx rfl (hb hby d19_32) ?_
        refine XS.aloadN X33.here hx rfl (hb hby d19_33) rfl rfl ?_
        refine XS.iloadN X33.here hx rfl (hb hby d19_34) rfl ?_
        refine XS.aloadN X33.here hx rfl (hb hby d19_35) rfl rfl ?_
        refine st34 _ ?_
        show Steps _ _ _ (T34.setTop (mkF m 39 #[vR a, vR d, vI (own_i cs.length), vI 1] [(.ref t), (.int (own_i cs.length)), (.ref d), (.int 0), (.ref t)])) _
        refine X34.arraylength hx (by rw [e34]; exact Ar35.1) (State.isArrayOf_alike hZ.alike Ar35.2.1) (g := (mkF m 39 #[vR a, vR d, vI (own_i cs.length), vI 1] [(.ref t), (.int (own_i cs.length)), (.ref d), (.int 0), (.ref t)])) rfl rfl (hb hby d19_39) _ ?_
        rw [len_of S35 Ng35]
        refine st36 _ ?_
        exact X36.returnOut hx Bd.returns (hb hby d19_43) hr
      · show QgetB Z a d t kt ds cz sf kd cs cp h0 n0 _ T36.heap _
        exact ⟨rfl, N36, K36, (by rw [own_cdapp, ec1, ec27]; exact r36_1)⟩
    · have pre37 := fun tg_ (kt_ : Steps p.tables e below (s₁.setTop (mkF m 0 #[vR a, vR d, vI (own_i cs.length), vI 1] [])) tg_) => pre0 tg_ (by
        rw [show (own_i (own_cd (cs ++ ds))) = (1 : Int32) from (by rw [own_cdapp, ec1, ec27]; rfl)]
        exact kt_)
      have Fk38 : Fld Z h0 a "java/lang/String" "coder" "B" (.int 1) := by
        have q := hp2
        rw [ec27] at q
        exact q
      have Fk39 : Arv Z h0 t kt .byte (own_i (2 * ds.length)) ((own_e1 ds).map Value.int) (.int 0) := by
        have q := hp3
        rw [ec27] at q
        exact q
      have Vr40 : Arv Z h0 d kd .byte (own_i (2 * cp)) ((own_e1 cs).map Value.int) (.int 0) := by
        have q := hp5
        rw [own_cdapp, ec1, ec27] at q; exact q
      obtain ⟨cq41, kq41, q41a, q41b, q41c⟩ := isOf hZ e0 hp0
      obtain ⟨_, _, ⟨T41, L41, k41, n41⟩, -, X41, ⟨Lc41, hQ41, l41, y41, z41⟩, st41⟩ := X0.virtualBack hx (y := mN1) (z := mN1) hown (mvT hZ (hw _ w_62)) (mvT hZ (hw _ w_63)) (notFace_of_selects (args := #[]) (mvT hZ (hw _ w_65))) (mvT hZ (hw _ w_65)) (mvT hZ (hw _ w_64)) (by decide) (backOf (W := 0) (rmcoder1 l Z a0 hw [] a cz h0 n0 O0 Fk38 hp16 hcz) hZ (hw _ w_66) (hw _ w_2) (by decide) (by decide)) q41a q41c (g := (mkF m 1 #[vR a, vR d, vI (own_i cs.length), vI 1] [(.ref a)])) rfl (by rw [hml]; rfl) (Steps.refl _) (argsL := []) (rest := []) (lenOf pd___B rfl) rfl (by show 2 * 0 + _ ≤ _; exact Nat.le_of_eq rfl) (hb hby d19_1) (fun _ _ => ⟨rfl, e0, (by decide : 0 + 0 ≤ _), (by decide : 0 + 0 ≤ _)⟩)
      dsimp only [Pt.U, Pt.locs, Pt.cells, Pt.slots] at X41 l41 y41 z41 st41 hQ41
      subst l41 y41 z41
      obtain ⟨rfl, N41q, eh41⟩ := hQ41
      have N41 := Fr.app N0 N41q
      obtain ⟨T42, X42, e42, st42⟩ := getF X41 hx hZ hown (host := "") (Or.inl (hw _ w_20)) Via.refl eh41 hp1 (g := (mkF m 9 #[vR a, vR d, vI (own_i cs.length), vI 1] [(.ref a)])) rfl rfl (hb hby d19_9)
      have pre43 := fun tg_ (kt_ : Steps p.tables e below (T42.setTop (mkF m 17 #[vR a, vR d, vI (own_i cs.length), vI 1] [(.int ((own_i cs.length) <<< ((1 : Int32) &&& 31))), (.ref d), (.int 0), (.ref t)])) tg_) => pre37 tg_ (by
        refine XS.aloadN X0.here hx rfl (hb hby d19_0) rfl rfl ?_
        refine st41.trans ?_
        refine XS.iloadN X41.here hx rfl (hb hby d19_4) rfl ?_
        refine XS.icmpNo X41.here hx rfl (hb hby d19_5) rfl (teq (by decide : (1 : Int32) = (1 : Int32))).2 ?_
        refine XS.aloadN X41.here hx rfl (hb hby d19_8) rfl rfl ?_
        refine st42 _ ?_
        refine XS.iconst X42.here hx rfl (hb hby d19_12) ?_
        refine XS.aloadN X42.here hx rfl (hb hby d19_13) rfl rfl ?_
        refine XS.iloadN X42.here hx rfl (hb hby d19_14) rfl ?_
        refine XS.iloadN X42.here hx rfl (hb hby d19_15) rfl ?_
        refine XS.ishl X42.here hx rfl (hb hby d19_16) rfl ?_
        exact kt_)
      have pre44 := fun tg_ (kt_ : Steps p.tables e below (T42.setTop (mkF m 17 #[vR a, vR d, vI (own_i cs.length), vI 1] [(.int (own_i (2 * cs.length))), (.ref d), (.int 0), (.ref t)])) tg_) => pre43 tg_ (by
        rw [show ((own_i cs.length) <<< ((1 : Int32) &&& 31)) = (own_i (2 * cs.length)) from own_shl1 _]
        exact kt_)
      obtain ⟨T45, X45, e45, st45⟩ := getF X42 hx hZ hown (host := "") (Or.inl (hw _ w_20)) Via.refl e42 hp1 (g := (mkF m 18 #[vR a, vR d, vI (own_i cs.length), vI 1] [(.ref a), (.int (own_i (2 * cs.length))), (.ref d), (.int 0), (.ref t)])) rfl rfl (hb hby d19_18)
      obtain ⟨cl46, Ar46, -, S46, Ng46, -, -⟩ := id Fk39
      have Vp47 : Arv Z h0 d kd .byte (own_i (2 * cp)) (((own_e1 cs).map Value.int) ++ List.replicate (2 * cp) (Value.int (0 : Int32))) (.int 0) := (Vr40).pad (pad_rep _ _ (2 * cp))
      obtain ⟨T48, h48, L48, X48, e48, N48, Kc48, V48, st48⟩ := cpA X45 hx hZ hown (hw _ w_117) (hw _ w_100) (hw _ w_98) (hw _ w_99) e45 Fk39 Vp47 (us := ((own_e1 ds).map Value.int)) (Or.inl ⟨rfl, rfl⟩) (by decide) (own_inn (by omega)) (own_inn (by omega)) (by rw [own_inat (by omega)]; show 0 + _ ≤ _; omega) (by rw [own_inat (by omega), own_inat (by omega), own_inat (by omega)]; omega) (by rw [own_inat (by omega)]; exact own_rng (own_e1 ds) (by rw [own_e1len])) (by rw [own_inat (by omega), own_inat (by omega), List.length_append, List.length_map, own_e1len, List.length_replicate]; omega) N41 hp4 (g := (mkF m 22 #[vR a, vR d, vI (own_i cs.length), vI 1] [(.int (own_i (2 * ds.length))), (.int (own_i (2 * cs.length))), (.ref d), (.int 0), (.ref t)])) rfl (by rw [hml]; rfl) rfl (hb hby d19_22) (by decide) (W := 0) (by show 2 * 0 + _ ≤ _; exact Nat.le_of_eq rfl) (by decide)
      have O48 : Old Z n0 h48 := O0.keep Kc48 (allS hp4 all0)
      have K48 : Keep h0 h48 [d] := (Keep.refl h0 [d]).trans Kc48 (allS (Or.inl (List.mem_of_getElem? (i := 0) rfl)) all0)
      have Vc48 : Arv Z h48 d kd .byte (own_i (2 * cp)) ((own_e1 (cs ++ ds)).map Value.int) (.int 0) := V48.pad (fun i => (own_cpE (A := (own_e1 cs)) (B := (own_e1 ds)) (T := (own_e1 (cs ++ ds))) (cap := (2 * cp)) (own_e1app _ _) (by rw [own_e1len]) (by rw [own_e1len]) i).trans (by rw [own_inat (by omega), own_inat (by omega)]))
      obtain ⟨fs, hr, hrun, hended, hW, hsame⟩ := X48.leave (v := none) (fun _ => rfl)
      refine ⟨_, _, pre44 _ ?_, hrun, hended, _, _, rfl, ?_, ⟨_, rfl⟩, hW, hsame.mono (by decide) (by decide)⟩
      · refine XS.aloadN X42.here hx rfl (hb hby d19_17) rfl rfl ?_
        show Steps _ _ _ (T42.setTop (mkF m 18 #[vR a, vR d, vI (own_i cs.length), vI 1] [(.ref a), (.int (own_i (2 * cs.length))), (.ref d), (.int 0), (.ref t)])) _
        refine st45 _ ?_
        refine X45.arraylength hx (by rw [e45]; exact Ar46.1) (State.isArrayOf_alike hZ.alike Ar46.2.1) (g := (mkF m 21 #[vR a, vR d, vI (own_i cs.length), vI 1] [(.ref t), (.int (own_i (2 * cs.length))), (.ref d), (.int 0), (.ref t)])) rfl rfl (hb hby d19_21) _ ?_
        rw [len_of S46 Ng46]
        refine st48 _ ?_
        refine XS.goto X48.here hx rfl (pc0 := 25) (pc' := 43) rfl (hb hby d19_25) (by decide) (by decide) ?_
        exact X48.returnOut hx Bd.returns (hb hby d19_43) hr
      · show QgetB Z a d t kt ds cz sf kd cs cp h0 n0 _ T48.heap _
        rw [e48]
        exact ⟨rfl, N48, K48, (by rw [own_cdapp, ec1, ec27]; exact Vc48)⟩
abbrev c17_ := jdk_68_method_73_code
theorem d17_0 : decode c17_ 0 = .ok (.aload_n 0, 1) := by decide +kernel
theorem d17_1 : decode c17_ 1 = .ok (.aload_n 2, 1) := by decide +kernel
theorem w_106 : (Cond.methodLink "java/lang/AbstractStringBuilder" (397 : Nat) mN28) ∈ tables_1 := List.mem_of_getElem? (i := 106) (by decide +kernel)
theorem w_110 : (Cond.code mN28 jdk_68_method_71_code (2 : Nat) (Option.none : Option Jvm.ClassFile.FieldType)) ∈ tables_1 := List.mem_of_getElem? (i := 110) (by decide +kernel)
theorem pd__Ljava_lang_String__V : parseMethodDescriptor "(Ljava/lang/String;)V" = some ⟨[(.object "java/lang/String")], none⟩ := by decide +kernel
theorem d17_2 : decode c17_ 2 = .ok (.invokevirtual 397, 3) := by decide +kernel
theorem w_109 : (Cond.selects "java/lang/StringBuilder" mN28 mN28) ∈ tables_1 := List.mem_of_getElem? (i := 109) (by decide +kernel)
theorem w_108 : (Cond.privateMethod mN28) ∈ tables_1 := List.mem_of_getElem? (i := 108) (by decide +kernel)
theorem w_107 : (Cond.instanceMethod mN28) ∈ tables_1 := List.mem_of_getElem? (i := 107) (by decide +kernel)
theorem d17_5 : decode c17_ 5 = .ok (.aload_n 2, 1) := by decide +kernel
theorem d17_6 : decode c17_ 6 = .ok (.aload_n 0, 1) := by decide +kernel
theorem d17_7 : decode c17_ 7 = .ok (.getfield 15, 3) := by decide +kernel
theorem d17_10 : decode c17_ 10 = .ok (.iload_n 1, 1) := by decide +kernel
theorem d17_11 : decode c17_ 11 = .ok (.aload_n 0, 1) := by decide +kernel
theorem d17_12 : decode c17_ 12 = .ok (.getfield 22, 3) := by decide +kernel
theorem w_112 : (Cond.methodLink "java/lang/AbstractStringBuilder" (399 : Nat) mN29) ∈ tables_1 := List.mem_of_getElem? (i := 112) (by decide +kernel)
theorem w_116 : (Cond.code mN29 jdk_42_method_147_code (4 : Nat) (Option.none : Option Jvm.ClassFile.FieldType)) ∈ tables_1 := List.mem_of_getElem? (i := 116) (by decide +kernel)
theorem pd__ABIB_V : parseMethodDescriptor "([BIB)V" = some ⟨[(.array .byte), .int, .byte], none⟩ := by decide +kernel
theorem d17_15 : decode c17_ 15 = .ok (.invokevirtual 399, 3) := by decide +kernel
theorem w_115 : (Cond.selects "java/lang/String" mN29 mN29) ∈ tables_1 := List.mem_of_getElem? (i := 115) (by decide +kernel)
theorem w_113 : (Cond.declares mN29) ∈ tables_1 := List.mem_of_getElem? (i := 113) (by decide +kernel)
theorem w_114 : (Cond.instanceMethod mN29) ∈ tables_1 := List.mem_of_getElem? (i := 114) (by decide +kernel)
theorem d17_18 : decode c17_ 18 = .ok (.return_, 1) := by decide +kernel
abbrev mN30 : MethodName := ⟨"java/lang/AbstractStringBuilder", "putStringAt", "(ILjava/lang/String;)V"⟩
theorem ef_putS (m : MethodId) (x0 : Addr) (x1 : Int32) (x2 : Addr) : entryFrame m #[(.ref x0), (.int x1), (.ref x2)] 3 = mkF m 0 #[vR x0, vI x1, vR x2] [] := by first | (simp [entryFrame, mkF, argsToLocals, Value.category]; done) | rfl
def QputS (Z : State) (b : Addr) (a : Addr) (t : Addr) (kt : ClassId) (ds : List Int32) (cz : Int32) (sf : Value) (vb : Addr) (kv : ClassId) (cs : List Int32) (cp : Nat) (h0 : Heap) (n0 : Nat) (v : Option Value) (h : Heap) (L : List Loc) : Prop := ∃ (vb2 : Addr), ∃ (kv2 : ClassId), v = none ∧ Fr n0 L ∧ Keep h0 h [b, vb] ∧ (vb2 = vb ∨ h0.size ≤ vb2) ∧ Exa Z h b "java/lang/StringBuilder" ∧ Fld Z h b "java/lang/AbstractStringBuilder" "value" "[B" (.ref vb2) ∧ Fld Z h b "java/lang/AbstractStringBuilder" "coder" "B" (.int (own_i (own_cd (cs ++ ds)))) ∧ Fld Z h b "java/lang/AbstractStringBuilder" "count" "I" (.int (own_i cs.length)) ∧ Fld Z h b "java/lang/AbstractStringBuilder" "maybeLatin1" "Z" (.int 0) ∧ Arv Z h vb2 kv2 .byte (own_i (own_wd (own_cd (cs ++ ds)) cp)) ((own_enc (own_cd (cs ++ ds)) (cs ++ ds)).map Value.int) (.int 0)
set_option maxRecDepth 65536 in
set_option maxHeartbeats 40000000 in
theorem rmputS (l : Launch) (Z : State) (a0 : Array Value) (hw : ∀ d ∈ tables_1, d.before a0 Z = true) (ws : List Jvm.Cond) (b : Addr) (a : Addr) (t : Addr) (kt : ClassId) (ds : List Int32) (cz : Int32) (sf : Value) (vb : Addr) (kv : ClassId) (cs : List Int32) (cp : Nat) (h0 : Heap) (n0 : Nat) (O0 : Old Z n0 h0) (hp0 : Exa Z h0 b "java/lang/StringBuilder") (hp1 : Fld Z h0 b "java/lang/AbstractStringBuilder" "value" "[B" (.ref vb)) (hp2 : Fld Z h0 b "java/lang/AbstractStringBuilder" "coder" "B" (.int (own_i (own_cd cs)))) (hp3 : Fld Z h0 b "java/lang/AbstractStringBuilder" "count" "I" (.int (own_i cs.length))) (hp4 : Fld Z h0 b "java/lang/AbstractStringBuilder" "maybeLatin1" "Z" (.int 0)) (hp5 : Arv Z h0 vb kv .byte (own_i (own_wd (own_cd cs) cp)) ((own_enc (own_cd cs) cs).map Value.int) (.int 0)) (hp6 : n0 ≤ b) (hp7 : n0 ≤ vb) (hp8 : Exa Z h0 a "java/lang/String") (hp9 : Fld Z h0 a "java/lang/String" "value" "[B" (.ref t)) (hp10 : Fld Z h0 a "java/lang/String" "coder" "B" (.int (own_i (own_cd ds)))) (hp11 : Arv Z h0 t kt .byte (own_i (own_wd (own_cd ds) ds.length)) ((own_enc (own_cd ds) ds).map Value.int) (.int 0)) (htv : (t ≠ vb)) (hlc : (cs.length + ds.length ≤ cp)) (hcp : (cp ≤ 80)) (hch : (own_Ch cs)) (hcd : (own_Ch ds)) (hp17 : Sta Z Z.heap "java/lang/StringUTF16" "$assertionsDisabled" "Z" (.int 1)) (hp18 : Sta Z Z.heap "java/lang/StringUTF16" "HI_BYTE_SHIFT" "I" (.int 0)) (hp19 : Sta Z Z.heap "java/lang/StringUTF16" "LO_BYTE_SHIFT" "I" (.int 8)) (hp20 : Sta Z Z.heap "jdk/internal/util/Preconditions" "SIOOBE_FORMATTER" "Ljava/util/function/BiFunction;" sf) (hsf : (sf.isRef = true)) (hp22 : Sta Z Z.heap "java/lang/String" "COMPACT_STRINGS" "Z" (.int cz)) (hcz : (¬ (cz = (0 : Int32)))) :
    MetFree l mN30 (head1 (Jvm.Cond.code mN30 jdk_68_method_73_code 3 none :: ws) ({ frames := 7, cells := 1, slots := 160, locals := 102 } : Room)) (fun as_ U => as_ = #[(.ref b), (.int (own_i cs.length)), (.ref a)] ∧ Z.Warmed39 U.vm ∧ U.heap = h0) (fun _ _ _ _ _ => True) (fun _ U o U' => ∃ v L, o = .returned v ∧ QputS Z b a t kt ds cz sf vb kv cs cp h0 n0 v U'.heap L ∧ FrameEnd U o U' L ({ frames := 7, cells := 1, slots := 160, locals := 102 } : Room).cells ({ frames := 7, cells := 1, slots := 160, locals := 102 } : Room).slots) := by
  refine MetFree.of_bodySF (plainFor_of_name pn_java_lang_AbstractStringBuilder) hisR ?_
  intro p e s m args below meth c s₁ Bd hml0 hP hK
  obtain ⟨rfl, hZ, hh⟩ := hP
  have hx := Bd.exec
  have hby := Bd.bytes
  have hml : c.maxLocals = 3 := hml0
  have hown : s.vm.findClass "java/lang/AbstractStringBuilder" = some m.cls := findClass_of_methodNamed Bd.named
  have hnm := (name_of_methodNamed Bd.named Bd.method).1
  have X0 : Stand p l e ({ frames := 7, cells := 1, slots := 160, locals := 102 } : Room) s m #[(.ref b), (.int (own_i cs.length)), (.ref a)] below meth c s₁ [] 0 0 := Stand.of_body Bd
  have e0 : s₁.heap = h0 := by rw [← hh, Bd.state]; rfl
  have N0 := Fr.nil n0
  have Z0 := own_z0 O0
  have pre0 : ∀ tg_, Steps p.tables e below (s₁.setTop (mkF m 0 #[vR b, vI (own_i cs.length), vR a] [])) tg_ → Steps p.tables e below (s₁.setTop (entryFrame m #[(.ref b), (.int (own_i cs.length)), (.ref a)] 3)) tg_ := fun tg_ kt_ => castTop (ef_putS m b (own_i cs.length) a) kt_
  obtain ⟨cq1, q1, q1'⟩ := hp0.cell
  obtain ⟨_, _, ⟨T1, L1, k1, n1⟩, -, X1, ⟨Lc1, hQ1, l1, y1, z1⟩, st1⟩ := X0.privateBack hx (y := mN28) hown (mvT hZ (hw _ w_106)) (mvT hZ (hw _ w_107)) (mvT hZ (own_selfPriv (hw _ w_109) (hw _ w_108) (hw _ w_107) (by decide))) (Cond.privateMethod_at (mvP hZ (hw _ w_108) (args := #[]))) (mvT hZ (hw _ w_110)) (by decide) (backOf (W := 0) (rminfN l Z a0 hw [] b a cz sf vb kv cs cp ds h0 n0 O0 hp0 hp1 hp2 hp3 hp4 hp5 hp6 hp8 hp10 (by omega) hcp hch hp17 hp18 hp19 hp20 hsf hp22 hcz) hZ (hw _ w_110) (hw _ w_38) (by decide) (by decide)) (g := (mkF m 2 #[vR b, vI (own_i cs.length), vR a] [(.ref a), (.ref b)])) rfl (by rw [hml]; rfl) (Steps.refl _) (a := b) (by rw [e0]; exact q1) q1' (argsL := [(.ref a)]) (rest := []) (lenOf pd__Ljava_lang_String__V rfl) rfl (by show 2 * 0 + _ ≤ _; exact Nat.le_of_eq rfl) (hb hby d17_2) (fun _ _ => ⟨rfl, e0, (by decide : 0 + 1 ≤ _), (by decide : 0 + 160 ≤ _)⟩)
  dsimp only [Pt.U, Pt.locs, Pt.cells, Pt.slots] at X1 l1 y1 z1 st1 hQ1
  subst l1 y1 z1
  obtain ⟨vb2_1, kv2_1, rfl, N1q, Kc1, r1_1, r1_2, r1_3, r1_4, r1_5, r1_6, r1_7⟩ := hQ1
  have N1 := Fr.app N0 N1q
  have yz2 : vb2_1 = vb ∨ h0.size ≤ vb2_1 := own_yy r1_1 (Or.inl rfl) (Keep.refl h0 [b, vb]).1
  have gn2 : n0 ≤ vb2_1 := own_zy yz2 hp7 Z0
  have O1 : Old Z n0 T1.heap := O0.keep Kc1 (allS hp6 all0)
  have K1 : Keep h0 T1.heap [b, vb] := (Keep.refl h0 [b, vb]).trans Kc1 (allS (Or.inl (List.mem_of_getElem? (i := 0) rfl)) all0)
  obtain ⟨T3, X3, e3, st3⟩ := getF X1 hx hZ hown (host := "") (Or.inl (hw _ w_42)) Via.refl rfl r1_3 (g := (mkF m 7 #[vR b, vI (own_i cs.length), vR a] [(.ref b), (.ref a)])) rfl rfl (hb hby d17_7)
  obtain ⟨T4, X4, e4, st4⟩ := getF X3 hx hZ hown (host := "") (Or.inl (hw _ w_44)) Via.refl e3 r1_4 (g := (mkF m 12 #[vR b, vI (own_i cs.length), vR a] [(.ref b), (.int (own_i cs.length)), (.ref vb2_1), (.ref a)])) rfl rfl (hb hby d17_12)
  obtain ⟨cq5, kq5, q5a, q5b, q5c⟩ := isOf hZ e4 (hp8.keep Kc1)
  obtain ⟨_, _, ⟨T5, L5, k5, n5⟩, -, X5, ⟨Lc5, hQ5, l5, y5, z5⟩, st5⟩ := X4.virtualBack hx (y := mN29) (z := mN29) hown (mvT hZ (hw _ w_112)) (mvT hZ (hw _ w_113)) (notFace_of_selects (args := #[]) (mvT hZ (hw _ w_115))) (mvT hZ (hw _ w_115)) (mvT hZ (hw _ w_114)) (by decide) (backOf (W := 0) (rmgetB l Z a0 hw [] a vb2_1 t kt ds cz sf kv2_1 cs cp T1.heap n0 O1 (hp8.keep Kc1) (hp9.keep Kc1 (ninS (ne_exa hp8 hp0 (by decide)) nin0)) (hp10.keep Kc1 (ninS (ne_exa hp8 hp0 (by decide)) nin0)) (hp11.keep Kc1 (ninS (Ne.symm (own_neArv hp0 (hw _ w_29) hp11)) nin0)) gn2 r1_7 (own_neY r1_1 htv hp11.lt) hlc hcp hch hcd hp17 hp18 hp19 hp20 hsf hp22 hcz) hZ (hw _ w_116) (hw _ w_2) (by decide) (by decide)) q5a q5c (g := (mkF m 15 #[vR b, vI (own_i cs.length), vR a] [(.int (own_i (own_cd (cs ++ ds)))), (.int (own_i cs.length)), (.ref vb2_1), (.ref a)])) rfl (by rw [hml]; rfl) (Steps.refl _) (argsL := [(.ref vb2_1), (.int (own_i cs.length)), (.int (own_i (own_cd (cs ++ ds))))]) (rest := []) (lenOf pd__ABIB_V rfl) rfl (by show 2 * 0 + _ ≤ _; exact Nat.le_of_eq rfl) (hb hby d17_15) (fun _ _ => ⟨rfl, e4, (by decide : 1 + 0 ≤ _), (by decide : 160 + 0 ≤ _)⟩)
  dsimp only [Pt.U, Pt.locs, Pt.cells, Pt.slots] at X5 l5 y5 z5 st5 hQ5
  subst l5 y5 z5
  obtain ⟨rfl, N5q, Kc5, r5_1⟩ := hQ5
  have N5 := Fr.app N1 N5q
  have O5 : Old Z n0 T5.heap := O1.keep Kc5 (allS gn2 all0)
  have K5 : Keep h0 T5.heap [b, vb] := K1.trans Kc5 (allS (own_inY yz2 (List.mem_of_getElem? (i := 1) rfl)) all0)
  obtain ⟨fs, hr, hrun, hended, hW, hsame⟩ := X5.leave (v := none) (fun _ => rfl)
  refine ⟨_, _, pre0 _ ?_, hrun, hended, _, _, rfl, ?_, ⟨_, rfl⟩, hW, hsame.mono (by decide) (by decide)⟩
  · refine XS.aloadN X0.here hx rfl (hb hby d17_0) rfl rfl ?_
    refine XS.aloadN X0.here hx rfl (hb hby d17_1) rfl rfl ?_
    refine st1.trans ?_
    refine XS.aloadN X1.here hx rfl (hb hby d17_5) rfl rfl ?_
    refine XS.aloadN X1.here hx rfl (hb hby d17_6) rfl rfl ?_
    refine st3 _ ?_
    refine XS.iloadN X3.here hx rfl (hb hby d17_10) rfl ?_
    refine XS.aloadN X3.here hx rfl (hb hby d17_11) rfl rfl ?_
    refine st4 _ ?_
    refine st5.trans ?_
    exact X5.returnOut hx Bd.returns (hb hby d17_18) hr
  · show QputS Z b a t kt ds cz sf vb kv cs cp h0 n0 _ T5.heap _
    exact ⟨vb2_1, kv2_1, rfl, N5, K5, yz2, (r1_2.keep Kc5), (r1_3.keep Kc5 (ninS (own_neY r1_1 (own_neArv hp0 (hw _ w_29) hp5) hp0.lt) nin0)), (r1_4.keep Kc5 (ninS (own_neY r1_1 (own_neArv hp0 (hw _ w_29) hp5) hp0.lt) nin0)), (r1_5.keep Kc5 (ninS (own_neY r1_1 (own_neArv hp0 (hw _ w_29) hp5) hp0.lt) nin0)), (r1_6.keep Kc5 (ninS (own_neY r1_1 (own_neArv hp0 (hw _ w_29) hp5) hp0.lt) nin0)), r5_1⟩
abbrev c8_ := jdk_68_method_22_code
theorem d8_0 : decode c8_ 0 = .ok (.aload_n 1, 1) := by decide +kernel
theorem d8_1 : decode c8_ 1 = .ok (.ifnonnull 8, 3) := by decide +kernel
theorem d8_9 : decode c8_ 9 = .ok (.aload_n 1, 1) := by decide +kernel
theorem w_57 : (Cond.methodLink "java/lang/AbstractStringBuilder" (32 : Nat) mN2) ∈ tables_1 := List.mem_of_getElem? (i := 57) (by decide +kernel)
theorem w_61 : (Cond.code mN2 jdk_42_method_54_code (1 : Nat) (Option.some FieldType.int)) ∈ tables_1 := List.mem_of_getElem? (i := 61) (by decide +kernel)
theorem pd___I : parseMethodDescriptor "()I" = some ⟨[], some .int⟩ := by decide +kernel
theorem d8_10 : decode c8_ 10 = .ok (.invokevirtual 32, 3) := by decide +kernel
theorem w_60 : (Cond.selects "java/lang/String" mN2 mN2) ∈ tables_1 := List.mem_of_getElem? (i := 60) (by decide +kernel)
theorem w_58 : (Cond.declares mN2) ∈ tables_1 := List.mem_of_getElem? (i := 58) (by decide +kernel)
theorem w_59 : (Cond.instanceMethod mN2) ∈ tables_1 := List.mem_of_getElem? (i := 59) (by decide +kernel)
theorem d8_13 : decode c8_ 13 = .ok (.istore_n 2, 1) := by decide +kernel
theorem d8_14 : decode c8_ 14 = .ok (.aload_n 0, 1) := by decide +kernel
theorem d8_15 : decode c8_ 15 = .ok (.aload_n 0, 1) := by decide +kernel
theorem d8_16 : decode c8_ 16 = .ok (.getfield 79, 3) := by decide +kernel
theorem d8_19 : decode c8_ 19 = .ok (.iload_n 2, 1) := by decide +kernel
theorem d8_20 : decode c8_ 20 = .ok (.iadd, 1) := by decide +kernel
theorem w_70 : (Cond.methodLink "java/lang/AbstractStringBuilder" (100 : Nat) mN19) ∈ tables_1 := List.mem_of_getElem? (i := 70) (by decide +kernel)
theorem w_74 : (Cond.code mN19 jdk_68_method_9_code (3 : Nat) (Option.none : Option Jvm.ClassFile.FieldType)) ∈ tables_1 := List.mem_of_getElem? (i := 74) (by decide +kernel)
theorem pd__I_V : parseMethodDescriptor "(I)V" = some ⟨[.int], none⟩ := by decide +kernel
theorem d8_21 : decode c8_ 21 = .ok (.invokevirtual 100, 3) := by decide +kernel
theorem w_73 : (Cond.selects "java/lang/StringBuilder" mN19 mN19) ∈ tables_1 := List.mem_of_getElem? (i := 73) (by decide +kernel)
theorem w_72 : (Cond.privateMethod mN19) ∈ tables_1 := List.mem_of_getElem? (i := 72) (by decide +kernel)
theorem w_71 : (Cond.instanceMethod mN19) ∈ tables_1 := List.mem_of_getElem? (i := 71) (by decide +kernel)
theorem d8_24 : decode c8_ 24 = .ok (.aload_n 0, 1) := by decide +kernel
theorem d8_25 : decode c8_ 25 = .ok (.aload_n 0, 1) := by decide +kernel
theorem d8_26 : decode c8_ 26 = .ok (.getfield 79, 3) := by decide +kernel
theorem d8_29 : decode c8_ 29 = .ok (.aload_n 1, 1) := by decide +kernel
theorem w_101 : (Cond.methodLink "java/lang/AbstractStringBuilder" (208 : Nat) mN30) ∈ tables_1 := List.mem_of_getElem? (i := 101) (by decide +kernel)
theorem w_105 : (Cond.code mN30 jdk_68_method_73_code (3 : Nat) (Option.none : Option Jvm.ClassFile.FieldType)) ∈ tables_1 := List.mem_of_getElem? (i := 105) (by decide +kernel)
theorem pd__ILjava_lang_String__V : parseMethodDescriptor "(ILjava/lang/String;)V" = some ⟨[.int, (.object "java/lang/String")], none⟩ := by decide +kernel
theorem d8_30 : decode c8_ 30 = .ok (.invokevirtual 208, 3) := by decide +kernel
theorem w_104 : (Cond.selects "java/lang/StringBuilder" mN30 mN30) ∈ tables_1 := List.mem_of_getElem? (i := 104) (by decide +kernel)
theorem w_103 : (Cond.privateMethod mN30) ∈ tables_1 := List.mem_of_getElem? (i := 103) (by decide +kernel)
theorem w_102 : (Cond.instanceMethod mN30) ∈ tables_1 := List.mem_of_getElem? (i := 102) (by decide +kernel)
theorem d8_33 : decode c8_ 33 = .ok (.aload_n 0, 1) := by decide +kernel
theorem d8_34 : decode c8_ 34 = .ok (.dup, 1) := by decide +kernel
theorem d8_35 : decode c8_ 35 = .ok (.getfield 79, 3) := by decide +kernel
theorem d8_38 : decode c8_ 38 = .ok (.iload_n 2, 1) := by decide +kernel
theorem d8_39 : decode c8_ 39 = .ok (.iadd, 1) := by decide +kernel
theorem d8_40 : decode c8_ 40 = .ok (.putfield 79, 3) := by decide +kernel
theorem d8_43 : decode c8_ 43 = .ok (.aload_n 0, 1) := by decide +kernel
theorem d8_44 : decode c8_ 44 = .ok (.areturn, 1) := by decide +kernel
abbrev mN31 : MethodName := ⟨"java/lang/AbstractStringBuilder", "append", "(Ljava/lang/String;)Ljava/lang/AbstractStringBuilder;"⟩
theorem ef_asbApp (m : MethodId) (x0 : Addr) (x1 : Addr) : entryFrame m #[(.ref x0), (.ref x1)] 3 = mkF m 0 #[vR x0, vR x1, .unset] [] := by first | (simp [entryFrame, mkF, argsToLocals, Value.category]; done) | rfl
def QasbApp (Z : State) (b : Addr) (a : Addr) (t : Addr) (kt : ClassId) (ds : List Int32) (cz : Int32) (sf : Value) (vb : Addr) (kv : ClassId) (cs : List Int32) (cp : Nat) (h0 : Heap) (n0 : Nat) (v : Option Value) (h : Heap) (L : List Loc) : Prop := ∃ (vb2 : Addr), ∃ (kv2 : ClassId), v = some (.ref b) ∧ Fr n0 L ∧ Keep h0 h [b, vb] ∧ (vb2 = vb ∨ h0.size ≤ vb2) ∧ Exa Z h b "java/lang/StringBuilder" ∧ Fld Z h b "java/lang/AbstractStringBuilder" "value" "[B" (.ref vb2) ∧ Fld Z h b "java/lang/AbstractStringBuilder" "coder" "B" (.int (own_i (own_cd (cs ++ ds)))) ∧ Fld Z h b "java/lang/AbstractStringBuilder" "count" "I" (.int (own_i (cs ++ ds).length)) ∧ Fld Z h b "java/lang/AbstractStringBuilder" "maybeLatin1" "Z" (.int 0) ∧ Arv Z h vb2 kv2 .byte (own_i (own_wd (own_cd (cs ++ ds)) (own_ec cp (cs.length + ds.length)))) ((own_enc (own_cd (cs ++ ds)) (cs ++ ds)).map Value.int) (.int 0)
set_option maxRecDepth 65536 in
set_option maxHeartbeats 40000000 in
theorem rmasbApp (l : Launch) (Z : State) (a0 : Array Value) (hw : ∀ d ∈ tables_1, d.before a0 Z = true) (ws : List Jvm.Cond) (b : Addr) (a : Addr) (t : Addr) (kt : ClassId) (ds : List Int32) (cz : Int32) (sf : Value) (vb : Addr) (kv : ClassId) (cs : List Int32) (cp : Nat) (h0 : Heap) (n0 : Nat) (O0 : Old Z n0 h0) (hp0 : Exa Z h0 b "java/lang/StringBuilder") (hp1 : Fld Z h0 b "java/lang/AbstractStringBuilder" "value" "[B" (.ref vb)) (hp2 : Fld Z h0 b "java/lang/AbstractStringBuilder" "coder" "B" (.int (own_i (own_cd cs)))) (hp3 : Fld Z h0 b "java/lang/AbstractStringBuilder" "count" "I" (.int (own_i cs.length))) (hp4 : Fld Z h0 b "java/lang/AbstractStringBuilder" "maybeLatin1" "Z" (.int 0)) (hp5 : Arv Z h0 vb kv .byte (own_i (own_wd (own_cd cs) cp)) ((own_enc (own_cd cs) cs).map Value.int) (.int 0)) (hp6 : n0 ≤ b) (hp7 : n0 ≤ vb) (hp8 : Exa Z h0 a "java/lang/String") (hp9 : Fld Z h0 a "java/lang/String" "value" "[B" (.ref t)) (hp10 : Fld Z h0 a "java/lang/String" "coder" "B" (.int (own_i (own_cd ds)))) (hp11 : Arv Z h0 t kt .byte (own_i (own_wd (own_cd ds) ds.length)) ((own_enc (own_cd ds) ds).map Value.int) (.int 0)) (htv : (t ≠ vb)) (hmm : (cs.length + ds.length ≤ 80)) (hcp : (cp ≤ 80)) (hec : (own_ec cp (cs.length + ds.length) ≤ 80)) (hlc : (cs.length ≤ cp)) (hch : (own_Ch cs)) (hcd : (own_Ch ds)) (hp19 : Sta Z Z.heap "java/lang/StringUTF16" "$assertionsDisabled" "Z" (.int 1)) (hp20 : Sta Z Z.heap "java/lang/StringUTF16" "HI_BYTE_SHIFT" "I" (.int 0)) (hp21 : Sta Z Z.heap "java/lang/StringUTF16" "LO_BYTE_SHIFT" "I" (.int 8)) (hp22 : Sta Z Z.heap "jdk/internal/util/Preconditions" "SIOOBE_FORMATTER" "Ljava/util/function/BiFunction;" sf) (hsf : (sf.isRef = true)) (hp24 : Sta Z Z.heap "java/lang/String" "COMPACT_STRINGS" "Z" (.int cz)) (hcz : (¬ (cz = (0 : Int32)))) :
    MetFree l mN31 (head1 (Jvm.Cond.code mN31 jdk_68_method_22_code 3 (some (.object "java/lang/AbstractStringBuilder")) :: ws) ({ frames := 8, cells := 2, slots := 488, locals := 116 } : Room)) (fun as_ U => as_ = #[(.ref b), (.ref a)] ∧ Z.Warmed39 U.vm ∧ U.heap = h0) (fun _ _ _ _ _ => True) (fun _ U o U' => ∃ v L, o = .returned v ∧ QasbApp Z b a t kt ds cz sf vb kv cs cp h0 n0 v U'.heap L ∧ FrameEnd U o U' L ({ frames := 8, cells := 2, slots := 488, locals := 116 } : Room).cells ({ frames := 8, cells := 2, slots := 488, locals := 116 } : Room).slots) := by
  refine MetFree.of_bodySF (plainFor_of_name pn_java_lang_AbstractStringBuilder) hisR ?_
  intro p e s m args below meth c s₁ Bd hml0 hP hK
  obtain ⟨rfl, hZ, hh⟩ := hP
  have hx := Bd.exec
  have hby := Bd.bytes
  have hml : c.maxLocals = 3 := hml0
  have hown : s.vm.findClass "java/lang/AbstractStringBuilder" = some m.cls := findClass_of_methodNamed Bd.named
  have hnm := (name_of_methodNamed Bd.named Bd.method).1
  have X0 : Stand p l e ({ frames := 8, cells := 2, slots := 488, locals := 116 } : Room) s m #[(.ref b), (.ref a)] below meth c s₁ [] 0 0 := Stand.of_body Bd
  have e0 : s₁.heap = h0 := by rw [← hh, Bd.state]; rfl
  have N0 := Fr.nil n0
  have Z0 := own_z0 O0
  have pre0 : ∀ tg_, Steps p.tables e below (s₁.setTop (mkF m 0 #[vR b, vR a, .unset] [])) tg_ → Steps p.tables e below (s₁.setTop (entryFrame m #[(.ref b), (.ref a)] 3)) tg_ := fun tg_ kt_ => castTop (ef_asbApp m b a) kt_
  obtain ⟨cq1, kq1, q1a, q1b, q1c⟩ := isOf hZ e0 hp8
  obtain ⟨_, _, ⟨T1, L1, k1, n1⟩, -, X1, ⟨Lc1, hQ1, l1, y1, z1⟩, st1⟩ := X0.virtualBack hx (y := mN2) (z := mN2) hown (mvT hZ (hw _ w_57)) (mvT hZ (hw _ w_58)) (notFace_of_selects (args := #[]) (mvT hZ (hw _ w_60))) (mvT hZ (hw _ w_60)) (mvT hZ (hw _ w_59)) (by decide) (backOf (W := 0) (rmslenK l Z a0 hw [] a t kt ds cz h0 n0 O0 hp8 hp9 hp10 hp11 hp24 hcz (by omega)) hZ (hw _ w_61) (hw _ w_2) (by decide) (by decide)) q1a q1c (g := (mkF m 10 #[vR b, vR a, .unset] [(.ref a)])) rfl (by rw [hml]; rfl) (Steps.refl _) (argsL := []) (rest := []) (lenOf pd___I rfl) rfl (by show 2 * 0 + _ ≤ _; exact Nat.le_of_eq rfl) (hb hby d8_10) (fun _ _ => ⟨rfl, e0, (by decide : 0 + 0 ≤ _), (by decide : 0 + 0 ≤ _)⟩)
  dsimp only [Pt.U, Pt.locs, Pt.cells, Pt.slots] at X1 l1 y1 z1 st1 hQ1
  subst l1 y1 z1
  obtain ⟨rfl, N1q, eh1⟩ := hQ1
  have N1 := Fr.app N0 N1q
  obtain ⟨T2, X2, e2, st2⟩ := getF X1 hx hZ hown (host := "") (Or.inl (hw _ w_68)) Via.refl eh1 hp3 (g := (mkF m 16 #[vR b, vR a, vI (own_i ds.length)] [(.ref b), (.ref b)])) rfl rfl (hb hby d8_16)
  have pre3 := fun tg_ (kt_ : Steps p.tables e below (T2.setTop (mkF m 21 #[vR b, vR a, vI (own_i ds.length)] [(.int ((own_i cs.length) + (own_i ds.length))), (.ref b)])) tg_) => pre0 tg_ (by
    refine XS.aloadN X0.here hx rfl (hb hby d8_0) rfl rfl ?_
    refine XS.ifnonnullYes X0.here hx rfl (pc0 := 1) (pc' := 9) rfl (hb hby d8_1) rfl (by decide) (by decide) ?_
    refine XS.aloadN X0.here hx rfl (hb hby d8_9) rfl rfl ?_
    refine st1.trans ?_
    refine XS.istoreN X1.here hx rfl (hb hby d8_13) rfl (l' := #[vR b, vR a, vI (own_i ds.length)]) rfl ?_
    refine XS.aloadN X1.here hx rfl (hb hby d8_14) rfl rfl ?_
    refine XS.aloadN X1.here hx rfl (hb hby d8_15) rfl rfl ?_
    refine st2 _ ?_
    refine XS.iloadN X2.here hx rfl (hb hby d8_19) rfl ?_
    refine XS.iadd X2.here hx rfl (hb hby d8_20) rfl ?_
    exact kt_)
  have pre4 := fun tg_ (kt_ : Steps p.tables e below (T2.setTop (mkF m 21 #[vR b, vR a, vI (own_i ds.length)] [(.int (own_i (cs.length + ds.length))), (.ref b)])) tg_) => pre3 tg_ (by
    rw [show ((own_i cs.length) + (own_i ds.length)) = (own_i (cs.length + ds.length)) from own_iadd _ _]
    exact kt_)
  obtain ⟨cq5, q5, q5'⟩ := hp0.cell
  obtain ⟨_, _, ⟨T5, L5, k5, n5⟩, -, X5, ⟨Lc5, hQ5, l5, y5, z5⟩, st5⟩ := X2.privateBack hx (y := mN19) hown (mvT hZ (hw _ w_70)) (mvT hZ (hw _ w_71)) (mvT hZ (own_selfPriv (hw _ w_73) (hw _ w_72) (hw _ w_71) (by decide))) (Cond.privateMethod_at (mvP hZ (hw _ w_72) (args := #[]))) (mvT hZ (hw _ w_74)) (by decide) (backOf (W := 0) (rmensCap l Z a0 hw [] b (cs.length + ds.length) (own_cd cs) cp vb kv (own_enc (own_cd cs) cs) (.int (own_i cs.length)) (.int 0) h0 n0 O0 hp0 hp1 hp2 hp5 hp6 hp3 hp4 (own_cdle _) hcp hmm (by rw [own_enclen]; exact own_wdm.mpr hlc)) hZ (hw _ w_74) (hw _ w_38) (by decide) (by decide)) (g := (mkF m 21 #[vR b, vR a, vI (own_i ds.length)] [(.int (own_i (cs.length + ds.length))), (.ref b)])) rfl (by rw [hml]; rfl) (Steps.refl _) (a := b) (by rw [e2]; exact q5) q5' (argsL := [(.int (own_i (cs.length + ds.length)))]) (rest := []) (lenOf pd__I_V rfl) rfl (by show 2 * 0 + _ ≤ _; exact Nat.le_of_eq rfl) (hb hby d8_21) (fun _ _ => ⟨rfl, e2, (by decide : 0 + 1 ≤ _), (by decide : 0 + 328 ≤ _)⟩)
  dsimp only [Pt.U, Pt.locs, Pt.cells, Pt.slots] at X5 l5 y5 z5 st5 hQ5
  subst l5 y5 z5
  obtain ⟨vb2_5, kv2_5, rfl, N5q, Kc5, r5_1, r5_2, r5_3, r5_4, r5_5, r5_6, r5_7⟩ := hQ5
  have N5 := Fr.app N1 N5q
  have yz6 : vb2_5 = vb ∨ h0.size ≤ vb2_5 := own_yy r5_3 (Or.inl rfl) (Keep.refl h0 [b, vb]).1
  have gn6 : n0 ≤ vb2_5 := own_zy yz6 hp7 Z0
  have O5 : Old Z n0 T5.heap := O0.keep Kc5 (allS hp6 all0)
  have K5 : Keep h0 T5.heap [b, vb] := (Keep.refl h0 [b, vb]).trans Kc5 (allS (Or.inl (List.mem_of_getElem? (i := 0) rfl)) all0)
  obtain ⟨T7, X7, e7, st7⟩ := getF X5 hx hZ hown (host := "") (Or.inl (hw _ w_68)) Via.refl rfl r5_6 (g := (mkF m 26 #[vR b, vR a, vI (own_i ds.length)] [(.ref b), (.ref b)])) rfl rfl (hb hby d8_26)
  obtain ⟨cq8, q8, q8'⟩ := r5_1.cell
  obtain ⟨_, _, ⟨T8, L8, k8, n8⟩, -, X8, ⟨Lc8, hQ8, l8, y8, z8⟩, st8⟩ := X7.privateBack hx (y := mN30) hown (mvT hZ (hw _ w_101)) (mvT hZ (hw _ w_102)) (mvT hZ (own_selfPriv (hw _ w_104) (hw _ w_103) (hw _ w_102) (by decide))) (Cond.privateMethod_at (mvP hZ (hw _ w_103) (args := #[]))) (mvT hZ (hw _ w_105)) (by decide) (backOf (W := 0) (rmputS l Z a0 hw [] b a t kt ds cz sf vb2_5 kv2_5 cs (own_ec cp (cs.length + ds.length)) T5.heap n0 O5 r5_1 r5_2 r5_4 r5_6 r5_7 r5_5 hp6 gn6 (hp8.keep Kc5) (hp9.keep Kc5 (ninS (ne_exa hp8 hp0 (by decide)) nin0)) (hp10.keep Kc5 (ninS (ne_exa hp8 hp0 (by decide)) nin0)) (hp11.keep Kc5 (ninS (Ne.symm (own_neArv hp0 (hw _ w_29) hp11)) nin0)) (own_neY r5_3 htv hp11.lt) (own_ecle _ _) hec hch hcd hp19 hp20 hp21 hp22 hsf hp24 hcz) hZ (hw _ w_105) (hw _ w_38) (by decide) (by decide)) (g := (mkF m 30 #[vR b, vR a, vI (own_i ds.length)] [(.ref a), (.int (own_i cs.length)), (.ref b)])) rfl (by rw [hml]; rfl) (Steps.refl _) (a := b) (by rw [e7]; exact q8) q8' (argsL := [(.int (own_i cs.length)), (.ref a)]) (rest := []) (lenOf pd__ILjava_lang_String__V rfl) rfl (by show 2 * 0 + _ ≤ _; exact Nat.le_of_eq rfl) (hb hby d8_30) (fun _ _ => ⟨rfl, e7, (by decide : 1 + 1 ≤ _), (by decide : 328 + 160 ≤ _)⟩)
  dsimp only [Pt.U, Pt.locs, Pt.cells, Pt.slots] at X8 l8 y8 z8 st8 hQ8
  subst l8 y8 z8
  obtain ⟨vb2_8, kv2_8, rfl, N8q, Kc8, r8_1, r8_2, r8_3, r8_4, r8_5, r8_6, r8_7⟩ := hQ8
  have N8 := Fr.app N5 N8q
  have yz9 : vb2_8 = vb ∨ h0.size ≤ vb2_8 := own_yy r8_1 yz6 K5.1
  have gn9 : n0 ≤ vb2_8 := own_zy yz9 hp7 Z0
  have O8 : Old Z n0 T8.heap := O5.keep Kc8 (allS hp6 (allS gn6 all0))
  have K8 : Keep h0 T8.heap [b, vb] := K5.trans Kc8 (allS (Or.inl (List.mem_of_getElem? (i := 0) rfl)) (allS (own_inY yz6 (List.mem_of_getElem? (i := 1) rfl)) all0))
  obtain ⟨T10, X10, e10, st10⟩ := getF X8 hx hZ hown (host := "") (Or.inl (hw _ w_68)) Via.refl rfl r8_5 (g := (mkF m 35 #[vR b, vR a, vI (own_i ds.length)] [(.ref b), (.ref b)])) rfl rfl (hb hby d8_35)
  have pre11 := fun tg_ (kt_ : Steps p.tables e below (T10.setTop (mkF m 40 #[vR b, vR a, vI (own_i ds.length)] [(.int ((own_i cs.length) + (own_i ds.length))), (.ref b)])) tg_) => pre4 tg_ (by
    refine st5.trans ?_
    refine XS.aloadN X5.here hx rfl (hb hby d8_24) rfl rfl ?_
    refine XS.aloadN X5.here hx rfl (hb hby d8_25) rfl rfl ?_
    show Steps _ _ _ (T5.setTop (mkF m 26 #[vR b, vR a, vI (own_i ds.length)] [(.ref b), (.ref b)])) _
    refine st7 _ ?_
    refine XS.aloadN X7.here hx rfl (hb hby d8_29) rfl rfl ?_
    refine st8.trans ?_
    refine XS.aloadN X8.here hx rfl (hb hby d8_33) rfl rfl ?_
    refine XS.dup X8.here hx rfl (hb hby d8_34) rfl rfl ?_
    refine st10 _ ?_
    refine XS.iloadN X10.here hx rfl (hb hby d8_38) rfl ?_
    refine XS.iadd X10.here hx rfl (hb hby d8_39) rfl ?_
    exact kt_)
  have pre12 := fun tg_ (kt_ : Steps p.tables e below (T10.setTop (mkF m 40 #[vR b, vR a, vI (own_i ds.length)] [(.int (own_i (cs ++ ds).length)), (.ref b)])) tg_) => pre11 tg_ (by
    rw [show ((own_i cs.length) + (own_i ds.length)) = (own_i (cs ++ ds).length) from (by rw [own_iadd, List.length_append])]
    exact kt_)
  obtain ⟨T13, h13, X13, e13, W13, st13⟩ := putF X10 hx hZ hown (host := "") (Or.inl (hw _ w_68)) Via.refl e10 r8_5 r8_2 (Or.inl (hw _ w_69)) (hw _ w_29) (ty := .int) (by decide) rfl rfl (g := (mkF m 40 #[vR b, vR a, vI (own_i ds.length)] [(.int (own_i (cs ++ ds).length)), (.ref b)])) rfl rfl (hb hby d8_40)
  have Fw13 := r8_5.same W13
  have N13 := Fr.snoc X13 N8 hp6
  have O13 : Old Z n0 h13 := O8.wr W13 hp6
  have K13 : Keep h0 h13 [b, vb] := K8.wr W13 (Or.inl (List.mem_of_getElem? (i := 0) rfl))
  obtain ⟨fs, hr, hrun, hended, hW, hsame⟩ := X13.leave (v := some (.ref b)) (fun h => by rw [Bd.returns] at h; cases h)
  refine ⟨_, _, pre12 _ ?_, hrun, hended, _, _, rfl, ?_, ⟨_, rfl⟩, hW, hsame.mono (by decide) (by decide)⟩
  · refine st13 _ ?_
    refine XS.aloadN X13.here hx rfl (hb hby d8_43) rfl rfl ?_
    jvm_step X13.here [X13.here.top, hx, (hb hby d8_44), X13.method', Bd.returns, Value.isRef, FieldType.isReference]
    first | (intro acts; rw [hr _ acts rfl rfl rfl]) | rw [hr _ _ rfl rfl rfl]
    exact Steps.refl _
  · show QasbApp Z b a t kt ds cz sf vb kv cs cp h0 n0 _ T13.heap _
    rw [e13]
    exact ⟨vb2_8, kv2_8, rfl, N13, K13, yz9, (r8_2.wr W13), (r8_3.other W13 (Or.inr (slot_ne (Or.inl (hw _ w_43)) (Or.inl (hw _ w_69)) (by decide) (t := (.array .byte)) (t' := .int) (by decide) (by decide)))), (r8_4.other W13 (Or.inr (slot_ne (Or.inl (hw _ w_45)) (Or.inl (hw _ w_69)) (by decide) (t := .byte) (t' := .int) (by decide) (by decide)))), Fw13, (r8_6.other W13 (Or.inr (slot_ne (Or.inl (hw _ w_294)) (Or.inl (hw _ w_69)) (by decide) (t := .boolean) (t' := .int) (by decide) (by decide)))), (r8_7.other W13 (Ne.symm (own_neY r8_1 (own_neY r5_3 (own_neArv hp0 (hw _ w_29) hp5) hp0.lt) (hp0.keep Kc5).lt)))⟩
abbrev c7_ := jdk_67_method_7_code
theorem d7_0 : decode c7_ 0 = .ok (.aload_n 0, 1) := by decide +kernel
theorem d7_1 : decode c7_ 1 = .ok (.aload_n 1, 1) := by decide +kernel
theorem w_52 : (Cond.methodLink "java/lang/StringBuilder" (29 : Nat) mN31) ∈ tables_1 := List.mem_of_getElem? (i := 52) (by decide +kernel)
theorem w_56 : (Cond.code mN31 jdk_68_method_22_code (3 : Nat) (Option.some (FieldType.object "java/lang/AbstractStringBuilder"))) ∈ tables_1 := List.mem_of_getElem? (i := 56) (by decide +kernel)
theorem pd__Ljava_lang_String__Ljava_lang_AbstractStringBuilder_ : parseMethodDescriptor "(Ljava/lang/String;)Ljava/lang/AbstractStringBuilder;" = some ⟨[(.object "java/lang/String")], some (.object "java/lang/AbstractStringBuilder")⟩ := by decide +kernel
theorem d7_2 : decode c7_ 2 = .ok (.invokespecial 29, 3) := by decide +kernel
theorem w_55 : (Cond.declares mN31) ∈ tables_1 := List.mem_of_getElem? (i := 55) (by decide +kernel)
theorem w_53 : (Cond.instanceMethod mN31) ∈ tables_1 := List.mem_of_getElem? (i := 53) (by decide +kernel)
theorem w_54 : (Cond.superclass "java/lang/StringBuilder" "java/lang/AbstractStringBuilder") ∈ tables_1 := List.mem_of_getElem? (i := 54) (by decide +kernel)
theorem d7_5 : decode c7_ 5 = .ok (.pop, 1) := by decide +kernel
theorem d7_6 : decode c7_ 6 = .ok (.aload_n 0, 1) := by decide +kernel
theorem d7_7 : decode c7_ 7 = .ok (.areturn, 1) := by decide +kernel
abbrev mN32 : MethodName := ⟨"java/lang/StringBuilder", "append", "(Ljava/lang/String;)Ljava/lang/StringBuilder;"⟩
theorem ef_sbApp (m : MethodId) (x0 : Addr) (x1 : Addr) : entryFrame m #[(.ref x0), (.ref x1)] 2 = mkF m 0 #[vR x0, vR x1] [] := by first | (simp [entryFrame, mkF, argsToLocals, Value.category]; done) | rfl
def QsbApp (Z : State) (b : Addr) (a : Addr) (t : Addr) (kt : ClassId) (ds : List Int32) (cz : Int32) (sf : Value) (vb : Addr) (kv : ClassId) (cs : List Int32) (cp : Nat) (h0 : Heap) (n0 : Nat) (v : Option Value) (h : Heap) (L : List Loc) : Prop := ∃ (vb2 : Addr), ∃ (kv2 : ClassId), v = some (.ref b) ∧ Fr n0 L ∧ Keep h0 h [b, vb] ∧ (vb2 = vb ∨ h0.size ≤ vb2) ∧ Exa Z h b "java/lang/StringBuilder" ∧ Fld Z h b "java/lang/AbstractStringBuilder" "value" "[B" (.ref vb2) ∧ Fld Z h b "java/lang/AbstractStringBuilder" "coder" "B" (.int (own_i (own_cd (cs ++ ds)))) ∧ Fld Z h b "java/lang/AbstractStringBuilder" "count" "I" (.int (own_i (cs ++ ds).length)) ∧ Fld Z h b "java/lang/AbstractStringBuilder" "maybeLatin1" "Z" (.int 0) ∧ Arv Z h vb2 kv2 .byte (own_i (own_wd (own_cd (cs ++ ds)) (own_ec cp (cs.length + ds.length)))) ((own_enc (own_cd (cs ++ ds)) (cs ++ ds)).map Value.int) (.int 0)
theorem pn_java_lang_StringBuilder : plainName "java/lang/StringBuilder" = true := by first | (simp [plainName, overriddenIn]; done) | decide +kernel
set_option maxRecDepth 65536 in
set_option maxHeartbeats 40000000 in
theorem rmsbApp (l : Launch) (Z : State) (a0 : Array Value) (hw : ∀ d ∈ tables_1, d.before a0 Z = true) (ws : List Jvm.Cond) (b : Addr) (a : Addr) (t : Addr) (kt : ClassId) (ds : List Int32) (cz : Int32) (sf : Value) (vb : Addr) (kv : ClassId) (cs : List Int32) (cp : Nat) (h0 : Heap) (n0 : Nat) (O0 : Old Z n0 h0) (hp0 : Exa Z h0 b "java/lang/StringBuilder") (hp1 : Fld Z h0 b "java/lang/AbstractStringBuilder" "value" "[B" (.ref vb)) (hp2 : Fld Z h0 b "java/lang/AbstractStringBuilder" "coder" "B" (.int (own_i (own_cd cs)))) (hp3 : Fld Z h0 b "java/lang/AbstractStringBuilder" "count" "I" (.int (own_i cs.length))) (hp4 : Fld Z h0 b "java/lang/AbstractStringBuilder" "maybeLatin1" "Z" (.int 0)) (hp5 : Arv Z h0 vb kv .byte (own_i (own_wd (own_cd cs) cp)) ((own_enc (own_cd cs) cs).map Value.int) (.int 0)) (hp6 : n0 ≤ b) (hp7 : n0 ≤ vb) (hp8 : Exa Z h0 a "java/lang/String") (hp9 : Fld Z h0 a "java/lang/String" "value" "[B" (.ref t)) (hp10 : Fld Z h0 a "java/lang/String" "coder" "B" (.int (own_i (own_cd ds)))) (hp11 : Arv Z h0 t kt .byte (own_i (own_wd (own_cd ds) ds.length)) ((own_enc (own_cd ds) ds).map Value.int) (.int 0)) (htv : (t ≠ vb)) (hmm : (cs.length + ds.length ≤ 80)) (hcp : (cp ≤ 80)) (hec : (own_ec cp (cs.length + ds.length) ≤ 80)) (hlc : (cs.length ≤ cp)) (hch : (own_Ch cs)) (hcd : (own_Ch ds)) (hp19 : Sta Z Z.heap "java/lang/StringUTF16" "$assertionsDisabled" "Z" (.int 1)) (hp20 : Sta Z Z.heap "java/lang/StringUTF16" "HI_BYTE_SHIFT" "I" (.int 0)) (hp21 : Sta Z Z.heap "java/lang/StringUTF16" "LO_BYTE_SHIFT" "I" (.int 8)) (hp22 : Sta Z Z.heap "jdk/internal/util/Preconditions" "SIOOBE_FORMATTER" "Ljava/util/function/BiFunction;" sf) (hsf : (sf.isRef = true)) (hp24 : Sta Z Z.heap "java/lang/String" "COMPACT_STRINGS" "Z" (.int cz)) (hcz : (¬ (cz = (0 : Int32)))) :
    MetFree l mN32 (head1 (Jvm.Cond.code mN32 jdk_67_method_7_code 2 (some (.object "java/lang/StringBuilder")) :: ws) ({ frames := 9, cells := 2, slots := 488, locals := 130 } : Room)) (fun as_ U => as_ = #[(.ref b), (.ref a)] ∧ Z.Warmed39 U.vm ∧ U.heap = h0) (fun _ _ _ _ _ => True) (fun _ U o U' => ∃ v L, o = .returned v ∧ QsbApp Z b a t kt ds cz sf vb kv cs cp h0 n0 v U'.heap L ∧ FrameEnd U o U' L ({ frames := 9, cells := 2, slots := 488, locals := 130 } : Room).cells ({ frames := 9, cells := 2, slots := 488, locals := 130 } : Room).slots) := by
  refine MetFree.of_bodySF (plainFor_of_name pn_java_lang_StringBuilder) hisR ?_
  intro p e s m args below meth c s₁ Bd hml0 hP hK
  obtain ⟨rfl, hZ, hh⟩ := hP
  have hx := Bd.exec
  have hby := Bd.bytes
  have hml : c.maxLocals = 2 := hml0
  have hown : s.vm.findClass "java/lang/StringBuilder" = some m.cls := findClass_of_methodNamed Bd.named
  have hnm := (name_of_methodNamed Bd.named Bd.method).1
  have X0 : Stand p l e ({ frames := 9, cells := 2, slots := 488, locals := 130 } : Room) s m #[(.ref b), (.ref a)] below meth c s₁ [] 0 0 := Stand.of_body Bd
  have e0 : s₁.heap = h0 := by rw [← hh, Bd.state]; rfl
  have N0 := Fr.nil n0
  have Z0 := own_z0 O0
  have pre0 : ∀ tg_, Steps p.tables e below (s₁.setTop (mkF m 0 #[vR b, vR a] [])) tg_ → Steps p.tables e below (s₁.setTop (entryFrame m #[(.ref b), (.ref a)] 2)) tg_ := fun tg_ kt_ => castTop (ef_sbApp m b a) kt_
  obtain ⟨_, _, ⟨T1, L1, k1, n1⟩, -, X1, ⟨Lc1, hQ1, l1, y1, z1⟩, st1⟩ := superBack X0 hx hZ (y := mN31) hown (hw _ w_52) (own_sameM (y := mN31) (hw _ w_55) (hw _ w_73) rfl (by decide)) (hw _ w_53) (hw _ w_54) (by decide) (backOf (W := 0) (rmasbApp l Z a0 hw [] b a t kt ds cz sf vb kv cs cp h0 n0 O0 hp0 hp1 hp2 hp3 hp4 hp5 hp6 hp7 hp8 hp9 hp10 hp11 htv hmm hcp hec hlc hch hcd hp19 hp20 hp21 hp22 hsf hp24 hcz) hZ (hw _ w_56) (hw _ w_38) (by decide) (by decide)) e0 (Ins.self hp0) (g := (mkF m 2 #[vR b, vR a] [(.ref a), (.ref b)])) rfl (by rw [hml]; rfl) (hw _ w_56) (argsL := [(.ref a)]) (rest := []) (lenOf pd__Ljava_lang_String__Ljava_lang_AbstractStringBuilder_ rfl) rfl (by show 2 * 0 + _ ≤ _; exact Nat.le_of_eq rfl) (hb hby d7_2) (fun _ _ => ⟨rfl, e0, (by decide : 0 + 2 ≤ _), (by decide : 0 + 488 ≤ _)⟩)
  dsimp only [Pt.U, Pt.locs, Pt.cells, Pt.slots] at X1 l1 y1 z1 st1 hQ1
  subst l1 y1 z1
  obtain ⟨vb2_1, kv2_1, rfl, N1q, Kc1, r1_1, r1_2, r1_3, r1_4, r1_5, r1_6, r1_7⟩ := hQ1
  have N1 := Fr.app N0 N1q
  have yz2 : vb2_1 = vb ∨ h0.size ≤ vb2_1 := own_yy r1_1 (Or.inl rfl) (Keep.refl h0 [b, vb]).1
  have gn2 : n0 ≤ vb2_1 := own_zy yz2 hp7 Z0
  have O1 : Old Z n0 T1.heap := O0.keep Kc1 (allS hp6 (allS hp7 all0))
  have K1 : Keep h0 T1.heap [b, vb] := (Keep.refl h0 [b, vb]).trans Kc1 (allS (Or.inl (List.mem_of_getElem? (i := 0) rfl)) (allS (Or.inl (List.mem_of_getElem? (i := 1) rfl)) all0))
  obtain ⟨fs, hr, hrun, hended, hW, hsame⟩ := X1.leave (v := some (.ref b)) (fun h => by rw [Bd.returns] at h; cases h)
  refine ⟨_, _, pre0 _ ?_, hrun, hended, _, _, rfl, ?_, ⟨_, rfl⟩, hW, hsame.mono (by decide) (by decide)⟩
  · refine XS.aloadN X0.here hx rfl (hb hby d7_0) rfl rfl ?_
    refine XS.aloadN X0.here hx rfl (hb hby d7_1) rfl rfl ?_
    refine st1.trans ?_
    refine XS.pop X1.here hx rfl (hb hby d7_5) rfl rfl ?_
    refine XS.aloadN X1.here hx rfl (hb hby d7_6) rfl rfl ?_
    jvm_step X1.here [X1.here.top, hx, (hb hby d7_7), X1.method', Bd.returns, Value.isRef, FieldType.isReference]
    first | (intro acts; rw [hr _ acts rfl rfl rfl]) | rw [hr _ _ rfl rfl rfl]
    exact Steps.refl _
  · show QsbApp Z b a t kt ds cz sf vb kv cs cp h0 n0 _ T1.heap _
    exact ⟨vb2_1, kv2_1, rfl, N1, K1, yz2, r1_2, r1_3, r1_4, r1_5, r1_6, r1_7⟩
abbrev c6_ := jdk_68_method_2_code
theorem d6_0 : decode c6_ 0 = .ok (.aload_n 0, 1) := by decide +kernel
theorem w_40 : (Cond.methodLink "java/lang/AbstractStringBuilder" (3 : Nat) mN11) ∈ tables_1 := List.mem_of_getElem? (i := 40) (by decide +kernel)
theorem d6_1 : decode c6_ 1 = .ok (.invokespecial 3, 3) := by decide +kernel
theorem d6_4 : decode c6_ 4 = .ok (.getstatic 18, 3) := by decide +kernel
theorem d6_7 : decode c6_ 7 = .ok (.ifCond .eq 18, 3) := by decide +kernel
theorem d6_10 : decode c6_ 10 = .ok (.aload_n 0, 1) := by decide +kernel
theorem d6_11 : decode c6_ 11 = .ok (.iload_n 1, 1) := by decide +kernel
theorem d6_12 : decode c6_ 12 = .ok (.newarray .byte, 2) := by decide +kernel
theorem d6_14 : decode c6_ 14 = .ok (.putfield 15, 3) := by decide +kernel
theorem d6_17 : decode c6_ 17 = .ok (.aload_n 0, 1) := by decide +kernel
theorem d6_18 : decode c6_ 18 = .ok (.iconst 0, 1) := by decide +kernel
theorem d6_19 : decode c6_ 19 = .ok (.putfield 22, 3) := by decide +kernel
theorem d6_22 : decode c6_ 22 = .ok (.goto 16, 3) := by decide +kernel
theorem d6_38 : decode c6_ 38 = .ok (.return_, 1) := by decide +kernel
abbrev mN33 : MethodName := ⟨"java/lang/AbstractStringBuilder", "<init>", "(I)V"⟩
theorem ef_asbInit (m : MethodId) (x0 : Addr) (x1 : Int32) : entryFrame m #[(.ref x0), (.int x1)] 2 = mkF m 0 #[vR x0, vI x1] [] := by first | (simp [entryFrame, mkF, argsToLocals, Value.category]; done) | rfl
def QasbInit (Z : State) (a : Addr) (c0 : Nat) (u0 : Value) (u1 : Value) (cz : Int32) (h0 : Heap) (n0 : Nat) (v : Option Value) (h : Heap) (L : List Loc) : Prop := ∃ (t : Addr), ∃ (kt : ClassId), v = none ∧ Fr n0 L ∧ Keep h0 h [a] ∧ h0.size ≤ t ∧ Exa Z h a "java/lang/StringBuilder" ∧ Fld Z h a "java/lang/AbstractStringBuilder" "value" "[B" (.ref t) ∧ Fld Z h a "java/lang/AbstractStringBuilder" "coder" "B" (.int (own_i (own_cd ([] : List Int32)))) ∧ Fld Z h a "java/lang/AbstractStringBuilder" "count" "I" (.int (own_i ([] : List Int32).length)) ∧ Fld Z h a "java/lang/AbstractStringBuilder" "maybeLatin1" "Z" (.int 0) ∧ Arv Z h t kt .byte (own_i (own_wd (own_cd ([] : List Int32)) c0)) ((own_enc (own_cd ([] : List Int32)) ([] : List Int32)).map Value.int) (.int 0)
set_option maxRecDepth 65536 in
set_option maxHeartbeats 40000000 in
theorem rmasbInit (l : Launch) (Z : State) (a0 : Array Value) (hw : ∀ d ∈ tables_1, d.before a0 Z = true) (ws : List Jvm.Cond) (a : Addr) (c0 : Nat) (u0 : Value) (u1 : Value) (cz : Int32) (h0 : Heap) (n0 : Nat) (O0 : Old Z n0 h0) (hp0 : Exa Z h0 a "java/lang/StringBuilder") (hp1 : n0 ≤ a) (hp2 : Fld Z h0 a "java/lang/AbstractStringBuilder" "value" "[B" u0) (hp3 : Fld Z h0 a "java/lang/AbstractStringBuilder" "coder" "B" u1) (hp4 : Fld Z h0 a "java/lang/AbstractStringBuilder" "count" "I" (.int 0)) (hp5 : Fld Z h0 a "java/lang/AbstractStringBuilder" "maybeLatin1" "Z" (.int 0)) (hp6 : Sta Z Z.heap "java/lang/String" "COMPACT_STRINGS" "Z" (.int cz)) (hcz : (¬ (cz = (0 : Int32)))) (hc0 : (c0 ≤ 16)) :
    MetFree l mN33 (head1 (Jvm.Cond.code mN33 jdk_68_method_2_code 2 none :: ws) ({ frames := 1, cells := 1, slots := 16, locals := 12 } : Room)) (fun as_ U => as_ = #[(.ref a), (.int (own_i c0))] ∧ Z.Warmed39 U.vm ∧ U.heap = h0) (fun _ _ _ _ _ => True) (fun _ U o U' => ∃ v L, o = .returned v ∧ QasbInit Z a c0 u0 u1 cz h0 n0 v U'.heap L ∧ FrameEnd U o U' L ({ frames := 1, cells := 1, slots := 16, locals := 12 } : Room).cells ({ frames := 1, cells := 1, slots := 16, locals := 12 } : Room).slots) := by
  refine MetFree.of_bodySF (plainFor_of_name pn_java_lang_AbstractStringBuilder) hisR ?_
  intro p e s m args below meth c s₁ Bd hml0 hP hK
  obtain ⟨rfl, hZ, hh⟩ := hP
  have hx := Bd.exec
  have hby := Bd.bytes
  have hml : c.maxLocals = 2 := hml0
  have hown : s.vm.findClass "java/lang/AbstractStringBuilder" = some m.cls := findClass_of_methodNamed Bd.named
  have hnm := (name_of_methodNamed Bd.named Bd.method).1
  have X0 : Stand p l e ({ frames := 1, cells := 1, slots := 16, locals := 12 } : Room) s m #[(.ref a), (.int (own_i c0))] below meth c s₁ [] 0 0 := Stand.of_body Bd
  have e0 : s₁.heap = h0 := by rw [← hh, Bd.state]; rfl
  have N0 := Fr.nil n0
  have Z0 := own_z0 O0
  have pre0 : ∀ tg_, Steps p.tables e below (s₁.setTop (mkF m 0 #[vR a, vI (own_i c0)] [])) tg_ → Steps p.tables e below (s₁.setTop (entryFrame m #[(.ref a), (.int (own_i c0))] 2)) tg_ := fun tg_ kt_ => castTop (ef_asbInit m a (own_i c0)) kt_
  obtain ⟨T1, X1, e1, st1⟩ := initO X0 hx hZ hown (hw _ w_40) (hw _ w_12) (hw _ w_13) e0 (g := (mkF m 1 #[vR a, vI (own_i c0)] [(.ref a)])) rfl (by rw [hml]; rfl) rfl (hb hby d6_1) (by decide) (W := 0) (by show 2 * 0 + _ ≤ _; exact Nat.le_of_eq rfl) (by decide)
  obtain ⟨T2, X2, e2, st2⟩ := getS2 X1 hx hZ hown (host := "") (Or.inl (hw _ w_41)) Via.refl e1 (hp6.ext O0.2) (g := (mkF m 4 #[vR a, vI (own_i c0)] [])) rfl (hb hby d6_4)
  obtain ⟨T3, h3, k3, X3, e3, E3, A3, st3⟩ := newP X2 hx hZ (hw (Jvm.Cond.arrayClass (newarray.typeOf .byte)) w_15) e2 (g := (mkF m 12 #[vR a, vI (own_i c0)] [(.int (own_i c0)), (.ref a)])) rfl (hb hby d6_12) rfl (own_inn (by omega)) (cap := 16) (by rw [own_inat (by omega)]; omega) (by decide) (by decide) (by decide)
  obtain ⟨b3, g3⟩ : ∃ z, z = h0.size := ⟨_, rfl⟩
  rw [← g3] at A3 st3
  have sz3 : h0.size ≤ b3 := Nat.le_trans (Keep.refl h0 [a]).1 (Nat.le_of_eq g3.symm)
  have gn3 : n0 ≤ b3 := Nat.le_trans Z0 sz3
  have O3 : Old Z n0 h3 := O0.ext E3
  have K3 : Keep h0 h3 [a] := (Keep.refl h0 [a]).ext E3
  have V3 : Arv Z h3 b3 k3 .byte (own_i c0) [] (.int 0) := Arv.new A3 (own_inn (by omega))
  obtain ⟨T5, h5, X5, e5, W5, st5⟩ := putF X3 hx hZ hown (host := "") (Or.inl (hw _ w_42)) Via.refl e3 (hp2.ext E3) (hp0.ext E3) (Or.inl (hw _ w_43)) (hw _ w_29) (ty := (.array .byte)) (by decide) rfl rfl (g := (mkF m 14 #[vR a, vI (own_i c0)] [(.ref b3), (.ref a)])) rfl rfl (hb hby d6_14)
  have Fw5 := (hp2.ext E3).same W5
  have N5 := Fr.snoc X5 N0 hp1
  have O5 : Old Z n0 h5 := O3.wr W5 hp1
  have K5 : Keep h0 h5 [a] := K3.wr W5 (Or.inl (List.mem_of_getElem? (i := 0) rfl))
  obtain ⟨T6, h6, X6, e6, W6, st6⟩ := putFN X5 hx hZ hown (hw _ w_44) Via.refl e5 ((hp3.ext E3).other W5 (Or.inr (slot_ne (Or.inl (hw _ w_45)) (Or.inl (hw _ w_43)) (by decide) (t := .byte) (t' := (.array .byte)) (by decide) (by decide)))) ((hp0.ext E3).wr W5) (Or.inl (hw _ w_45)) (hw _ w_29) (ty := .byte) (v' := (.int 0)) (by decide) rfl rfl (g := (mkF m 19 #[vR a, vI (own_i c0)] [(.int 0), (.ref a)])) rfl rfl (hb hby d6_19)
  have Fw6 := ((hp3.ext E3).other W5 (Or.inr (slot_ne (Or.inl (hw _ w_45)) (Or.inl (hw _ w_43)) (by decide) (t := .byte) (t' := (.array .byte)) (by decide) (by decide)))).same W6
  have N6 := Fr.snoc X6 N5 hp1
  have O6 : Old Z n0 h6 := O5.wr W6 hp1
  have K6 : Keep h0 h6 [a] := K5.wr W6 (Or.inl (List.mem_of_getElem? (i := 0) rfl))
  obtain ⟨fs, hr, hrun, hended, hW, hsame⟩ := X6.leave (v := none) (fun _ => rfl)
  refine ⟨_, _, pre0 _ ?_, hrun, hended, _, _, rfl, ?_, ⟨_, rfl⟩, hW, hsame.mono (by decide) (by decide)⟩
  · refine XS.aloadN X0.here hx rfl (hb hby d6_0) rfl rfl ?_
    refine st1 _ ?_
    refine st2 _ ?_
    refine XS.ifNo X2.here hx rfl (hb hby d6_7) rfl ((if0 _ _).trans (feq hcz).1) ?_
    refine XS.aloadN X2.here hx rfl (hb hby d6_10) rfl rfl ?_
    refine XS.iloadN X2.here hx rfl (hb hby d6_11) rfl ?_
    refine st3 _ ?_
    refine st5 _ ?_
    refine XS.aloadN X5.here hx rfl (hb hby d6_17) rfl rfl ?_
    refine XS.iconst X5.here hx rfl (hb hby d6_18) ?_
    refine st6 _ ?_
    refine XS.goto X6.here hx rfl (pc0 := 22) (pc' := 38) rfl (hb hby d6_22) (by decide) (by decide) ?_
    show Steps _ _ _ (T6.setTop (mkF m 38 #[vR a, vI (own_i c0)] [])) _
    exact X6.returnOut hx Bd.returns (hb hby d6_38) hr
  · show QasbInit Z a c0 u0 u1 cz h0 n0 _ T6.heap _
    rw [e6]
    exact ⟨b3, k3, rfl, N6, K6, sz3, (((hp0.ext E3).wr W5).wr W6), (Fw5.other W6 (Or.inr (slot_ne (Or.inl (hw _ w_43)) (Or.inl (hw _ w_45)) (by decide) (t := (.array .byte)) (t' := .byte) (by decide) (by decide)))), Fw6, (((hp4.ext E3).other W5 (Or.inr (slot_ne (Or.inl (hw _ w_69)) (Or.inl (hw _ w_43)) (by decide) (t := .int) (t' := (.array .byte)) (by decide) (by decide)))).other W6 (Or.inr (slot_ne (Or.inl (hw _ w_69)) (Or.inl (hw _ w_45)) (by decide) (t := .int) (t' := .byte) (by decide) (by decide)))), (((hp5.ext E3).other W5 (Or.inr (slot_ne (Or.inl (hw _ w_294)) (Or.inl (hw _ w_43)) (by decide) (t := .boolean) (t' := (.array .byte)) (by decide) (by decide)))).other W6 (Or.inr (slot_ne (Or.inl (hw _ w_294)) (Or.inl (hw _ w_45)) (by decide) (t := .boolean) (t' := .byte) (by decide) (by decide)))), ((V3.other W5 (Ne.symm (Nat.ne_of_lt (Nat.lt_of_lt_of_le hp0.lt (Nat.le_of_eq g3.symm))))).other W6 (Ne.symm (Nat.ne_of_lt (Nat.lt_of_lt_of_le hp0.lt (Nat.le_of_eq g3.symm)))))⟩
abbrev c5_ := jdk_67_method_1_code
theorem d5_0 : decode c5_ 0 = .ok (.aload_n 0, 1) := by decide +kernel
theorem d5_1 : decode c5_ 1 = .ok (.bipush 16, 2) := by decide +kernel
theorem w_34 : (Cond.methodLink "java/lang/StringBuilder" (1 : Nat) mN33) ∈ tables_1 := List.mem_of_getElem? (i := 34) (by decide +kernel)
theorem w_39 : (Cond.code mN33 jdk_68_method_2_code (2 : Nat) (Option.none : Option Jvm.ClassFile.FieldType)) ∈ tables_1 := List.mem_of_getElem? (i := 39) (by decide +kernel)
theorem d5_3 : decode c5_ 3 = .ok (.invokespecial 1, 3) := by decide +kernel
theorem w_35 : (Cond.instanceMethod mN33) ∈ tables_1 := List.mem_of_getElem? (i := 35) (by decide +kernel)
theorem d5_6 : decode c5_ 6 = .ok (.return_, 1) := by decide +kernel
abbrev mN34 : MethodName := ⟨"java/lang/StringBuilder", "<init>", "()V"⟩
theorem ef_sbInit (m : MethodId) (x0 : Addr) : entryFrame m #[(.ref x0)] 1 = mkF m 0 #[vR x0] [] := by first | (simp [entryFrame, mkF, argsToLocals, Value.category]; done) | rfl
def QsbInit (Z : State) (a : Addr) (u0 : Value) (u1 : Value) (cz : Int32) (h0 : Heap) (n0 : Nat) (v : Option Value) (h : Heap) (L : List Loc) : Prop := ∃ (t : Addr), ∃ (kt : ClassId), v = none ∧ Fr n0 L ∧ Keep h0 h [a] ∧ h0.size ≤ t ∧ Exa Z h a "java/lang/StringBuilder" ∧ Fld Z h a "java/lang/AbstractStringBuilder" "value" "[B" (.ref t) ∧ Fld Z h a "java/lang/AbstractStringBuilder" "coder" "B" (.int (own_i (own_cd ([] : List Int32)))) ∧ Fld Z h a "java/lang/AbstractStringBuilder" "count" "I" (.int (own_i ([] : List Int32).length)) ∧ Fld Z h a "java/lang/AbstractStringBuilder" "maybeLatin1" "Z" (.int 0) ∧ Arv Z h t kt .byte (own_i (own_wd (own_cd ([] : List Int32)) 16)) ((own_enc (own_cd ([] : List Int32)) ([] : List Int32)).map Value.int) (.int 0)
set_option maxRecDepth 65536 in
set_option maxHeartbeats 40000000 in
theorem rmsbInit (l : Launch) (Z : State) (a0 : Array Value) (hw : ∀ d ∈ tables_1, d.before a0 Z = true) (ws : List Jvm.Cond) (a : Addr) (u0 : Value) (u1 : Value) (cz : Int32) (h0 : Heap) (n0 : Nat) (O0 : Old Z n0 h0) (hp0 : Exa Z h0 a "java/lang/StringBuilder") (hp1 : n0 ≤ a) (hp2 : Fld Z h0 a "java/lang/AbstractStringBuilder" "value" "[B" u0) (hp3 : Fld Z h0 a "java/lang/AbstractStringBuilder" "coder" "B" u1) (hp4 : Fld Z h0 a "java/lang/AbstractStringBuilder" "count" "I" (.int 0)) (hp5 : Fld Z h0 a "java/lang/AbstractStringBuilder" "maybeLatin1" "Z" (.int 0)) (hp6 : Sta Z Z.heap "java/lang/String" "COMPACT_STRINGS" "Z" (.int cz)) (hcz : (¬ (cz = (0 : Int32)))) :
    MetFree l mN34 (head1 (Jvm.Cond.code mN34 jdk_67_method_1_code 1 none :: ws) ({ frames := 2, cells := 1, slots := 16, locals := 25 } : Room)) (fun as_ U => as_ = #[(.ref a)] ∧ Z.Warmed39 U.vm ∧ U.heap = h0) (fun _ _ _ _ _ => True) (fun _ U o U' => ∃ v L, o = .returned v ∧ QsbInit Z a u0 u1 cz h0 n0 v U'.heap L ∧ FrameEnd U o U' L ({ frames := 2, cells := 1, slots := 16, locals := 25 } : Room).cells ({ frames := 2, cells := 1, slots := 16, locals := 25 } : Room).slots) := by
  refine MetFree.of_bodySF (plainFor_of_name pn_java_lang_StringBuilder) hisR ?_
  intro p e s m args below meth c s₁ Bd hml0 hP hK
  obtain ⟨rfl, hZ, hh⟩ := hP
  have hx := Bd.exec
  have hby := Bd.bytes
  have hml : c.maxLocals = 1 := hml0
  have hown : s.vm.findClass "java/lang/StringBuilder" = some m.cls := findClass_of_methodNamed Bd.named
  have hnm := (name_of_methodNamed Bd.named Bd.method).1
  have X0 : Stand p l e ({ frames := 2, cells := 1, slots := 16, locals := 25 } : Room) s m #[(.ref a)] below meth c s₁ [] 0 0 := Stand.of_body Bd
  have e0 : s₁.heap = h0 := by rw [← hh, Bd.state]; rfl
  have N0 := Fr.nil n0
  have Z0 := own_z0 O0
  have pre0 : ∀ tg_, Steps p.tables e below (s₁.setTop (mkF m 0 #[vR a] [])) tg_ → Steps p.tables e below (s₁.setTop (entryFrame m #[(.ref a)] 1)) tg_ := fun tg_ kt_ => castTop (ef_sbInit m a) kt_
  obtain ⟨_, _, ⟨T1, L1, k1, n1⟩, -, X1, ⟨Lc1, hQ1, l1, y1, z1⟩, st1⟩ := X0.specialBack hx (y := mN33) rfl hown (mvT hZ (hw _ w_34)) (mvT hZ (hw _ w_35)) (mvT hZ (hw _ w_39)) (by decide) (backOf (W := 0) (rmasbInit l Z a0 hw [] a 16 u0 u1 cz h0 n0 O0 hp0 hp1 hp2 hp3 hp4 hp5 hp6 hcz (by decide)) hZ (hw _ w_39) (hw _ w_38) (by decide) (by decide)) (g := (mkF m 3 #[vR a] [(.int 16), (.ref a)])) rfl (by rw [hml]; rfl) (Steps.refl _) (a := a) (argsL := [(.int 16)]) (rest := []) (lenOf pd__I_V rfl) rfl (by show 2 * 0 + _ ≤ _; exact Nat.le_of_eq rfl) (hb hby d5_3) (fun _ _ => ⟨rfl, e0, (by decide : 0 + 1 ≤ _), (by decide : 0 + 16 ≤ _)⟩)
  dsimp only [Pt.U, Pt.locs, Pt.cells, Pt.slots] at X1 l1 y1 z1 st1 hQ1
  subst l1 y1 z1
  obtain ⟨t_1, kt_1, rfl, N1q, Kc1, r1_1, r1_2, r1_3, r1_4, r1_5, r1_6, r1_7⟩ := hQ1
  have N1 := Fr.app N0 N1q
  have sz2 : h0.size ≤ t_1 := Nat.le_trans (Keep.refl h0 [a]).1 r1_1
  have gn2 : n0 ≤ t_1 := Nat.le_trans Z0 sz2
  have O1 : Old Z n0 T1.heap := O0.keep Kc1 (allS hp1 all0)
  have K1 : Keep h0 T1.heap [a] := (Keep.refl h0 [a]).trans Kc1 (allS (Or.inl (List.mem_of_getElem? (i := 0) rfl)) all0)
  obtain ⟨fs, hr, hrun, hended, hW, hsame⟩ := X1.leave (v := none) (fun _ => rfl)
  refine ⟨_, _, pre0 _ ?_, hrun, hended, _, _, rfl, ?_, ⟨_, rfl⟩, hW, hsame.mono (by decide) (by decide)⟩
  · refine XS.aloadN X0.here hx rfl (hb hby d5_0) rfl rfl ?_
    refine XS.bipush X0.here hx rfl (hb hby d5_1) ?_
    refine st1.trans ?_
    exact X1.returnOut hx Bd.returns (hb hby d5_6) hr
  · show QsbInit Z a u0 u1 cz h0 n0 _ T1.heap _
    exact ⟨t_1, kt_1, rfl, N1, K1, sz2, r1_2, r1_3, r1_4, r1_5, r1_6, r1_7⟩
abbrev c29_ := jdk_65_method_131_code
theorem d29_0 : decode c29_ 0 = .ok (.iload_n 1, 1) := by decide +kernel
theorem d29_1 : decode c29_ 1 = .ok (.iload_n 0, 1) := by decide +kernel
theorem d29_2 : decode c29_ 2 = .ok (.if_icmp .ge 35, 3) := by decide +kernel
theorem d29_37 : decode c29_ 37 = .ok (.return_, 1) := by decide +kernel
abbrev mN35 : MethodName := ⟨"java/util/Arrays", "checkLength", "(II)V"⟩
theorem ef_chkLen (m : MethodId) (x0 : Int32) (x1 : Int32) : entryFrame m #[(.int x0), (.int x1)] 2 = mkF m 0 #[vI x0, vI x1] [] := by first | (simp [entryFrame, mkF, argsToLocals, Value.category]; done) | rfl
def QchkLen (Z : State) (xx : Int32) (yy : Int32) (h0 : Heap) (n0 : Nat) (v : Option Value) (h : Heap) (L : List Loc) : Prop := v = none ∧ Fr n0 L ∧ h = h0
set_option maxRecDepth 65536 in
set_option maxHeartbeats 40000000 in
theorem rmchkLen (l : Launch) (Z : State) (a0 : Array Value) (hw : ∀ d ∈ tables_1, d.before a0 Z = true) (ws : List Jvm.Cond) (xx : Int32) (yy : Int32) (h0 : Heap) (n0 : Nat) (O0 : Old Z n0 h0) (hm : (¬ (yy < xx))) :
    MetFree l mN35 (head1 (Jvm.Cond.code mN35 jdk_65_method_131_code 2 none :: ws) ({ frames := 0, cells := 0, slots := 0, locals := 0 } : Room)) (fun as_ U => as_ = #[(.int xx), (.int yy)] ∧ Z.Warmed39 U.vm ∧ U.heap = h0) (fun _ _ _ _ _ => True) (fun _ U o U' => ∃ v L, o = .returned v ∧ QchkLen Z xx yy h0 n0 v U'.heap L ∧ FrameEnd U o U' L ({ frames := 0, cells := 0, slots := 0, locals := 0 } : Room).cells ({ frames := 0, cells := 0, slots := 0, locals := 0 } : Room).slots) := by
  refine MetFree.of_bodySF (plainFor_of_name pn_java_util_Arrays) hisR ?_
  intro p e s m args below meth c s₁ Bd hml0 hP hK
  obtain ⟨rfl, hZ, hh⟩ := hP
  have hx := Bd.exec
  have hby := Bd.bytes
  have hml : c.maxLocals = 2 := hml0
  have hown : s.vm.findClass "java/util/Arrays" = some m.cls := findClass_of_methodNamed Bd.named
  have hnm := (name_of_methodNamed Bd.named Bd.method).1
  have X0 : Stand p l e ({ frames := 0, cells := 0, slots := 0, locals := 0 } : Room) s m #[(.int xx), (.int yy)] below meth c s₁ [] 0 0 := Stand.of_body Bd
  have e0 : s₁.heap = h0 := by rw [← hh, Bd.state]; rfl
  have N0 := Fr.nil n0
  have Z0 := own_z0 O0
  have pre0 : ∀ tg_, Steps p.tables e below (s₁.setTop (mkF m 0 #[vI xx, vI yy] [])) tg_ → Steps p.tables e below (s₁.setTop (entryFrame m #[(.int xx), (.int yy)] 2)) tg_ := fun tg_ kt_ => castTop (ef_chkLen m xx yy) kt_
  obtain ⟨fs, hr, hrun, hended, hW, hsame⟩ := X0.leave (v := none) (fun _ => rfl)
  refine ⟨_, _, pre0 _ ?_, hrun, hended, _, _, rfl, ?_, ⟨_, rfl⟩, hW, hsame.mono (by decide) (by decide)⟩
  · refine XS.iloadN X0.here hx rfl (hb hby d29_0) rfl ?_
    refine XS.iloadN X0.here hx rfl (hb hby d29_1) rfl ?_
    refine XS.icmpYes X0.here hx rfl (pc0 := 2) (pc' := 37) rfl (hb hby d29_2) rfl (flt hm).2.1 (by decide) (by decide) ?_
    exact X0.returnOut hx Bd.returns (hb hby d29_37) hr
  · show QchkLen Z xx yy h0 n0 _ s₁.heap _
    rw [e0]
    exact ⟨rfl, N0, rfl⟩
theorem ef_minR (m : MethodId) (x0 : Int32) (x1 : Int32) : entryFrame m #[(.int x0), (.int x1)] 2 = mkF m 0 #[vI x0, vI x1] [] := by first | (simp [entryFrame, mkF, argsToLocals, Value.category]; done) | rfl
def QminR (Z : State) (xx : Int32) (yy : Int32) (h0 : Heap) (n0 : Nat) (v : Option Value) (h : Heap) (L : List Loc) : Prop := v = some (.int yy) ∧ Fr n0 L ∧ h = h0
set_option maxRecDepth 65536 in
set_option maxHeartbeats 40000000 in
theorem rmminR (l : Launch) (Z : State) (a0 : Array Value) (hw : ∀ d ∈ tables_1, d.before a0 Z = true) (ws : List Jvm.Cond) (xx : Int32) (yy : Int32) (h0 : Heap) (n0 : Nat) (O0 : Old Z n0 h0) (hm : (¬ (xx < yy))) :
    MetFree l mN0 (head1 (Jvm.Cond.code mN0 jdk_29_method_69_code 2 (some .int) :: ws) ({ frames := 0, cells := 0, slots := 0, locals := 0 } : Room)) (fun as_ U => as_ = #[(.int xx), (.int yy)] ∧ Z.Warmed39 U.vm ∧ U.heap = h0) (fun _ _ _ _ _ => True) (fun _ U o U' => ∃ v L, o = .returned v ∧ QminR Z xx yy h0 n0 v U'.heap L ∧ FrameEnd U o U' L ({ frames := 0, cells := 0, slots := 0, locals := 0 } : Room).cells ({ frames := 0, cells := 0, slots := 0, locals := 0 } : Room).slots) := by
  refine MetFree.of_bodySF pn_b16 hisR ?_
  intro p e s m args below meth c s₁ Bd hml0 hP hK
  obtain ⟨rfl, hZ, hh⟩ := hP
  have hx := Bd.exec
  have hby := Bd.bytes
  have hml : c.maxLocals = 2 := hml0
  have hown : s.vm.findClass "java/lang/Math" = some m.cls := findClass_of_methodNamed Bd.named
  have hnm := (name_of_methodNamed Bd.named Bd.method).1
  have X0 : Stand p l e ({ frames := 0, cells := 0, slots := 0, locals := 0 } : Room) s m #[(.int xx), (.int yy)] below meth c s₁ [] 0 0 := Stand.of_body Bd
  have e0 : s₁.heap = h0 := by rw [← hh, Bd.state]; rfl
  have N0 := Fr.nil n0
  have Z0 := own_z0 O0
  have pre0 : ∀ tg_, Steps p.tables e below (s₁.setTop (mkF m 0 #[vI xx, vI yy] [])) tg_ → Steps p.tables e below (s₁.setTop (entryFrame m #[(.int xx), (.int yy)] 2)) tg_ := fun tg_ kt_ => castTop (ef_minR m xx yy) kt_
  have pre1 := fun tg_ (kt_ : Steps p.tables e below (s₁.setTop (mkF m 2 #[vI xx, vI yy] [(.int yy), (.int xx)])) tg_) => pre0 tg_ (by
    refine XS.iloadN X0.here hx rfl (hb hby d16_0) rfl ?_
    refine XS.iloadN X0.here hx rfl (hb hby d16_1) rfl ?_
    exact kt_)
  by_cases hc2 : yy < xx
  · obtain ⟨fs, hr, hrun, hended, hW, hsame⟩ := X0.leave (v := some (.int yy)) (fun h => by rw [Bd.returns] at h; cases h)
    refine ⟨_, _, pre1 _ ?_, hrun, hended, _, _, rfl, ?_, ⟨_, rfl⟩, hW, hsame.mono (by decide) (by decide)⟩
    · refine XS.icmpYes X0.here hx rfl (pc0 := 2) (pc' := 9) rfl (hb hby d16_2) rfl (tlt hc2).2.2.1 (by decide) (by decide) ?_
      refine XS.iloadN X0.here hx rfl (hb hby d16_9) rfl ?_
      exact retI X0 hx Bd.returns (hb hby d16_10) hr
    · show QminR Z xx yy h0 n0 _ s₁.heap _
      rw [e0]
      exact ⟨rfl, N0, rfl⟩
  · obtain ⟨fs, hr, hrun, hended, hW, hsame⟩ := X0.leave (v := some (.int xx)) (fun h => by rw [Bd.returns] at h; cases h)
    refine ⟨_, _, pre1 _ ?_, hrun, hended, _, _, rfl, ?_, ⟨_, rfl⟩, hW, hsame.mono (by decide) (by decide)⟩
    · refine XS.icmpNo X0.here hx rfl (hb hby d16_2) rfl (flt hc2).2.2.1 ?_
      refine XS.iloadN X0.here hx rfl (hb hby d16_5) rfl ?_
      refine XS.goto X0.here hx rfl (pc0 := 6) (pc' := 10) rfl (hb hby d16_6) (by decide) (by decide) ?_
      exact retI X0 hx Bd.returns (hb hby d16_10) hr
    · show QminR Z xx yy h0 n0 _ s₁.heap _
      rw [e0]
      exact ⟨(own_ret (congrArg Value.int (own_anti hm hc2))), N0, rfl⟩
abbrev c28_ := jdk_65_method_133_code
theorem d28_0 : decode c28_ 0 = .ok (.iload_n 1, 1) := by decide +kernel
theorem d28_1 : decode c28_ 1 = .ok (.iload_n 2, 1) := by decide +kernel
theorem w_155 : (Cond.methodLink "java/util/Arrays" (343 : Nat) mN35) ∈ tables_1 := List.mem_of_getElem? (i := 155) (by decide +kernel)
theorem w_157 : (Cond.code mN35 jdk_65_method_131_code (2 : Nat) (Option.none : Option Jvm.ClassFile.FieldType)) ∈ tables_1 := List.mem_of_getElem? (i := 157) (by decide +kernel)
theorem pd__II_V : parseMethodDescriptor "(II)V" = some ⟨[.int, .int], none⟩ := by decide +kernel
theorem d28_2 : decode c28_ 2 = .ok (.invokestatic 343, 3) := by decide +kernel
theorem w_156 : (Cond.static mN35) ∈ tables_1 := List.mem_of_getElem? (i := 156) (by decide +kernel)
theorem d28_5 : decode c28_ 5 = .ok (.iload_n 2, 1) := by decide +kernel
theorem d28_6 : decode c28_ 6 = .ok (.iload_n 1, 1) := by decide +kernel
theorem d28_7 : decode c28_ 7 = .ok (.isub, 1) := by decide +kernel
theorem d28_8 : decode c28_ 8 = .ok (.istore_n 3, 1) := by decide +kernel
theorem d28_9 : decode c28_ 9 = .ok (.iload_n 3, 1) := by decide +kernel
theorem d28_10 : decode c28_ 10 = .ok (.newarray .byte, 2) := by decide +kernel
theorem d28_12 : decode c28_ 12 = .ok (.astore 4, 2) := by decide +kernel
theorem d28_14 : decode c28_ 14 = .ok (.aload_n 0, 1) := by decide +kernel
theorem d28_15 : decode c28_ 15 = .ok (.iload_n 1, 1) := by decide +kernel
theorem d28_16 : decode c28_ 16 = .ok (.aload 4, 2) := by decide +kernel
theorem d28_18 : decode c28_ 18 = .ok (.iconst 0, 1) := by decide +kernel
theorem d28_19 : decode c28_ 19 = .ok (.aload_n 0, 1) := by decide +kernel
theorem d28_20 : decode c28_ 20 = .ok (.arraylength, 1) := by decide +kernel
theorem d28_21 : decode c28_ 21 = .ok (.iload_n 1, 1) := by decide +kernel
theorem d28_22 : decode c28_ 22 = .ok (.isub, 1) := by decide +kernel
theorem d28_23 : decode c28_ 23 = .ok (.iload_n 3, 1) := by decide +kernel
theorem d28_24 : decode c28_ 24 = .ok (.invokestatic 304, 3) := by decide +kernel
theorem d28_27 : decode c28_ 27 = .ok (.invokestatic 150, 3) := by decide +kernel
theorem d28_30 : decode c28_ 30 = .ok (.aload 4, 2) := by decide +kernel
theorem d28_32 : decode c28_ 32 = .ok (.areturn, 1) := by decide +kernel
abbrev mN36 : MethodName := ⟨"java/util/Arrays", "copyOfRangeByte", "([BII)[B"⟩
theorem ef_copyRB (m : MethodId) (x0 : Addr) (x1 : Int32) (x2 : Int32) : entryFrame m #[(.ref x0), (.int x1), (.int x2)] 5 = mkF m 0 #[vR x0, vI x1, vI x2, .unset, .unset] [] := by first | (simp [entryFrame, mkF, argsToLocals, Value.category]; done) | rfl
def QcopyRB (Z : State) (t : Addr) (kf : Nat) (kg : Nat) (kt : ClassId) (N : Nat) (xs : List Int32) (h0 : Heap) (n0 : Nat) (v : Option Value) (h : Heap) (L : List Loc) : Prop := ∃ (r : Addr), ∃ (kr : ClassId), v = some (.ref r) ∧ Fr n0 L ∧ Keep h0 h [] ∧ h0.size ≤ r ∧ Arv Z h r kr .byte (own_i (kg - kf)) (((xs.drop kf).take (kg - kf)).map Value.int) (.int 0)
set_option maxRecDepth 65536 in
set_option maxHeartbeats 40000000 in
theorem rmcopyRB (l : Launch) (Z : State) (a0 : Array Value) (hw : ∀ d ∈ tables_1, d.before a0 Z = true) (ws : List Jvm.Cond) (t : Addr) (kf : Nat) (kg : Nat) (kt : ClassId) (N : Nat) (xs : List Int32) (h0 : Heap) (n0 : Nat) (O0 : Old Z n0 h0) (hp0 : Arv Z h0 t kt .byte (own_i N) (xs.map Value.int) (.int 0)) (hfg : (kf ≤ kg)) (hgN : (kg ≤ N)) (hN : (N ≤ 160)) (hgl : (kg ≤ xs.length)) :
    MetFree l mN36 (head1 (Jvm.Cond.code mN36 jdk_65_method_133_code 5 (some (.array .byte)) :: ws) ({ frames := 1, cells := 1, slots := 160, locals := 51 } : Room)) (fun as_ U => as_ = #[(.ref t), (.int (own_i kf)), (.int (own_i kg))] ∧ Z.Warmed39 U.vm ∧ U.heap = h0) (fun _ _ _ _ _ => True) (fun _ U o U' => ∃ v L, o = .returned v ∧ QcopyRB Z t kf kg kt N xs h0 n0 v U'.heap L ∧ FrameEnd U o U' L ({ frames := 1, cells := 1, slots := 160, locals := 51 } : Room).cells ({ frames := 1, cells := 1, slots := 160, locals := 51 } : Room).slots) := by
  refine MetFree.of_bodySF (plainFor_of_name pn_java_util_Arrays) hisR ?_
  intro p e s m args below meth c s₁ Bd hml0 hP hK
  obtain ⟨rfl, hZ, hh⟩ := hP
  have hx := Bd.exec
  have hby := Bd.bytes
  have hml : c.maxLocals = 5 := hml0
  have hown : s.vm.findClass "java/util/Arrays" = some m.cls := findClass_of_methodNamed Bd.named
  have hnm := (name_of_methodNamed Bd.named Bd.method).1
  have X0 : Stand p l e ({ frames := 1, cells := 1, slots := 160, locals := 51 } : Room) s m #[(.ref t), (.int (own_i kf)), (.int (own_i kg))] below meth c s₁ [] 0 0 := Stand.of_body Bd
  have e0 : s₁.heap = h0 := by rw [← hh, Bd.state]; rfl
  have N0 := Fr.nil n0
  have Z0 := own_z0 O0
  have pre0 : ∀ tg_, Steps p.tables e below (s₁.setTop (mkF m 0 #[vR t, vI (own_i kf), vI (own_i kg), .unset, .unset] [])) tg_ → Steps p.tables e below (s₁.setTop (entryFrame m #[(.ref t), (.int (own_i kf)), (.int (own_i kg))] 5)) tg_ := fun tg_ kt_ => castTop (ef_copyRB m t (own_i kf) (own_i kg)) kt_
  obtain ⟨_, _, ⟨T1, L1, k1, n1⟩, -, X1, ⟨Lc1, hQ1, l1, y1, z1⟩, st1⟩ := Jvm.LawKit.callS X0 hx (y := mN35) hown (mvT hZ (hw _ w_155)) (mvT hZ (hw _ w_156)) (mvT hZ (hw _ w_92)) (mvT hZ (hw _ w_157)) (by decide) (backOf (W := 0) (rmchkLen l Z a0 hw [] (own_i kf) (own_i kg) h0 n0 O0 (by rw [own_ilt (by omega) (by omega)]; omega)) hZ (hw _ w_157) (hw _ w_92) (by decide) (by decide)) (g := (mkF m 2 #[vR t, vI (own_i kf), vI (own_i kg), .unset, .unset] [(.int (own_i kg)), (.int (own_i kf))])) rfl (by rw [hml]; rfl) (argsL := [(.int (own_i kf)), (.int (own_i kg))]) (rest := []) (lenOf pd__II_V rfl) rfl (by show 2 * 0 + _ ≤ _; exact Nat.le_of_eq rfl) (hb hby d28_2) (fun _ _ => ⟨rfl, e0, (by decide : 0 + 0 ≤ _), (by decide : 0 + 0 ≤ _)⟩)
  dsimp only [Pt.U, Pt.locs, Pt.cells, Pt.slots] at X1 l1 y1 z1 st1 hQ1
  subst l1 y1 z1
  obtain ⟨rfl, N1q, eh1⟩ := hQ1
  have N1 := Fr.app N0 N1q
  have pre2 := fun tg_ (kt_ : Steps p.tables e below (T1.setTop (mkF m 8 #[vR t, vI (own_i kf), vI (own_i kg), .unset, .unset] [(.int ((own_i kg) - (own_i kf)))])) tg_) => pre0 tg_ (by
    refine XS.iloadN X0.here hx rfl (hb hby d28_0) rfl ?_
    refine XS.iloadN X0.here hx rfl (hb hby d28_1) rfl ?_
    refine st1 _ ?_
    refine XS.iloadN X1.here hx rfl (hb hby d28_5) rfl ?_
    refine XS.iloadN X1.here hx rfl (hb hby d28_6) rfl ?_
    refine XS.isub X1.here hx rfl (hb hby d28_7) rfl ?_
    exact kt_)
  have pre3 := fun tg_ (kt_ : Steps p.tables e below (T1.setTop (mkF m 8 #[vR t, vI (own_i kf), vI (own_i kg), .unset, .unset] [(.int (own_i (kg - kf)))])) tg_) => pre2 tg_ (by
    rw [show ((own_i kg) - (own_i kf)) = (own_i (kg - kf)) from own_isub hfg]
    exact kt_)
  obtain ⟨T4, h4, k4, X4, e4, E4, A4, st4⟩ := newP X1 hx hZ (hw (Jvm.Cond.arrayClass (newarray.typeOf .byte)) w_15) eh1 (g := (mkF m 10 #[vR t, vI (own_i kf), vI (own_i kg), vI (own_i (kg - kf)), .unset] [(.int (own_i (kg - kf)))])) rfl (hb hby d28_10) rfl (own_inn (by omega)) (cap := 160) (by rw [own_inat (by omega)]; omega) (by decide) (by decide) (by decide)
  obtain ⟨b4, g4⟩ : ∃ z, z = h0.size := ⟨_, rfl⟩
  rw [← g4] at A4 st4
  have sz4 : h0.size ≤ b4 := Nat.le_trans (Keep.refl h0 []).1 (Nat.le_of_eq g4.symm)
  have gn4 : n0 ≤ b4 := Nat.le_trans Z0 sz4
  have O4 : Old Z n0 h4 := O0.ext E4
  have K4 : Keep h0 h4 [] := (Keep.refl h0 []).ext E4
  have V4 : Arv Z h4 b4 k4 .byte (own_i (kg - kf)) [] (.int 0) := Arv.new A4 (own_inn (by omega))
  have Vp6 : Arv Z h4 b4 k4 .byte (own_i (kg - kf)) (List.replicate (kg - kf) (Value.int (0 : Int32))) (.int 0) := (V4).pad (pad_rep [] _ _)
  obtain ⟨cl7, Ar7, -, S7, Ng7, -, -⟩ := id (hp0.ext E4)
  have pre8 := fun tg_ (kt_ : Steps p.tables e below (T4.setTop (mkF m 23 #[vR t, vI (own_i kf), vI (own_i kg), vI (own_i (kg - kf)), vR b4] [(.int ((own_i N) - (own_i kf))), (.int 0), (.ref b4), (.int (own_i kf)), (.ref t)])) tg_) => pre3 tg_ (by
    refine XS.istoreN X1.here hx rfl (hb hby d28_8) rfl (l' := #[vR t, vI (own_i kf), vI (own_i kg), vI (own_i (kg - kf)), .unset]) rfl ?_
    refine XS.iloadN X1.here hx rfl (hb hby d28_9) rfl ?_
    refine st4 _ ?_
    refine XS.astore X4.here hx rfl (hb hby d28_12) rfl rfl (l' := #[vR t, vI (own_i kf), vI (own_i kg), vI (own_i (kg - kf)), vR b4]) rfl ?_
    refine XS.aloadN X4.here hx rfl (hb hby d28_14) rfl rfl ?_
    refine XS.iloadN X4.here hx rfl (hb hby d28_15) rfl ?_
    refine XS.aload X4.here hx rfl (hb hby d28_16) rfl rfl ?_
    refine XS.iconst X4.here hx rfl (hb hby d28_18) ?_
    refine XS.aloadN X4.here hx rfl (hb hby d28_19) rfl rfl ?_
    show Steps _ _ _ (T4.setTop (mkF m 20 #[vR t, vI (own_i kf), vI (own_i kg), vI (own_i (kg - kf)), vR b4] [(.ref t), (.int 0), (.ref b4), (.int (own_i kf)), (.ref t)])) _
    refine X4.arraylength hx (by rw [e4]; exact Ar7.1) (State.isArrayOf_alike hZ.alike Ar7.2.1) (g := (mkF m 20 #[vR t, vI (own_i kf), vI (own_i kg), vI (own_i (kg - kf)), vR b4] [(.ref t), (.int 0), (.ref b4), (.int (own_i kf)), (.ref t)])) rfl rfl (hb hby d28_20) _ ?_
    rw [len_of S7 Ng7]
    refine XS.iloadN X4.here hx rfl (hb hby d28_21) rfl ?_
    refine XS.isub X4.here hx rfl (hb hby d28_22) rfl ?_
    exact kt_)
  have pre9 := fun tg_ (kt_ : Steps p.tables e below (T4.setTop (mkF m 23 #[vR t, vI (own_i kf), vI (own_i kg), vI (own_i (kg - kf)), vR b4] [(.int (own_i (N - kf))), (.int 0), (.ref b4), (.int (own_i kf)), (.ref t)])) tg_) => pre8 tg_ (by
    rw [show ((own_i N) - (own_i kf)) = (own_i (N - kf)) from own_isub (by omega)]
    exact kt_)
  obtain ⟨_, _, ⟨T10, L10, k10, n10⟩, -, X10, ⟨Lc10, hQ10, l10, y10, z10⟩, st10⟩ := Jvm.LawKit.callS X4 hx (y := mN0) hown (mvT hZ (hw _ w_94)) (mvT hZ (hw _ w_95)) (mvT hZ (hw _ w_86)) (mvT hZ (hw _ w_96)) (by decide) (backOf (W := 4) (rmminR l Z a0 hw [] (own_i (N - kf)) (own_i (kg - kf)) h4 n0 O4 (by rw [own_ilt (by omega) (by omega)]; omega)) hZ (hw _ w_96) (hw _ w_86) (by decide) (by decide)) (g := (mkF m 24 #[vR t, vI (own_i kf), vI (own_i kg), vI (own_i (kg - kf)), vR b4] [(.int (own_i (kg - kf))), (.int (own_i (N - kf))), (.int 0), (.ref b4), (.int (own_i kf)), (.ref t)])) rfl (by rw [hml]; rfl) (argsL := [(.int (own_i (N - kf))), (.int (own_i (kg - kf)))]) (rest := [(.int 0), (.ref b4), (.int (own_i kf)), (.ref t)]) (lenOf pd__II_I rfl) rfl (by show 2 * 0 + _ ≤ _; exact Nat.le_of_eq rfl) (hb hby d28_24) (fun _ _ => ⟨rfl, e4, (by decide : 1 + 0 ≤ _), (by decide : 160 + 0 ≤ _)⟩)
  dsimp only [Pt.U, Pt.locs, Pt.cells, Pt.slots] at X10 l10 y10 z10 st10 hQ10
  subst l10 y10 z10
  obtain ⟨rfl, N10q, eh10⟩ := hQ10
  have N10 := Fr.app N1 N10q
  obtain ⟨T11, h11, L11, X11, e11, N11, Kc11, V11, st11⟩ := cpA X10 hx hZ hown (hw _ w_97) (hw _ w_100) (hw _ w_98) (hw _ w_99) eh10 (hp0.ext E4) Vp6 (us := (((xs.drop kf).take (kg - kf)).map Value.int)) (Or.inl ⟨rfl, rfl⟩) (own_inn (by omega)) (by decide) (own_inn (by omega)) (by rw [own_inat (by omega), own_inat (by omega), own_inat (by omega)]; omega) (by rw [own_inat (by omega)]; show 0 + (kg - kf) ≤ kg - kf; omega) (own_slice xs (by omega) hfg hgl) (by rw [own_inat (by omega), List.length_replicate]; show 0 + (kg - kf) ≤ kg - kf; omega) N10 gn4 (g := (mkF m 27 #[vR t, vI (own_i kf), vI (own_i kg), vI (own_i (kg - kf)), vR b4] [(.int (own_i (kg - kf))), (.int 0), (.ref b4), (.int (own_i kf)), (.ref t)])) rfl (by rw [hml]; rfl) rfl (hb hby d28_27) (by decide) (W := 0) (by show 2 * 0 + _ ≤ _; exact Nat.le_of_eq rfl) (by decide)
  have O11 : Old Z n0 h11 := O4.keep Kc11 (allS gn4 all0)
  have K11 : Keep h0 h11 [] := K4.trans Kc11 (allS (Or.inr sz4) all0)
  have Vc11 : Arv Z h11 b4 k4 .byte (own_i (kg - kf)) (((xs.drop kf).take (kg - kf)).map Value.int) (.int 0) := by
    have q := V11
    rw [own_inat (a := kg - kf) (by omega), own_cp0] at q
    exact q
  obtain ⟨fs, hr, hrun, hended, hW, hsame⟩ := X11.leave (v := some (.ref b4)) (fun h => by rw [Bd.returns] at h; cases h)
  refine ⟨_, _, pre9 _ ?_, hrun, hended, _, _, rfl, ?_, ⟨_, rfl⟩, hW, hsame.mono (by decide) (by decide)⟩
  · refine XS.iloadN X4.here hx rfl (hb hby d28_23) rfl ?_
    refine st10 _ ?_
    refine st11 _ ?_
    refine XS.aload X11.here hx rfl (hb hby d28_30) rfl rfl ?_
    jvm_step X11.here [X11.here.top, hx, (hb hby d28_32), X11.method', Bd.returns, Value.isRef, FieldType.isReference]
    first | (intro acts; rw [hr _ acts rfl rfl rfl]) | rw [hr _ _ rfl rfl rfl]
    exact Steps.refl _
  · show QcopyRB Z t kf kg kt N xs h0 n0 _ T11.heap _
    rw [e11]
    exact ⟨b4, k4, rfl, N11, K11, sz4, Vc11⟩
abbrev c27_ := jdk_65_method_132_code
theorem d27_0 : decode c27_ 0 = .ok (.iload_n 1, 1) := by decide +kernel
theorem d27_1 : decode c27_ 1 = .ok (.ifCond .ne 9, 3) := by decide +kernel
theorem d27_4 : decode c27_ 4 = .ok (.iload_n 2, 1) := by decide +kernel
theorem d27_5 : decode c27_ 5 = .ok (.aload_n 0, 1) := by decide +kernel
theorem d27_6 : decode c27_ 6 = .ok (.arraylength, 1) := by decide +kernel
theorem d27_7 : decode c27_ 7 = .ok (.if_icmp .eq 10, 3) := by decide +kernel
theorem d27_10 : decode c27_ 10 = .ok (.aload_n 0, 1) := by decide +kernel
theorem d27_11 : decode c27_ 11 = .ok (.iload_n 1, 1) := by decide +kernel
theorem d27_12 : decode c27_ 12 = .ok (.iload_n 2, 1) := by decide +kernel
theorem w_152 : (Cond.methodLink "java/util/Arrays" (339 : Nat) mN36) ∈ tables_1 := List.mem_of_getElem? (i := 152) (by decide +kernel)
theorem w_154 : (Cond.code mN36 jdk_65_method_133_code (5 : Nat) (Option.some (FieldType.array FieldType.byte))) ∈ tables_1 := List.mem_of_getElem? (i := 154) (by decide +kernel)
theorem pd__ABII_AB : parseMethodDescriptor "([BII)[B" = some ⟨[(.array .byte), .int, .int], some (.array .byte)⟩ := by decide +kernel
theorem d27_13 : decode c27_ 13 = .ok (.invokestatic 339, 3) := by decide +kernel
theorem w_153 : (Cond.static mN36) ∈ tables_1 := List.mem_of_getElem? (i := 153) (by decide +kernel)
theorem d27_16 : decode c27_ 16 = .ok (.areturn, 1) := by decide +kernel
abbrev mN37 : MethodName := ⟨"java/util/Arrays", "copyOfRange", "([BII)[B"⟩
theorem ef_copyR (m : MethodId) (x0 : Addr) (x1 : Int32) (x2 : Int32) : entryFrame m #[(.ref x0), (.int x1), (.int x2)] 3 = mkF m 0 #[vR x0, vI x1, vI x2] [] := by first | (simp [entryFrame, mkF, argsToLocals, Value.category]; done) | rfl
def QcopyR (Z : State) (t : Addr) (kf : Nat) (kg : Nat) (kt : ClassId) (N : Nat) (xs : List Int32) (h0 : Heap) (n0 : Nat) (v : Option Value) (h : Heap) (L : List Loc) : Prop := ∃ (r : Addr), ∃ (kr : ClassId), v = some (.ref r) ∧ Fr n0 L ∧ Keep h0 h [] ∧ h0.size ≤ r ∧ Arv Z h r kr .byte (own_i (kg - kf)) (((xs.drop kf).take (kg - kf)).map Value.int) (.int 0)
set_option maxRecDepth 65536 in
set_option maxHeartbeats 40000000 in
theorem rmcopyR (l : Launch) (Z : State) (a0 : Array Value) (hw : ∀ d ∈ tables_1, d.before a0 Z = true) (ws : List Jvm.Cond) (t : Addr) (kf : Nat) (kg : Nat) (kt : ClassId) (N : Nat) (xs : List Int32) (h0 : Heap) (n0 : Nat) (O0 : Old Z n0 h0) (hp0 : Arv Z h0 t kt .byte (own_i N) (xs.map Value.int) (.int 0)) (hfg : (kf ≤ kg)) (hgN : (kg ≤ N)) (hN : (N ≤ 160)) (hgl : (kg ≤ xs.length)) (hne : (¬ (kf = 0 ∧ kg = N))) :
    MetFree l mN37 (head1 (Jvm.Cond.code mN37 jdk_65_method_132_code 3 (some (.array .byte)) :: ws) ({ frames := 2, cells := 1, slots := 160, locals := 67 } : Room)) (fun as_ U => as_ = #[(.ref t), (.int (own_i kf)), (.int (own_i kg))] ∧ Z.Warmed39 U.vm ∧ U.heap = h0) (fun _ _ _ _ _ => True) (fun _ U o U' => ∃ v L, o = .returned v ∧ QcopyR Z t kf kg kt N xs h0 n0 v U'.heap L ∧ FrameEnd U o U' L ({ frames := 2, cells := 1, slots := 160, locals := 67 } : Room).cells ({ frames := 2, cells := 1, slots := 160, locals := 67 } : Room).slots) := by
  refine MetFree.of_bodySF (plainFor_of_name pn_java_util_Arrays) hisR ?_
  intro p e s m args below meth c s₁ Bd hml0 hP hK
  obtain ⟨rfl, hZ, hh⟩ := hP
  have hx := Bd.exec
  have hby := Bd.bytes
  have hml : c.maxLocals = 3 := hml0
  have hown : s.vm.findClass "java/util/Arrays" = some m.cls := findClass_of_methodNamed Bd.named
  have hnm := (name_of_methodNamed Bd.named Bd.method).1
  have X0 : Stand p l e ({ frames := 2, cells := 1, slots := 160, locals := 67 } : Room) s m #[(.ref t), (.int (own_i kf)), (.int (own_i kg))] below meth c s₁ [] 0 0 := Stand.of_body Bd
  have e0 : s₁.heap = h0 := by rw [← hh, Bd.state]; rfl
  have N0 := Fr.nil n0
  have Z0 := own_z0 O0
  have pre0 : ∀ tg_, Steps p.tables e below (s₁.setTop (mkF m 0 #[vR t, vI (own_i kf), vI (own_i kg)] [])) tg_ → Steps p.tables e below (s₁.setTop (entryFrame m #[(.ref t), (.int (own_i kf)), (.int (own_i kg))] 3)) tg_ := fun tg_ kt_ => castTop (ef_copyR m t (own_i kf) (own_i kg)) kt_
  have pre1 := fun tg_ (kt_ : Steps p.tables e below (s₁.setTop (mkF m 1 #[vR t, vI (own_i kf), vI (own_i kg)] [(.int (own_i kf))])) tg_) => pre0 tg_ (by
    refine XS.iloadN X0.here hx rfl (hb hby d27_0) rfl ?_
    exact kt_)
  by_cases hc2 : (own_i kf) = (0 : Int32)
  · obtain ⟨cl3, Ar3, -, S3, Ng3, -, -⟩ := id hp0
    obtain ⟨_, _, ⟨T4, L4, k4, n4⟩, -, X4, ⟨Lc4, hQ4, l4, y4, z4⟩, st4⟩ := Jvm.LawKit.callS X0 hx (y := mN36) hown (mvT hZ (hw _ w_152)) (mvT hZ (hw _ w_153)) (mvT hZ (hw _ w_92)) (mvT hZ (hw _ w_154)) (by decide) (backOf (W := 0) (rmcopyRB l Z a0 hw [] t kf kg kt N xs h0 n0 O0 hp0 hfg hgN hN hgl) hZ (hw _ w_154) (hw _ w_92) (by decide) (by decide)) (g := (mkF m 13 #[vR t, vI (own_i kf), vI (own_i kg)] [(.int (own_i kg)), (.int (own_i kf)), (.ref t)])) rfl (by rw [hml]; rfl) (argsL := [(.ref t), (.int (own_i kf)), (.int (own_i kg))]) (rest := []) (lenOf pd__ABII_AB rfl) rfl (by show 2 * 0 + _ ≤ _; exact Nat.le_of_eq rfl) (hb hby d27_13) (fun _ _ => ⟨rfl, e0, (by decide : 0 + 1 ≤ _), (by decide : 0 + 160 ≤ _)⟩)
    dsimp only [Pt.U, Pt.locs, Pt.cells, Pt.slots] at X4 l4 y4 z4 st4 hQ4
    subst l4 y4 z4
    obtain ⟨r_4, kr_4, rfl, N4q, Kc4, r4_1, r4_2⟩ := hQ4
    have N4 := Fr.app N0 N4q
    have sz5 : h0.size ≤ r_4 := Nat.le_trans (Keep.refl h0 []).1 r4_1
    have gn5 : n0 ≤ r_4 := Nat.le_trans Z0 sz5
    have O4 : Old Z n0 T4.heap := O0.keep Kc4 all0
    have K4 : Keep h0 T4.heap [] := (Keep.refl h0 []).trans Kc4 all0
    obtain ⟨fs, hr, hrun, hended, hW, hsame⟩ := X4.leave (v := some (.ref r_4)) (fun h => by rw [Bd.returns] at h; cases h)
    refine ⟨_, _, pre1 _ ?_, hrun, hended, _, _, rfl, ?_, ⟨_, rfl⟩, hW, hsame.mono (by decide) (by decide)⟩
    · refine XS.ifNo X0.here hx rfl (hb hby d27_1) rfl ((if0 _ _).trans (teq hc2).2) ?_
      refine XS.iloadN X0.here hx rfl (hb hby d27_4) rfl ?_
      refine XS.aloadN X0.here hx rfl (hb hby d27_5) rfl rfl ?_
      refine X0.arraylength hx (by rw [e0]; exact Ar3.1) (State.isArrayOf_alike hZ.alike Ar3.2.1) (g := (mkF m 6 #[vR t, vI (own_i kf), vI (own_i kg)] [(.ref t), (.int (own_i kg))])) rfl rfl (hb hby d27_6) _ ?_
      rw [len_of S3 Ng3]
      refine XS.icmpNo X0.here hx rfl (hb hby d27_7) rfl (feq (fun q => hne ⟨(own_i0 (by omega)).mp hc2, (own_ieq (by omega) (by omega)).mp q⟩ : ¬ ((own_i kg) = (own_i N)))).1 ?_
      refine XS.aloadN X0.here hx rfl (hb hby d27_10) rfl rfl ?_
      refine XS.iloadN X0.here hx rfl (hb hby d27_11) rfl ?_
      refine XS.iloadN X0.here hx rfl (hb hby d27_12) rfl ?_
      refine st4 _ ?_
      jvm_step X4.here [X4.here.top, hx, (hb hby d27_16), X4.method', Bd.returns, Value.isRef, FieldType.isReference]
      first | (intro acts; rw [hr _ acts rfl rfl rfl]) | rw [hr _ _ rfl rfl rfl]
      exact Steps.refl _
    · show QcopyR Z t kf kg kt N xs h0 n0 _ T4.heap _
      exact ⟨r_4, kr_4, rfl, N4, K4, sz5, r4_2⟩
  · obtain ⟨_, _, ⟨T7, L7, k7, n7⟩, -, X7, ⟨Lc7, hQ7, l7, y7, z7⟩, st7⟩ := Jvm.LawKit.callS X0 hx (y := mN36) hown (mvT hZ (hw _ w_152)) (mvT hZ (hw _ w_153)) (mvT hZ (hw _ w_92)) (mvT hZ (hw _ w_154)) (by decide) (backOf (W := 0) (rmcopyRB l Z a0 hw [] t kf kg kt N xs h0 n0 O0 hp0 hfg hgN hN hgl) hZ (hw _ w_154) (hw _ w_92) (by decide) (by decide)) (g := (mkF m 13 #[vR t, vI (own_i kf), vI (own_i kg)] [(.int (own_i kg)), (.int (own_i kf)), (.ref t)])) rfl (by rw [hml]; rfl) (argsL := [(.ref t), (.int (own_i kf)), (.int (own_i kg))]) (rest := []) (lenOf pd__ABII_AB rfl) rfl (by show 2 * 0 + _ ≤ _; exact Nat.le_of_eq rfl) (hb hby d27_13) (fun _ _ => ⟨rfl, e0, (by decide : 0 + 1 ≤ _), (by decide : 0 + 160 ≤ _)⟩)
    dsimp only [Pt.U, Pt.locs, Pt.cells, Pt.slots] at X7 l7 y7 z7 st7 hQ7
    subst l7 y7 z7
    obtain ⟨r_7, kr_7, rfl, N7q, Kc7, r7_1, r7_2⟩ := hQ7
    have N7 := Fr.app N0 N7q
    have sz8 : h0.size ≤ r_7 := Nat.le_trans (Keep.refl h0 []).1 r7_1
    have gn8 : n0 ≤ r_7 := Nat.le_trans Z0 sz8
    have O7 : Old Z n0 T7.heap := O0.keep Kc7 all0
    have K7 : Keep h0 T7.heap [] := (Keep.refl h0 []).trans Kc7 all0
    obtain ⟨fs, hr, hrun, hended, hW, hsame⟩ := X7.leave (v := some (.ref r_7)) (fun h => by rw [Bd.returns] at h; cases h)
    refine ⟨_, _, pre1 _ ?_, hrun, hended, _, _, rfl, ?_, ⟨_, rfl⟩, hW, hsame.mono (by decide) (by decide)⟩
    · refine XS.ifYes X0.here hx rfl (pc0 := 1) (pc' := 10) rfl (hb hby d27_1) rfl ((if0 _ _).trans (feq hc2).2) (by decide) (by decide) ?_
      refine XS.aloadN X0.here hx rfl (hb hby d27_10) rfl rfl ?_
      refine XS.iloadN X0.here hx rfl (hb hby d27_11) rfl ?_
      refine XS.iloadN X0.here hx rfl (hb hby d27_12) rfl ?_
      refine st7 _ ?_
      jvm_step X7.here [X7.here.top, hx, (hb hby d27_16), X7.method', Bd.returns, Value.isRef, FieldType.isReference]
      first | (intro acts; rw [hr _ acts rfl rfl rfl]) | rw [hr _ _ rfl rfl rfl]
      exact Steps.refl _
    · show QcopyR Z t kf kg kt N xs h0 n0 _ T7.heap _
      exact ⟨r_7, kr_7, rfl, N7, K7, sz8, r7_2⟩
abbrev c23_ := jdk_68_method_64_code
theorem d23_0 : decode c23_ 0 = .ok (.aload_n 0, 1) := by decide +kernel
theorem d23_1 : decode c23_ 1 = .ok (.getfield 15, 3) := by decide +kernel
theorem d23_4 : decode c23_ 4 = .ok (.areturn, 1) := by decide +kernel
abbrev mN38 : MethodName := ⟨"java/lang/AbstractStringBuilder", "getValue", "()[B"⟩
theorem ef_getV (m : MethodId) (x0 : Addr) : entryFrame m #[(.ref x0)] 1 = mkF m 0 #[vR x0] [] := by first | (simp [entryFrame, mkF, argsToLocals, Value.category]; done) | rfl
def QgetV (Z : State) (b : Addr) (vb : Addr) (h0 : Heap) (n0 : Nat) (v : Option Value) (h : Heap) (L : List Loc) : Prop := v = some (.ref vb) ∧ Fr n0 L ∧ h = h0
set_option maxRecDepth 65536 in
set_option maxHeartbeats 40000000 in
theorem rmgetV (l : Launch) (Z : State) (a0 : Array Value) (hw : ∀ d ∈ tables_1, d.before a0 Z = true) (ws : List Jvm.Cond) (b : Addr) (vb : Addr) (h0 : Heap) (n0 : Nat) (O0 : Old Z n0 h0) (hp0 : Fld Z h0 b "java/lang/AbstractStringBuilder" "value" "[B" (.ref vb)) :
    MetFree l mN38 (head1 (Jvm.Cond.code mN38 jdk_68_method_64_code 1 (some (.array .byte)) :: ws) ({ frames := 0, cells := 0, slots := 0, locals := 0 } : Room)) (fun as_ U => as_ = #[(.ref b)] ∧ Z.Warmed39 U.vm ∧ U.heap = h0) (fun _ _ _ _ _ => True) (fun _ U o U' => ∃ v L, o = .returned v ∧ QgetV Z b vb h0 n0 v U'.heap L ∧ FrameEnd U o U' L ({ frames := 0, cells := 0, slots := 0, locals := 0 } : Room).cells ({ frames := 0, cells := 0, slots := 0, locals := 0 } : Room).slots) := by
  refine MetFree.of_bodySF (plainFor_of_name pn_java_lang_AbstractStringBuilder) hisR ?_
  intro p e s m args below meth c s₁ Bd hml0 hP hK
  obtain ⟨rfl, hZ, hh⟩ := hP
  have hx := Bd.exec
  have hby := Bd.bytes
  have hml : c.maxLocals = 1 := hml0
  have hown : s.vm.findClass "java/lang/AbstractStringBuilder" = some m.cls := findClass_of_methodNamed Bd.named
  have hnm := (name_of_methodNamed Bd.named Bd.method).1
  have X0 : Stand p l e ({ frames := 0, cells := 0, slots := 0, locals := 0 } : Room) s m #[(.ref b)] below meth c s₁ [] 0 0 := Stand.of_body Bd
  have e0 : s₁.heap = h0 := by rw [← hh, Bd.state]; rfl
  have N0 := Fr.nil n0
  have Z0 := own_z0 O0
  have pre0 : ∀ tg_, Steps p.tables e below (s₁.setTop (mkF m 0 #[vR b] [])) tg_ → Steps p.tables e below (s₁.setTop (entryFrame m #[(.ref b)] 1)) tg_ := fun tg_ kt_ => castTop (ef_getV m b) kt_
  obtain ⟨T1, X1, e1, st1⟩ := getF X0 hx hZ hown (host := "") (Or.inl (hw _ w_42)) Via.refl e0 hp0 (g := (mkF m 1 #[vR b] [(.ref b)])) rfl rfl (hb hby d23_1)
  obtain ⟨fs, hr, hrun, hended, hW, hsame⟩ := X1.leave (v := some (.ref vb)) (fun h => by rw [Bd.returns] at h; cases h)
  refine ⟨_, _, pre0 _ ?_, hrun, hended, _, _, rfl, ?_, ⟨_, rfl⟩, hW, hsame.mono (by decide) (by decide)⟩
  · refine XS.aloadN X0.here hx rfl (hb hby d23_0) rfl rfl ?_
    refine st1 _ ?_
    jvm_step X1.here [X1.here.top, hx, (hb hby d23_4), X1.method', Bd.returns, Value.isRef, FieldType.isReference]
    first | (intro acts; rw [hr _ acts rfl rfl rfl]) | rw [hr _ _ rfl rfl rfl]
    exact Steps.refl _
  · show QgetV Z b vb h0 n0 _ T1.heap _
    rw [e1]
    exact ⟨rfl, N0, rfl⟩
abbrev c25_ := jdk_68_method_6_code
theorem d25_0 : decode c25_ 0 = .ok (.aload_n 0, 1) := by decide +kernel
theorem d25_1 : decode c25_ 1 = .ok (.getfield 79, 3) := by decide +kernel
theorem d25_4 : decode c25_ 4 = .ok (.ireturn, 1) := by decide +kernel
abbrev mN39 : MethodName := ⟨"java/lang/AbstractStringBuilder", "length", "()I"⟩
theorem ef_asbLen (m : MethodId) (x0 : Addr) : entryFrame m #[(.ref x0)] 1 = mkF m 0 #[vR x0] [] := by first | (simp [entryFrame, mkF, argsToLocals, Value.category]; done) | rfl
def QasbLen (Z : State) (b : Addr) (n : Nat) (h0 : Heap) (n0 : Nat) (v : Option Value) (h : Heap) (L : List Loc) : Prop := v = some (.int (own_i n)) ∧ Fr n0 L ∧ h = h0
set_option maxRecDepth 65536 in
set_option maxHeartbeats 40000000 in
theorem rmasbLen (l : Launch) (Z : State) (a0 : Array Value) (hw : ∀ d ∈ tables_1, d.before a0 Z = true) (ws : List Jvm.Cond) (b : Addr) (n : Nat) (h0 : Heap) (n0 : Nat) (O0 : Old Z n0 h0) (hp0 : Fld Z h0 b "java/lang/AbstractStringBuilder" "count" "I" (.int (own_i n))) :
    MetFree l mN39 (head1 (Jvm.Cond.code mN39 jdk_68_method_6_code 1 (some .int) :: ws) ({ frames := 0, cells := 0, slots := 0, locals := 0 } : Room)) (fun as_ U => as_ = #[(.ref b)] ∧ Z.Warmed39 U.vm ∧ U.heap = h0) (fun _ _ _ _ _ => True) (fun _ U o U' => ∃ v L, o = .returned v ∧ QasbLen Z b n h0 n0 v U'.heap L ∧ FrameEnd U o U' L ({ frames := 0, cells := 0, slots := 0, locals := 0 } : Room).cells ({ frames := 0, cells := 0, slots := 0, locals := 0 } : Room).slots) := by
  refine MetFree.of_bodySF (plainFor_of_name pn_java_lang_AbstractStringBuilder) hisR ?_
  intro p e s m args below meth c s₁ Bd hml0 hP hK
  obtain ⟨rfl, hZ, hh⟩ := hP
  have hx := Bd.exec
  have hby := Bd.bytes
  have hml : c.maxLocals = 1 := hml0
  have hown : s.vm.findClass "java/lang/AbstractStringBuilder" = some m.cls := findClass_of_methodNamed Bd.named
  have hnm := (name_of_methodNamed Bd.named Bd.method).1
  have X0 : Stand p l e ({ frames := 0, cells := 0, slots := 0, locals := 0 } : Room) s m #[(.ref b)] below meth c s₁ [] 0 0 := Stand.of_body Bd
  have e0 : s₁.heap = h0 := by rw [← hh, Bd.state]; rfl
  have N0 := Fr.nil n0
  have Z0 := own_z0 O0
  have pre0 : ∀ tg_, Steps p.tables e below (s₁.setTop (mkF m 0 #[vR b] [])) tg_ → Steps p.tables e below (s₁.setTop (entryFrame m #[(.ref b)] 1)) tg_ := fun tg_ kt_ => castTop (ef_asbLen m b) kt_
  obtain ⟨T1, X1, e1, st1⟩ := getF X0 hx hZ hown (host := "") (Or.inl (hw _ w_68)) Via.refl e0 hp0 (g := (mkF m 1 #[vR b] [(.ref b)])) rfl rfl (hb hby d25_1)
  obtain ⟨fs, hr, hrun, hended, hW, hsame⟩ := X1.leave (v := some (.int (own_i n))) (fun h => by rw [Bd.returns] at h; cases h)
  refine ⟨_, _, pre0 _ ?_, hrun, hended, _, _, rfl, ?_, ⟨_, rfl⟩, hW, hsame.mono (by decide) (by decide)⟩
  · refine XS.aloadN X0.here hx rfl (hb hby d25_0) rfl rfl ?_
    refine st1 _ ?_
    exact retI X1 hx Bd.returns (hb hby d25_4) hr
  · show QasbLen Z b n h0 n0 _ T1.heap _
    rw [e1]
    exact ⟨rfl, N0, rfl⟩
abbrev c24_ := jdk_67_method_93_code
theorem d24_0 : decode c24_ 0 = .ok (.aload_n 0, 1) := by decide +kernel
theorem w_142 : (Cond.methodLink "java/lang/StringBuilder" (343 : Nat) mN39) ∈ tables_1 := List.mem_of_getElem? (i := 142) (by decide +kernel)
theorem w_143 : (Cond.code mN39 jdk_68_method_6_code (1 : Nat) (Option.some FieldType.int)) ∈ tables_1 := List.mem_of_getElem? (i := 143) (by decide +kernel)
theorem d24_1 : decode c24_ 1 = .ok (.invokespecial 343, 3) := by decide +kernel
theorem w_137 : (Cond.declares mN39) ∈ tables_1 := List.mem_of_getElem? (i := 137) (by decide +kernel)
theorem w_138 : (Cond.instanceMethod mN39) ∈ tables_1 := List.mem_of_getElem? (i := 138) (by decide +kernel)
theorem d24_4 : decode c24_ 4 = .ok (.ireturn, 1) := by decide +kernel
abbrev mN40 : MethodName := ⟨"java/lang/StringBuilder", "length", "()I"⟩
theorem ef_sbLen (m : MethodId) (x0 : Addr) : entryFrame m #[(.ref x0)] 1 = mkF m 0 #[vR x0] [] := by first | (simp [entryFrame, mkF, argsToLocals, Value.category]; done) | rfl
def QsbLen (Z : State) (b : Addr) (n : Nat) (h0 : Heap) (n0 : Nat) (v : Option Value) (h : Heap) (L : List Loc) : Prop := v = some (.int (own_i n)) ∧ Fr n0 L ∧ h = h0
set_option maxRecDepth 65536 in
set_option maxHeartbeats 40000000 in
theorem rmsbLen (l : Launch) (Z : State) (a0 : Array Value) (hw : ∀ d ∈ tables_1, d.before a0 Z = true) (ws : List Jvm.Cond) (b : Addr) (n : Nat) (h0 : Heap) (n0 : Nat) (O0 : Old Z n0 h0) (hp0 : Exa Z h0 b "java/lang/StringBuilder") (hp1 : Fld Z h0 b "java/lang/AbstractStringBuilder" "count" "I" (.int (own_i n))) :
    MetFree l mN40 (head1 (Jvm.Cond.code mN40 jdk_67_method_93_code 1 (some .int) :: ws) ({ frames := 1, cells := 0, slots := 0, locals := 12 } : Room)) (fun as_ U => as_ = #[(.ref b)] ∧ Z.Warmed39 U.vm ∧ U.heap = h0) (fun _ _ _ _ _ => True) (fun _ U o U' => ∃ v L, o = .returned v ∧ QsbLen Z b n h0 n0 v U'.heap L ∧ FrameEnd U o U' L ({ frames := 1, cells := 0, slots := 0, locals := 12 } : Room).cells ({ frames := 1, cells := 0, slots := 0, locals := 12 } : Room).slots) := by
  refine MetFree.of_bodySF (plainFor_of_name pn_java_lang_StringBuilder) hisR ?_
  intro p e s m args below meth c s₁ Bd hml0 hP hK
  obtain ⟨rfl, hZ, hh⟩ := hP
  have hx := Bd.exec
  have hby := Bd.bytes
  have hml : c.maxLocals = 1 := hml0
  have hown : s.vm.findClass "java/lang/StringBuilder" = some m.cls := findClass_of_methodNamed Bd.named
  have hnm := (name_of_methodNamed Bd.named Bd.method).1
  have X0 : Stand p l e ({ frames := 1, cells := 0, slots := 0, locals := 12 } : Room) s m #[(.ref b)] below meth c s₁ [] 0 0 := Stand.of_body Bd
  have e0 : s₁.heap = h0 := by rw [← hh, Bd.state]; rfl
  have N0 := Fr.nil n0
  have Z0 := own_z0 O0
  have pre0 : ∀ tg_, Steps p.tables e below (s₁.setTop (mkF m 0 #[vR b] [])) tg_ → Steps p.tables e below (s₁.setTop (entryFrame m #[(.ref b)] 1)) tg_ := fun tg_ kt_ => castTop (ef_sbLen m b) kt_
  obtain ⟨_, _, ⟨T1, L1, k1, n1⟩, -, X1, ⟨Lc1, hQ1, l1, y1, z1⟩, st1⟩ := superBack X0 hx hZ (y := mN39) hown (hw _ w_142) (own_sameM (y := mN39) (hw _ w_137) (hw _ w_73) rfl (by decide)) (hw _ w_138) (hw _ w_54) (by decide) (backOf (W := 0) (rmasbLen l Z a0 hw [] b n h0 n0 O0 hp1) hZ (hw _ w_143) (hw _ w_38) (by decide) (by decide)) e0 (Ins.self hp0) (g := (mkF m 1 #[vR b] [(.ref b)])) rfl (by rw [hml]; rfl) (hw _ w_143) (argsL := []) (rest := []) (lenOf pd___I rfl) rfl (by show 2 * 0 + _ ≤ _; exact Nat.le_of_eq rfl) (hb hby d24_1) (fun _ _ => ⟨rfl, e0, (by decide : 0 + 0 ≤ _), (by decide : 0 + 0 ≤ _)⟩)
  dsimp only [Pt.U, Pt.locs, Pt.cells, Pt.slots] at X1 l1 y1 z1 st1 hQ1
  subst l1 y1 z1
  obtain ⟨rfl, N1q, eh1⟩ := hQ1
  have N1 := Fr.app N0 N1q
  obtain ⟨fs, hr, hrun, hended, hW, hsame⟩ := X1.leave (v := some (.int (own_i n))) (fun h => by rw [Bd.returns] at h; cases h)
  refine ⟨_, _, pre0 _ ?_, hrun, hended, _, _, rfl, ?_, ⟨_, rfl⟩, hW, hsame.mono (by decide) (by decide)⟩
  · refine XS.aloadN X0.here hx rfl (hb hby d24_0) rfl rfl ?_
    refine st1.trans ?_
    exact retI X1 hx Bd.returns (hb hby d24_4) hr
  · show QsbLen Z b n h0 n0 _ T1.heap _
    rw [eh1]
    exact ⟨rfl, N1, rfl⟩
abbrev c22_ := jdk_42_method_150_code
theorem d22_0 : decode c22_ 0 = .ok (.aload_n 0, 1) := by decide +kernel
theorem d22_1 : decode c22_ 1 = .ok (.invokespecial 1, 3) := by decide +kernel
theorem d22_4 : decode c22_ 4 = .ok (.aload_n 1, 1) := by decide +kernel
theorem w_131 : (Cond.methodLink "java/lang/String" (552 : Nat) mN38) ∈ tables_1 := List.mem_of_getElem? (i := 131) (by decide +kernel)
theorem w_135 : (Cond.code mN38 jdk_68_method_64_code (1 : Nat) (Option.some (FieldType.array FieldType.byte))) ∈ tables_1 := List.mem_of_getElem? (i := 135) (by decide +kernel)
theorem pd___AB : parseMethodDescriptor "()[B" = some ⟨[], some (.array .byte)⟩ := by decide +kernel
theorem d22_5 : decode c22_ 5 = .ok (.invokevirtual 552, 3) := by decide +kernel
theorem w_134 : (Cond.selects "java/lang/StringBuilder" mN38 mN38) ∈ tables_1 := List.mem_of_getElem? (i := 134) (by decide +kernel)
theorem w_132 : (Cond.declares mN38) ∈ tables_1 := List.mem_of_getElem? (i := 132) (by decide +kernel)
theorem w_133 : (Cond.instanceMethod mN38) ∈ tables_1 := List.mem_of_getElem? (i := 133) (by decide +kernel)
theorem d22_8 : decode c22_ 8 = .ok (.astore_n 3, 1) := by decide +kernel
theorem d22_9 : decode c22_ 9 = .ok (.aload_n 1, 1) := by decide +kernel
theorem w_136 : (Cond.methodLink "java/lang/String" (549 : Nat) mN39) ∈ tables_1 := List.mem_of_getElem? (i := 136) (by decide +kernel)
theorem w_141 : (Cond.code mN40 jdk_67_method_93_code (1 : Nat) (Option.some FieldType.int)) ∈ tables_1 := List.mem_of_getElem? (i := 141) (by decide +kernel)
theorem w_30 : (Cond.initialized "java/lang/StringBuilder") ∈ tables_1 := List.mem_of_getElem? (i := 30) (by decide +kernel)
theorem d22_10 : decode c22_ 10 = .ok (.invokevirtual 549, 3) := by decide +kernel
theorem w_139 : (Cond.selects "java/lang/StringBuilder" mN39 mN40) ∈ tables_1 := List.mem_of_getElem? (i := 139) (by decide +kernel)
theorem w_140 : (Cond.instanceMethod mN40) ∈ tables_1 := List.mem_of_getElem? (i := 140) (by decide +kernel)
theorem d22_13 : decode c22_ 13 = .ok (.istore 4, 2) := by decide +kernel
theorem d22_15 : decode c22_ 15 = .ok (.aload_n 1, 1) := by decide +kernel
theorem w_144 : (Cond.methodLink "java/lang/String" (1047 : Nat) mN26) ∈ tables_1 := List.mem_of_getElem? (i := 144) (by decide +kernel)
theorem d22_16 : decode c22_ 16 = .ok (.invokevirtual 1047, 3) := by decide +kernel
theorem d22_19 : decode c22_ 19 = .ok (.ifCond .eq 22, 3) := by decide +kernel
theorem d22_22 : decode c22_ 22 = .ok (.aload_n 0, 1) := by decide +kernel
theorem d22_23 : decode c22_ 23 = .ok (.iconst 0, 1) := by decide +kernel
theorem d22_24 : decode c22_ 24 = .ok (.putfield 15, 3) := by decide +kernel
theorem d22_27 : decode c22_ 27 = .ok (.aload_n 0, 1) := by decide +kernel
theorem d22_28 : decode c22_ 28 = .ok (.aload_n 3, 1) := by decide +kernel
theorem d22_29 : decode c22_ 29 = .ok (.iconst 0, 1) := by decide +kernel
theorem d22_30 : decode c22_ 30 = .ok (.iload 4, 2) := by decide +kernel
theorem w_149 : (Cond.methodLink "java/lang/String" (54 : Nat) mN37) ∈ tables_1 := List.mem_of_getElem? (i := 149) (by decide +kernel)
theorem w_151 : (Cond.code mN37 jdk_65_method_132_code (3 : Nat) (Option.some (FieldType.array FieldType.byte))) ∈ tables_1 := List.mem_of_getElem? (i := 151) (by decide +kernel)
theorem d22_32 : decode c22_ 32 = .ok (.invokestatic 54, 3) := by decide +kernel
theorem w_150 : (Cond.static mN37) ∈ tables_1 := List.mem_of_getElem? (i := 150) (by decide +kernel)
theorem d22_35 : decode c22_ 35 = .ok (.putfield 9, 3) := by decide +kernel
theorem d22_38 : decode c22_ 38 = .ok (.goto 59, 3) := by decide +kernel
theorem d22_97 : decode c22_ 97 = .ok (.return_, 1) := by decide +kernel
theorem d22_41 : decode c22_ 41 = .ok (.getstatic 38, 3) := by decide +kernel
theorem d22_44 : decode c22_ 44 = .ok (.ifCond .eq 35, 3) := by decide +kernel
theorem d22_47 : decode c22_ 47 = .ok (.aload_n 1, 1) := by decide +kernel
theorem w_293 : (Cond.fieldLink "java/lang/String" (1048 : Nat) "java/lang/AbstractStringBuilder" "maybeLatin1" "Z") ∈ tables_1 := List.mem_of_getElem? (i := 293) (by decide +kernel)
theorem d22_48 : decode c22_ 48 = .ok (.getfield 1048, 3) := by decide +kernel
theorem d22_51 : decode c22_ 51 = .ok (.ifCond .eq 28, 3) := by decide +kernel
theorem d22_79 : decode c22_ 79 = .ok (.aload_n 0, 1) := by decide +kernel
theorem d22_80 : decode c22_ 80 = .ok (.iconst 1, 1) := by decide +kernel
theorem d22_81 : decode c22_ 81 = .ok (.putfield 15, 3) := by decide +kernel
theorem d22_84 : decode c22_ 84 = .ok (.aload_n 0, 1) := by decide +kernel
theorem d22_85 : decode c22_ 85 = .ok (.aload_n 3, 1) := by decide +kernel
theorem d22_86 : decode c22_ 86 = .ok (.iconst 0, 1) := by decide +kernel
theorem d22_87 : decode c22_ 87 = .ok (.iload 4, 2) := by decide +kernel
theorem d22_89 : decode c22_ 89 = .ok (.iconst 1, 1) := by decide +kernel
theorem d22_90 : decode c22_ 90 = .ok (.ishl, 1) := by decide +kernel
theorem d22_91 : decode c22_ 91 = .ok (.invokestatic 54, 3) := by decide +kernel
theorem d22_94 : decode c22_ 94 = .ok (.putfield 9, 3) := by decide +kernel
abbrev mN41 : MethodName := ⟨"java/lang/String", "<init>", "(Ljava/lang/AbstractStringBuilder;Ljava/lang/Void;)V"⟩
theorem ef_strSB2 (m : MethodId) (x0 : Addr) (x1 : Addr) : entryFrame m #[(.ref x0), (.ref x1), .null] 5 = mkF m 0 #[vR x0, vR x1, .val .null, .unset, .unset] [] := by first | (simp [entryFrame, mkF, argsToLocals, Value.category]; done) | rfl
def QstrSB2 (Z : State) (a : Addr) (b : Addr) (cz : Int32) (vb : Addr) (kv : ClassId) (cs : List Int32) (cp : Nat) (u1 : Value) (u2 : Value) (h0 : Heap) (n0 : Nat) (v : Option Value) (h : Heap) (L : List Loc) : Prop := ∃ (t : Addr), ∃ (kt : ClassId), v = none ∧ Fr n0 L ∧ Keep h0 h [a] ∧ h0.size ≤ t ∧ Exa Z h a "java/lang/String" ∧ Fld Z h a "java/lang/String" "value" "[B" (.ref t) ∧ Fld Z h a "java/lang/String" "coder" "B" (.int (own_i (own_cd cs))) ∧ Arv Z h t kt .byte (own_i (own_wd (own_cd cs) cs.length)) ((own_enc (own_cd cs) cs).map Value.int) (.int 0)
set_option maxRecDepth 65536 in
set_option maxHeartbeats 40000000 in
theorem rmstrSB2 (l : Launch) (Z : State) (a0 : Array Value) (hw : ∀ d ∈ tables_1, d.before a0 Z = true) (ws : List Jvm.Cond) (a : Addr) (b : Addr) (cz : Int32) (vb : Addr) (kv : ClassId) (cs : List Int32) (cp : Nat) (u1 : Value) (u2 : Value) (h0 : Heap) (n0 : Nat) (O0 : Old Z n0 h0) (hp0 : Exa Z h0 a "java/lang/String") (hp1 : n0 ≤ a) (hp2 : Fld Z h0 a "java/lang/String" "value" "[B" u1) (hp3 : Fld Z h0 a "java/lang/String" "coder" "B" u2) (hp4 : Exa Z h0 b "java/lang/StringBuilder") (hp5 : Fld Z h0 b "java/lang/AbstractStringBuilder" "value" "[B" (.ref vb)) (hp6 : Fld Z h0 b "java/lang/AbstractStringBuilder" "coder" "B" (.int (own_i (own_cd cs)))) (hp7 : Fld Z h0 b "java/lang/AbstractStringBuilder" "count" "I" (.int (own_i cs.length))) (hp8 : Fld Z h0 b "java/lang/AbstractStringBuilder" "maybeLatin1" "Z" (.int 0)) (hp9 : Arv Z h0 vb kv .byte (own_i (own_wd (own_cd cs) cp)) ((own_enc (own_cd cs) cs).map Value.int) (.int 0)) (hlc : (cs.length < cp)) (hcp : (cp ≤ 80)) (hp12 : Sta Z Z.heap "java/lang/String" "COMPACT_STRINGS" "Z" (.int cz)) (hcz : (¬ (cz = (0 : Int32)))) :
    MetFree l mN41 (head1 (Jvm.Cond.code mN41 jdk_42_method_150_code 5 none :: ws) ({ frames := 3, cells := 1, slots := 160, locals := 82 } : Room)) (fun as_ U => as_ = #[(.ref a), (.ref b), .null] ∧ Z.Warmed39 U.vm ∧ U.heap = h0) (fun _ _ _ _ _ => True) (fun _ U o U' => ∃ v L, o = .returned v ∧ QstrSB2 Z a b cz vb kv cs cp u1 u2 h0 n0 v U'.heap L ∧ FrameEnd U o U' L ({ frames := 3, cells := 1, slots := 160, locals := 82 } : Room).cells ({ frames := 3, cells := 1, slots := 160, locals := 82 } : Room).slots) := by
  refine MetFree.of_bodySF (plainFor_of_name pn_java_lang_String) hisR ?_
  intro p e s m args below meth c s₁ Bd hml0 hP hK
  obtain ⟨rfl, hZ, hh⟩ := hP
  have hx := Bd.exec
  have hby := Bd.bytes
  have hml : c.maxLocals = 5 := hml0
  have hown : s.vm.findClass "java/lang/String" = some m.cls := findClass_of_methodNamed Bd.named
  have hnm := (name_of_methodNamed Bd.named Bd.method).1
  have X0 : Stand p l e ({ frames := 3, cells := 1, slots := 160, locals := 82 } : Room) s m #[(.ref a), (.ref b), .null] below meth c s₁ [] 0 0 := Stand.of_body Bd
  have e0 : s₁.heap = h0 := by rw [← hh, Bd.state]; rfl
  have N0 := Fr.nil n0
  have Z0 := own_z0 O0
  have pre0 : ∀ tg_, Steps p.tables e below (s₁.setTop (mkF m 0 #[vR a, vR b, .val .null, .unset, .unset] [])) tg_ → Steps p.tables e below (s₁.setTop (entryFrame m #[(.ref a), (.ref b), .null] 5)) tg_ := fun tg_ kt_ => castTop (ef_strSB2 m a b) kt_
  rcases own_cd01 cs with ec1 | ec1
  · have Fk2 : Fld Z h0 b "java/lang/AbstractStringBuilder" "coder" "B" (.int 0) := by
      have q := hp6
      rw [ec1] at q
      exact q
    have Fk3 : Arv Z h0 vb kv .byte (own_i cp) ((cs.map own_b).map Value.int) (.int 0) := by
      have q := hp9
      rw [ec1] at q
      exact q
    obtain ⟨T4, X4, e4, st4⟩ := initO X0 hx hZ hown (hw _ w_11) (hw _ w_12) (hw _ w_13) e0 (g := (mkF m 1 #[vR a, vR b, .val .null, .unset, .unset] [(.ref a)])) rfl (by rw [hml]; rfl) rfl (hb hby d22_1) (by decide) (W := 0) (by show 2 * 0 + _ ≤ _; exact Nat.le_of_eq rfl) (by decide)
    obtain ⟨cq5, kq5, q5a, q5b, q5c⟩ := isOf hZ e4 hp4
    obtain ⟨_, _, ⟨T5, L5, k5, n5⟩, -, X5, ⟨Lc5, hQ5, l5, y5, z5⟩, st5⟩ := X4.virtualBack hx (y := mN38) (z := mN38) hown (mvT hZ (hw _ w_131)) (mvT hZ (hw _ w_132)) (notFace_of_selects (args := #[]) (mvT hZ (hw _ w_134))) (mvT hZ (hw _ w_134)) (mvT hZ (hw _ w_133)) (by decide) (backOf (W := 0) (rmgetV l Z a0 hw [] b vb h0 n0 O0 hp5) hZ (hw _ w_135) (hw _ w_38) (by decide) (by decide)) q5a q5c (g := (mkF m 5 #[vR a, vR b, .val .null, .unset, .unset] [(.ref b)])) rfl (by rw [hml]; rfl) (Steps.refl _) (argsL := []) (rest := []) (lenOf pd___AB rfl) rfl (by show 2 * 0 + _ ≤ _; exact Nat.le_of_eq rfl) (hb hby d22_5) (fun _ _ => ⟨rfl, e4, (by decide : 0 + 0 ≤ _), (by decide : 0 + 0 ≤ _)⟩)
    dsimp only [Pt.U, Pt.locs, Pt.cells, Pt.slots] at X5 l5 y5 z5 st5 hQ5
    subst l5 y5 z5
    obtain ⟨rfl, N5q, eh5⟩ := hQ5
    have N5 := Fr.app N0 N5q
    obtain ⟨cq6, kq6, q6a, q6b, q6c⟩ := isOf hZ eh5 hp4
    obtain ⟨_, _, ⟨T6, L6, k6, n6⟩, -, X6, ⟨Lc6, hQ6, l6, y6, z6⟩, st6⟩ := X5.virtualBack hx (y := mN39) (z := mN40) hown (mvT hZ (hw _ w_136)) (mvT hZ (hw _ w_137)) (own_nfSel (y := mN39) (args := #[]) (mvT hZ (hw _ w_73)) rfl) (mvT hZ (hw _ w_139)) (mvT hZ (hw _ w_140)) (by decide) (backOf (W := 0) (rmsbLen l Z a0 hw [] b cs.length h0 n0 O0 hp4 hp7) hZ (hw _ w_141) (hw _ w_30) (by decide) (by decide)) q6a q6c (g := (mkF m 10 #[vR a, vR b, .val .null, vR vb, .unset] [(.ref b)])) rfl (by rw [hml]; rfl) (Steps.refl _) (argsL := []) (rest := []) (lenOf pd___I rfl) rfl (by show 2 * 0 + _ ≤ _; exact Nat.le_of_eq rfl) (hb hby d22_10) (fun _ _ => ⟨rfl, eh5, (by decide : 0 + 0 ≤ _), (by decide : 0 + 0 ≤ _)⟩)
    dsimp only [Pt.U, Pt.locs, Pt.cells, Pt.slots] at X6 l6 y6 z6 st6 hQ6
    subst l6 y6 z6
    obtain ⟨rfl, N6q, eh6⟩ := hQ6
    have N6 := Fr.app N5 N6q
    obtain ⟨cq7, kq7, q7a, q7b, q7c⟩ := isOf hZ eh6 hp4
    obtain ⟨_, _, ⟨T7, L7, k7, n7⟩, -, X7, ⟨Lc7, hQ7, l7, y7, z7⟩, st7⟩ := X6.virtualBack hx (y := mN26) (z := mN26) hown (mvT hZ (hw _ w_144)) (mvT hZ (hw _ w_145)) (notFace_of_selects (args := #[]) (mvT hZ (hw _ w_147))) (mvT hZ (hw _ w_147)) (mvT hZ (hw _ w_146)) (by decide) (backOf (W := 0) (rmasbL0 l Z a0 hw [] b cz h0 n0 O0 Fk2 hp12 hcz) hZ (hw _ w_148) (hw _ w_38) (by decide) (by decide)) q7a q7c (g := (mkF m 16 #[vR a, vR b, .val .null, vR vb, vI (own_i cs.length)] [(.ref b)])) rfl (by rw [hml]; rfl) (Steps.refl _) (argsL := []) (rest := []) (lenOf pd___Z rfl) rfl (by show 2 * 0 + _ ≤ _; exact Nat.le_of_eq rfl) (hb hby d22_16) (fun _ _ => ⟨rfl, eh6, (by decide : 0 + 0 ≤ _), (by decide : 0 + 0 ≤ _)⟩)
    dsimp only [Pt.U, Pt.locs, Pt.cells, Pt.slots] at X7 l7 y7 z7 st7 hQ7
    subst l7 y7 z7
    obtain ⟨rfl, N7q, eh7⟩ := hQ7
    have N7 := Fr.app N6 N7q
    obtain ⟨T8, h8, X8, e8, W8, st8⟩ := putFN X7 hx hZ hown (hw _ w_21) Via.refl eh7 hp3 hp0 (Or.inr ⟨(hw _ w_17), rfl, hnm⟩) (hw _ w_1) (ty := .byte) (v' := (.int 0)) (by decide) rfl rfl (g := (mkF m 24 #[vR a, vR b, .val .null, vR vb, vI (own_i cs.length)] [(.int 0), (.ref a)])) rfl rfl (hb hby d22_24)
    have Fw8 := hp3.same W8
    have N8 := Fr.snoc X8 N7 hp1
    have O8 : Old Z n0 h8 := O0.wr W8 hp1
    have K8 : Keep h0 h8 [a] := (Keep.refl h0 [a]).wr W8 (Or.inl (List.mem_of_getElem? (i := 0) rfl))
    obtain ⟨_, _, ⟨T9, L9, k9, n9⟩, -, X9, ⟨Lc9, hQ9, l9, y9, z9⟩, st9⟩ := Jvm.LawKit.callS X8 hx (y := mN37) hown (mvT hZ (hw _ w_149)) (mvT hZ (hw _ w_150)) (mvT hZ (hw _ w_92)) (mvT hZ (hw _ w_151)) (by decide) (backOf (W := 1) (rmcopyR l Z a0 hw [] vb 0 cs.length kv cp (cs.map own_b) h8 n0 O8 (Fk3.other W8 (Ne.symm (own_neArv hp0 (hw _ w_1) Fk3))) (Nat.zero_le _) (by omega) (by omega) (Nat.le_of_eq (by rw [List.length_map])) (by omega)) hZ (hw _ w_151) (hw _ w_92) (by decide) (by decide)) (g := (mkF m 32 #[vR a, vR b, .val .null, vR vb, vI (own_i cs.length)] [(.int (own_i cs.length)), (.int 0), (.ref vb), (.ref a)])) rfl (by rw [hml]; rfl) (argsL := [(.ref vb), (.int 0), (.int (own_i cs.length))]) (rest := [(.ref a)]) (lenOf pd__ABII_AB rfl) rfl (by show 2 * 0 + _ ≤ _; exact Nat.le_of_eq rfl) (hb hby d22_32) (fun _ _ => ⟨rfl, e8, (by decide : 0 + 1 ≤ _), (by decide : 0 + 160 ≤ _)⟩)
    dsimp only [Pt.U, Pt.locs, Pt.cells, Pt.slots] at X9 l9 y9 z9 st9 hQ9
    subst l9 y9 z9
    obtain ⟨r_9, kr_9, rfl, N9q, Kc9, r9_1, r9_2⟩ := hQ9
    have N9 := Fr.app N8 N9q
    have sz10 : h0.size ≤ r_9 := Nat.le_trans K8.1 r9_1
    have gn10 : n0 ≤ r_9 := Nat.le_trans Z0 sz10
    have O9 : Old Z n0 T9.heap := O8.keep Kc9 all0
    have K9 : Keep h0 T9.heap [a] := K8.trans Kc9 all0
    have Vr12 : Arv Z T9.heap r_9 kr_9 .byte (own_i cs.length) ((cs.map own_b).map Value.int) (.int 0) := by
      have q := r9_2
      rw [Nat.sub_zero, List.drop_zero, List.take_of_length_le (Nat.le_of_eq (by rw [List.length_map]))] at q; exact q
    obtain ⟨T13, h13, X13, e13, W13, st13⟩ := putF X9 hx hZ hown (host := "") (Or.inl (hw _ w_20)) Via.refl rfl ((hp2.other W8 (Or.inr (slot_ne (Or.inr (hw _ w_16)) (Or.inr (hw _ w_17)) (by decide) (t := (.array .byte)) (t' := .byte) (by decide) (by decide)))).keep Kc9 nin0) ((hp0.wr W8).keep Kc9) (Or.inr ⟨(hw _ w_16), rfl, hnm⟩) (hw _ w_1) (ty := (.array .byte)) (by decide) rfl rfl (g := (mkF m 35 #[vR a, vR b, .val .null, vR vb, vI (own_i cs.length)] [(.ref r_9), (.ref a)])) rfl rfl (hb hby d22_35)
    have Fw13 := ((hp2.other W8 (Or.inr (slot_ne (Or.inr (hw _ w_16)) (Or.inr (hw _ w_17)) (by decide) (t := (.array .byte)) (t' := .byte) (by decide) (by decide)))).keep Kc9 nin0).same W13
    have N13 := Fr.snoc X13 N9 hp1
    have O13 : Old Z n0 h13 := O9.wr W13 hp1
    have K13 : Keep h0 h13 [a] := K9.wr W13 (Or.inl (List.mem_of_getElem? (i := 0) rfl))
    obtain ⟨fs, hr, hrun, hended, hW, hsame⟩ := X13.leave (v := none) (fun _ => rfl)
    refine ⟨_, _, pre0 _ ?_, hrun, hended, _, _, rfl, ?_, ⟨_, rfl⟩, hW, hsame.mono (by decide) (by decide)⟩
    · refine XS.aloadN X0.here hx rfl (hb hby d22_0) rfl rfl ?_
      refine st4 _ ?_
      refine XS.aloadN X4.here hx rfl (hb hby d22_4) rfl rfl ?_
      refine st5.trans ?_
      refine XS.astoreN X5.here hx rfl (hb hby d22_8) rfl rfl (l' := #[vR a, vR b, .val .null, vR vb, .unset]) rfl ?_
      refine XS.aloadN X5.here hx rfl (hb hby d22_9) rfl rfl ?_
      refine st6.trans ?_
      refine XS.istore X6.here hx rfl (hb hby d22_13) rfl (l' := #[vR a, vR b, .val .null, vR vb, vI (own_i cs.length)]) rfl ?_
      refine XS.aloadN X6.here hx rfl (hb hby d22_15) rfl rfl ?_
      refine st7.trans ?_
      refine XS.ifNo X7.here hx rfl (hb hby d22_19) rfl ((if0 _ _).trans (feq (by decide : ¬ ((1 : Int32) = (0 : Int32)))).1) ?_
      refine XS.aloadN X7.here hx rfl (hb hby d22_22) rfl rfl ?_
      refine XS.iconst X7.here hx rfl (hb hby d22_23) ?_
      show Steps _ _ _ (T7.setTop (mkF m 24 #[vR a, vR b, .val .null, vR vb, vI (own_i cs.length)] [(.int 0), (.ref a)])) _
      refine st8 _ ?_
      refine XS.aloadN X8.here hx rfl (hb hby d22_27) rfl rfl ?_
      refine XS.aloadN X8.here hx rfl (hb hby d22_28) rfl rfl ?_
      refine XS.iconst X8.here hx rfl (hb hby d22_29) ?_
      refine XS.iload X8.here hx rfl (hb hby d22_30) rfl ?_
      refine st9 _ ?_
      refine st13 _ ?_
      refine XS.goto X13.here hx rfl (pc0 := 38) (pc' := 97) rfl (hb hby d22_38) (by decide) (by decide) ?_
      exact X13.returnOut hx Bd.returns (hb hby d22_97) hr
    · show QstrSB2 Z a b cz vb kv cs cp u1 u2 h0 n0 _ T13.heap _
      rw [e13]
      exact ⟨r_9, kr_9, rfl, N13, K13, sz10, (((hp0.wr W8).keep Kc9).wr W13), Fw13, (by rw [ec1]; exact ((Fw8.keep Kc9 nin0).other W13 (Or.inr (slot_ne (Or.inr (hw _ w_17)) (Or.inr (hw _ w_16)) (by decide) (t := .byte) (t' := (.array .byte)) (by decide) (by decide))))), (by rw [ec1]; exact (Vr12.other W13 (Ne.symm (Nat.ne_of_lt (Nat.lt_of_lt_of_le (hp0.wr W8).lt r9_1)))))⟩
  · have Fk14 : Fld Z h0 b "java/lang/AbstractStringBuilder" "coder" "B" (.int 1) := by
      have q := hp6
      rw [ec1] at q
      exact q
    have Fk15 : Arv Z h0 vb kv .byte (own_i (2 * cp)) ((own_e1 cs).map Value.int) (.int 0) := by
      have q := hp9
      rw [ec1] at q
      exact q
    obtain ⟨T16, X16, e16, st16⟩ := initO X0 hx hZ hown (hw _ w_11) (hw _ w_12) (hw _ w_13) e0 (g := (mkF m 1 #[vR a, vR b, .val .null, .unset, .unset] [(.ref a)])) rfl (by rw [hml]; rfl) rfl (hb hby d22_1) (by decide) (W := 0) (by show 2 * 0 + _ ≤ _; exact Nat.le_of_eq rfl) (by decide)
    obtain ⟨cq17, kq17, q17a, q17b, q17c⟩ := isOf hZ e16 hp4
    obtain ⟨_, _, ⟨T17, L17, k17, n17⟩, -, X17, ⟨Lc17, hQ17, l17, y17, z17⟩, st17⟩ := X16.virtualBack hx (y := mN38) (z := mN38) hown (mvT hZ (hw _ w_131)) (mvT hZ (hw _ w_132)) (notFace_of_selects (args := #[]) (mvT hZ (hw _ w_134))) (mvT hZ (hw _ w_134)) (mvT hZ (hw _ w_133)) (by decide) (backOf (W := 0) (rmgetV l Z a0 hw [] b vb h0 n0 O0 hp5) hZ (hw _ w_135) (hw _ w_38) (by decide) (by decide)) q17a q17c (g := (mkF m 5 #[vR a, vR b, .val .null, .unset, .unset] [(.ref b)])) rfl (by rw [hml]; rfl) (Steps.refl _) (argsL := []) (rest := []) (lenOf pd___AB rfl) rfl (by show 2 * 0 + _ ≤ _; exact Nat.le_of_eq rfl) (hb hby d22_5) (fun _ _ => ⟨rfl, e16, (by decide : 0 + 0 ≤ _), (by decide : 0 + 0 ≤ _)⟩)
    dsimp only [Pt.U, Pt.locs, Pt.cells, Pt.slots] at X17 l17 y17 z17 st17 hQ17
    subst l17 y17 z17
    obtain ⟨rfl, N17q, eh17⟩ := hQ17
    have N17 := Fr.app N0 N17q
    obtain ⟨cq18, kq18, q18a, q18b, q18c⟩ := isOf hZ eh17 hp4
    obtain ⟨_, _, ⟨T18, L18, k18, n18⟩, -, X18, ⟨Lc18, hQ18, l18, y18, z18⟩, st18⟩ := X17.virtualBack hx (y := mN39) (z := mN40) hown (mvT hZ (hw _ w_136)) (mvT hZ (hw _ w_137)) (own_nfSel (y := mN39) (args := #[]) (mvT hZ (hw _ w_73)) rfl) (mvT hZ (hw _ w_139)) (mvT hZ (hw _ w_140)) (by decide) (backOf (W := 0) (rmsbLen l Z a0 hw [] b cs.length h0 n0 O0 hp4 hp7) hZ (hw _ w_141) (hw _ w_30) (by decide) (by decide)) q18a q18c (g := (mkF m 10 #[vR a, vR b, .val .null, vR vb, .unset] [(.ref b)])) rfl (by rw [hml]; rfl) (Steps.refl _) (argsL := []) (rest := []) (lenOf pd___I rfl) rfl (by show 2 * 0 + _ ≤ _; exact Nat.le_of_eq rfl) (hb hby d22_10) (fun _ _ => ⟨rfl, eh17, (by decide : 0 + 0 ≤ _), (by decide : 0 + 0 ≤ _)⟩)
    dsimp only [Pt.U, Pt.locs, Pt.cells, Pt.slots] at X18 l18 y18 z18 st18 hQ18
    subst l18 y18 z18
    obtain ⟨rfl, N18q, eh18⟩ := hQ18
    have N18 := Fr.app N17 N18q
    obtain ⟨cq19, kq19, q19a, q19b, q19c⟩ := isOf hZ eh18 hp4
    obtain ⟨_, _, ⟨T19, L19, k19, n19⟩, -, X19, ⟨Lc19, hQ19, l19, y19, z19⟩, st19⟩ := X18.virtualBack hx (y := mN26) (z := mN26) hown (mvT hZ (hw _ w_144)) (mvT hZ (hw _ w_145)) (notFace_of_selects (args := #[]) (mvT hZ (hw _ w_147))) (mvT hZ (hw _ w_147)) (mvT hZ (hw _ w_146)) (by decide) (backOf (W := 0) (rmasbL1 l Z a0 hw [] b cz h0 n0 O0 Fk14 hp12 hcz) hZ (hw _ w_148) (hw _ w_38) (by decide) (by decide)) q19a q19c (g := (mkF m 16 #[vR a, vR b, .val .null, vR vb, vI (own_i cs.length)] [(.ref b)])) rfl (by rw [hml]; rfl) (Steps.refl _) (argsL := []) (rest := []) (lenOf pd___Z rfl) rfl (by show 2 * 0 + _ ≤ _; exact Nat.le_of_eq rfl) (hb hby d22_16) (fun _ _ => ⟨rfl, eh18, (by decide : 0 + 0 ≤ _), (by decide : 0 + 0 ≤ _)⟩)
    dsimp only [Pt.U, Pt.locs, Pt.cells, Pt.slots] at X19 l19 y19 z19 st19 hQ19
    subst l19 y19 z19
    obtain ⟨rfl, N19q, eh19⟩ := hQ19
    have N19 := Fr.app N18 N19q
    obtain ⟨T20, X20, e20, st20⟩ := getS2 X19 hx hZ hown (host := "") (Or.inl (hw _ w_67)) Via.refl eh19 (hp12.ext O0.2) (g := (mkF m 41 #[vR a, vR b, .val .null, vR vb, vI (own_i cs.length)] [])) rfl (hb hby d22_41)
    obtain ⟨T21, X21, e21, st21⟩ := getF X20 hx hZ hown (host := "") (Or.inl (hw _ w_293)) Via.refl e20 hp8 (g := (mkF m 48 #[vR a, vR b, .val .null, vR vb, vI (own_i cs.length)] [(.ref b)])) rfl rfl (hb hby d22_48)
    obtain ⟨T22, h22, X22, e22, W22, st22⟩ := putFN X21 hx hZ hown (hw _ w_21) Via.refl e21 hp3 hp0 (Or.inr ⟨(hw _ w_17), rfl, hnm⟩) (hw _ w_1) (ty := .byte) (v' := (.int 1)) (by decide) rfl rfl (g := (mkF m 81 #[vR a, vR b, .val .null, vR vb, vI (own_i cs.length)] [(.int 1), (.ref a)])) rfl rfl (hb hby d22_81)
    have Fw22 := hp3.same W22
    have N22 := Fr.snoc X22 N19 hp1
    have O22 : Old Z n0 h22 := O0.wr W22 hp1
    have K22 : Keep h0 h22 [a] := (Keep.refl h0 [a]).wr W22 (Or.inl (List.mem_of_getElem? (i := 0) rfl))
    have pre23 := fun tg_ (kt_ : Steps p.tables e below (T22.setTop (mkF m 91 #[vR a, vR b, .val .null, vR vb, vI (own_i cs.length)] [(.int ((own_i cs.length) <<< ((1 : Int32) &&& 31))), (.int 0), (.ref vb), (.ref a)])) tg_) => pre0 tg_ (by
      refine XS.aloadN X0.here hx rfl (hb hby d22_0) rfl rfl ?_
      refine st16 _ ?_
      refine XS.aloadN X16.here hx rfl (hb hby d22_4) rfl rfl ?_
      refine st17.trans ?_
      refine XS.astoreN X17.here hx rfl (hb hby d22_8) rfl rfl (l' := #[vR a, vR b, .val .null, vR vb, .unset]) rfl ?_
      refine XS.aloadN X17.here hx rfl (hb hby d22_9) rfl rfl ?_
      refine st18.trans ?_
      refine XS.istore X18.here hx rfl (hb hby d22_13) rfl (l' := #[vR a, vR b, .val .null, vR vb, vI (own_i cs.length)]) rfl ?_
      refine XS.aloadN X18.here hx rfl (hb hby d22_15) rfl rfl ?_
      refine st19.trans ?_
      refine XS.ifYes X19.here hx rfl (pc0 := 19) (pc' := 41) rfl (hb hby d22_19) rfl ((if0 _ _).trans (teq (by decide : (0 : Int32) = (0 : Int32))).1) (by decide) (by decide) ?_
      show Steps _ _ _ (T19.setTop (mkF m 41 #[vR a, vR b, .val .null, vR vb, vI (own_i cs.length)] [])) _
      refine st20 _ ?_
      refine XS.ifNo X20.here hx rfl (hb hby d22_44) rfl ((if0 _ _).trans (feq hcz).1) ?_
      refine XS.aloadN X20.here hx rfl (hb hby d22_47) rfl rfl ?_
      refine st21 _ ?_
      refine XS.ifYes X21.here hx rfl (pc0 := 51) (pc' := 79) rfl (hb hby d22_51) rfl ((if0 _ _).trans (teq (by decide : (0 : Int32) = (0 : Int32))).1) (by decide) (by decide) ?_
      refine XS.aloadN X21.here hx rfl (hb hby d22_79) rfl rfl ?_
      refine XS.iconst X21.here hx rfl (hb hby d22_80) ?_
      refine st22 _ ?_
      refine XS.aloadN X22.here hx rfl (hb hby d22_84) rfl rfl ?_
      refine XS.aloadN X22.here hx rfl (hb hby d22_85) rfl rfl ?_
      refine XS.iconst X22.here hx rfl (hb hby d22_86) ?_
      refine XS.iload X22.here hx rfl (hb hby d22_87) rfl ?_
      refine XS.iconst X22.here hx rfl (hb hby d22_89) ?_
      refine XS.ishl X22.here hx rfl (hb hby d22_90) rfl ?_
      exact kt_)
    have pre24 := fun tg_ (kt_ : Steps p.tables e below (T22.setTop (mkF m 91 #[vR a, vR b, .val .null, vR vb, vI (own_i cs.length)] [(.int (own_i (2 * cs.length))), (.int 0), (.ref vb), (.ref a)])) tg_) => pre23 tg_ (by
      rw [show ((own_i cs.length) <<< ((1 : Int32) &&& 31)) = (own_i (2 * cs.length)) from own_shl1 _]
      exact kt_)
    obtain ⟨_, _, ⟨T25, L25, k25, n25⟩, -, X25, ⟨Lc25, hQ25, l25, y25, z25⟩, st25⟩ := Jvm.LawKit.callS X22 hx (y := mN37) hown (mvT hZ (hw _ w_149)) (mvT hZ (hw _ w_150)) (mvT hZ (hw _ w_92)) (mvT hZ (hw _ w_151)) (by decide) (backOf (W := 1) (rmcopyR l Z a0 hw [] vb 0 (2 * cs.length) kv (2 * cp) (own_e1 cs) h22 n0 O22 (Fk15.other W22 (Ne.symm (own_neArv hp0 (hw _ w_1) Fk15))) (Nat.zero_le _) (by omega) (by omega) (Nat.le_of_eq (by rw [own_e1len])) (by omega)) hZ (hw _ w_151) (hw _ w_92) (by decide) (by decide)) (g := (mkF m 91 #[vR a, vR b, .val .null, vR vb, vI (own_i cs.length)] [(.int (own_i (2 * cs.length))), (.int 0), (.ref vb), (.ref a)])) rfl (by rw [hml]; rfl) (argsL := [(.ref vb), (.int 0), (.int (own_i (2 * cs.length)))]) (rest := [(.ref a)]) (lenOf pd__ABII_AB rfl) rfl (by show 2 * 0 + _ ≤ _; exact Nat.le_of_eq rfl) (hb hby d22_91) (fun _ _ => ⟨rfl, e22, (by decide : 0 + 1 ≤ _), (by decide : 0 + 160 ≤ _)⟩)
    dsimp only [Pt.U, Pt.locs, Pt.cells, Pt.slots] at X25 l25 y25 z25 st25 hQ25
    subst l25 y25 z25
    obtain ⟨r_25, kr_25, rfl, N25q, Kc25, r25_1, r25_2⟩ := hQ25
    have N25 := Fr.app N22 N25q
    have sz26 : h0.size ≤ r_25 := Nat.le_trans K22.1 r25_1
    have gn26 : n0 ≤ r_25 := Nat.le_trans Z0 sz26
    have O25 : Old Z n0 T25.heap := O22.keep Kc25 all0
    have K25 : Keep h0 T25.heap [a] := K22.trans Kc25 all0
    have Vr28 : Arv Z T25.heap r_25 kr_25 .byte (own_i (2 * cs.length)) ((own_e1 cs).map Value.int) (.int 0) := by
      have q := r25_2
      rw [Nat.sub_zero, List.drop_zero, List.take_of_length_le (Nat.le_of_eq (by rw [own_e1len]))] at q; exact q
    obtain ⟨T29, h29, X29, e29, W29, st29⟩ := putF X25 hx hZ hown (host := "") (Or.inl (hw _ w_20)) Via.refl rfl ((hp2.other W22 (Or.inr (slot_ne (Or.inr (hw _ w_16)) (Or.inr (hw _ w_17)) (by decide) (t := (.array .byte)) (t' := .byte) (by decide) (by decide)))).keep Kc25 nin0) ((hp0.wr W22).keep Kc25) (Or.inr ⟨(hw _ w_16), rfl, hnm⟩) (hw _ w_1) (ty := (.array .byte)) (by decide) rfl rfl (g := (mkF m 94 #[vR a, vR b, .val .null, vR vb, vI (own_i cs.length)] [(.ref r_25), (.ref a)])) rfl rfl (hb hby d22_94)
    have Fw29 := ((hp2.other W22 (Or.inr (slot_ne (Or.inr (hw _ w_16)) (Or.inr (hw _ w_17)) (by decide) (t := (.array .byte)) (t' := .byte) (by decide) (by decide)))).keep Kc25 nin0).same W29
    have N29 := Fr.snoc X29 N25 hp1
    have O29 : Old Z n0 h29 := O25.wr W29 hp1
    have K29 : Keep h0 h29 [a] := K25.wr W29 (Or.inl (List.mem_of_getElem? (i := 0) rfl))
    obtain ⟨fs, hr, hrun, hended, hW, hsame⟩ := X29.leave (v := none) (fun _ => rfl)
    refine ⟨_, _, pre24 _ ?_, hrun, hended, _, _, rfl, ?_, ⟨_, rfl⟩, hW, hsame.mono (by decide) (by decide)⟩
    · show Steps _ _ _ (T22.setTop (mkF m 91 #[vR a, vR b, .val .null, vR vb, vI (own_i cs.length)] [(.int (own_i (2 * cs.length))), (.int 0), (.ref vb), (.ref a)])) _
      refine st25 _ ?_
      refine st29 _ ?_
      exact X29.returnOut hx Bd.returns (hb hby d22_97) hr
    · show QstrSB2 Z a b cz vb kv cs cp u1 u2 h0 n0 _ T29.heap _
      rw [e29]
      exact ⟨r_25, kr_25, rfl, N29, K29, sz26, (((hp0.wr W22).keep Kc25).wr W29), Fw29, (by rw [ec1]; exact ((Fw22.keep Kc25 nin0).other W29 (Or.inr (slot_ne (Or.inr (hw _ w_17)) (Or.inr (hw _ w_16)) (by decide) (t := .byte) (t' := (.array .byte)) (by decide) (by decide))))), (by rw [ec1]; exact (Vr28.other W29 (Ne.symm (Nat.ne_of_lt (Nat.lt_of_lt_of_le (hp0.wr W22).lt r25_1)))))⟩
abbrev c21_ := jdk_42_method_53_code
theorem d21_0 : decode c21_ 0 = .ok (.aload_n 0, 1) := by decide +kernel
theorem d21_1 : decode c21_ 1 = .ok (.aload_n 1, 1) := by decide +kernel
theorem d21_2 : decode c21_ 2 = .ok (.aconst_null, 1) := by decide +kernel
theorem w_128 : (Cond.methodLink "java/lang/String" (489 : Nat) mN41) ∈ tables_1 := List.mem_of_getElem? (i := 128) (by decide +kernel)
theorem w_130 : (Cond.code mN41 jdk_42_method_150_code (5 : Nat) (Option.none : Option Jvm.ClassFile.FieldType)) ∈ tables_1 := List.mem_of_getElem? (i := 130) (by decide +kernel)
theorem pd__Ljava_lang_AbstractStringBuilder_Ljava_lang_Void__V : parseMethodDescriptor "(Ljava/lang/AbstractStringBuilder;Ljava/lang/Void;)V" = some ⟨[(.object "java/lang/AbstractStringBuilder"), (.object "java/lang/Void")], none⟩ := by decide +kernel
theorem d21_3 : decode c21_ 3 = .ok (.invokespecial 489, 3) := by decide +kernel
theorem w_129 : (Cond.instanceMethod mN41) ∈ tables_1 := List.mem_of_getElem? (i := 129) (by decide +kernel)
theorem d21_6 : decode c21_ 6 = .ok (.return_, 1) := by decide +kernel
abbrev mN42 : MethodName := ⟨"java/lang/String", "<init>", "(Ljava/lang/StringBuilder;)V"⟩
theorem ef_strSB1 (m : MethodId) (x0 : Addr) (x1 : Addr) : entryFrame m #[(.ref x0), (.ref x1)] 2 = mkF m 0 #[vR x0, vR x1] [] := by first | (simp [entryFrame, mkF, argsToLocals, Value.category]; done) | rfl
def QstrSB1 (Z : State) (a : Addr) (b : Addr) (cz : Int32) (vb : Addr) (kv : ClassId) (cs : List Int32) (cp : Nat) (u1 : Value) (u2 : Value) (h0 : Heap) (n0 : Nat) (v : Option Value) (h : Heap) (L : List Loc) : Prop := ∃ (t : Addr), ∃ (kt : ClassId), v = none ∧ Fr n0 L ∧ Keep h0 h [a] ∧ h0.size ≤ t ∧ Exa Z h a "java/lang/String" ∧ Fld Z h a "java/lang/String" "value" "[B" (.ref t) ∧ Fld Z h a "java/lang/String" "coder" "B" (.int (own_i (own_cd cs))) ∧ Arv Z h t kt .byte (own_i (own_wd (own_cd cs) cs.length)) ((own_enc (own_cd cs) cs).map Value.int) (.int 0)
set_option maxRecDepth 65536 in
set_option maxHeartbeats 40000000 in
theorem rmstrSB1 (l : Launch) (Z : State) (a0 : Array Value) (hw : ∀ d ∈ tables_1, d.before a0 Z = true) (ws : List Jvm.Cond) (a : Addr) (b : Addr) (cz : Int32) (vb : Addr) (kv : ClassId) (cs : List Int32) (cp : Nat) (u1 : Value) (u2 : Value) (h0 : Heap) (n0 : Nat) (O0 : Old Z n0 h0) (hp0 : Exa Z h0 a "java/lang/String") (hp1 : n0 ≤ a) (hp2 : Fld Z h0 a "java/lang/String" "value" "[B" u1) (hp3 : Fld Z h0 a "java/lang/String" "coder" "B" u2) (hp4 : Exa Z h0 b "java/lang/StringBuilder") (hp5 : Fld Z h0 b "java/lang/AbstractStringBuilder" "value" "[B" (.ref vb)) (hp6 : Fld Z h0 b "java/lang/AbstractStringBuilder" "coder" "B" (.int (own_i (own_cd cs)))) (hp7 : Fld Z h0 b "java/lang/AbstractStringBuilder" "count" "I" (.int (own_i cs.length))) (hp8 : Fld Z h0 b "java/lang/AbstractStringBuilder" "maybeLatin1" "Z" (.int 0)) (hp9 : Arv Z h0 vb kv .byte (own_i (own_wd (own_cd cs) cp)) ((own_enc (own_cd cs) cs).map Value.int) (.int 0)) (hlc : (cs.length < cp)) (hcp : (cp ≤ 80)) (hp12 : Sta Z Z.heap "java/lang/String" "COMPACT_STRINGS" "Z" (.int cz)) (hcz : (¬ (cz = (0 : Int32)))) :
    MetFree l mN42 (head1 (Jvm.Cond.code mN42 jdk_42_method_53_code 2 none :: ws) ({ frames := 4, cells := 1, slots := 160, locals := 98 } : Room)) (fun as_ U => as_ = #[(.ref a), (.ref b)] ∧ Z.Warmed39 U.vm ∧ U.heap = h0) (fun _ _ _ _ _ => True) (fun _ U o U' => ∃ v L, o = .returned v ∧ QstrSB1 Z a b cz vb kv cs cp u1 u2 h0 n0 v U'.heap L ∧ FrameEnd U o U' L ({ frames := 4, cells := 1, slots := 160, locals := 98 } : Room).cells ({ frames := 4, cells := 1, slots := 160, locals := 98 } : Room).slots) := by
  refine MetFree.of_bodySF (plainFor_of_name pn_java_lang_String) hisR ?_
  intro p e s m args below meth c s₁ Bd hml0 hP hK
  obtain ⟨rfl, hZ, hh⟩ := hP
  have hx := Bd.exec
  have hby := Bd.bytes
  have hml : c.maxLocals = 2 := hml0
  have hown : s.vm.findClass "java/lang/String" = some m.cls := findClass_of_methodNamed Bd.named
  have hnm := (name_of_methodNamed Bd.named Bd.method).1
  have X0 : Stand p l e ({ frames := 4, cells := 1, slots := 160, locals := 98 } : Room) s m #[(.ref a), (.ref b)] below meth c s₁ [] 0 0 := Stand.of_body Bd
  have e0 : s₁.heap = h0 := by rw [← hh, Bd.state]; rfl
  have N0 := Fr.nil n0
  have Z0 := own_z0 O0
  have pre0 : ∀ tg_, Steps p.tables e below (s₁.setTop (mkF m 0 #[vR a, vR b] [])) tg_ → Steps p.tables e below (s₁.setTop (entryFrame m #[(.ref a), (.ref b)] 2)) tg_ := fun tg_ kt_ => castTop (ef_strSB1 m a b) kt_
  obtain ⟨_, _, ⟨T1, L1, k1, n1⟩, -, X1, ⟨Lc1, hQ1, l1, y1, z1⟩, st1⟩ := X0.specialBack hx (y := mN41) rfl hown (mvT hZ (hw _ w_128)) (mvT hZ (hw _ w_129)) (mvT hZ (hw _ w_130)) (by decide) (backOf (W := 0) (rmstrSB2 l Z a0 hw [] a b cz vb kv cs cp u1 u2 h0 n0 O0 hp0 hp1 hp2 hp3 hp4 hp5 hp6 hp7 hp8 hp9 hlc hcp hp12 hcz) hZ (hw _ w_130) (hw _ w_2) (by decide) (by decide)) (g := (mkF m 3 #[vR a, vR b] [.null, (.ref b), (.ref a)])) rfl (by rw [hml]; rfl) (Steps.refl _) (a := a) (argsL := [(.ref b), .null]) (rest := []) (lenOf pd__Ljava_lang_AbstractStringBuilder_Ljava_lang_Void__V rfl) rfl (by show 2 * 0 + _ ≤ _; exact Nat.le_of_eq rfl) (hb hby d21_3) (fun _ _ => ⟨rfl, e0, (by decide : 0 + 1 ≤ _), (by decide : 0 + 160 ≤ _)⟩)
  dsimp only [Pt.U, Pt.locs, Pt.cells, Pt.slots] at X1 l1 y1 z1 st1 hQ1
  subst l1 y1 z1
  obtain ⟨t_1, kt_1, rfl, N1q, Kc1, r1_1, r1_2, r1_3, r1_4, r1_5⟩ := hQ1
  have N1 := Fr.app N0 N1q
  have sz2 : h0.size ≤ t_1 := Nat.le_trans (Keep.refl h0 [a]).1 r1_1
  have gn2 : n0 ≤ t_1 := Nat.le_trans Z0 sz2
  have O1 : Old Z n0 T1.heap := O0.keep Kc1 (allS hp1 all0)
  have K1 : Keep h0 T1.heap [a] := (Keep.refl h0 [a]).trans Kc1 (allS (Or.inl (List.mem_of_getElem? (i := 0) rfl)) all0)
  obtain ⟨fs, hr, hrun, hended, hW, hsame⟩ := X1.leave (v := none) (fun _ => rfl)
  refine ⟨_, _, pre0 _ ?_, hrun, hended, _, _, rfl, ?_, ⟨_, rfl⟩, hW, hsame.mono (by decide) (by decide)⟩
  · refine XS.aloadN X0.here hx rfl (hb hby d21_0) rfl rfl ?_
    refine XS.aloadN X0.here hx rfl (hb hby d21_1) rfl rfl ?_
    refine XS.aconstNull X0.here hx rfl (hb hby d21_2) ?_
    refine st1.trans ?_
    exact X1.returnOut hx Bd.returns (hb hby d21_6) hr
  · show QstrSB1 Z a b cz vb kv cs cp u1 u2 h0 n0 _ T1.heap _
    exact ⟨t_1, kt_1, rfl, N1, K1, sz2, r1_2, r1_3, r1_4, r1_5⟩
theorem w_124 : (Cond.classLink "java/lang/StringBuilder" (18 : Nat) "java/lang/String") ∈ tables_1 := List.mem_of_getElem? (i := 124) (by decide +kernel)
abbrev c20_ := jdk_67_method_42_code
theorem d20_0 : decode c20_ 0 = .ok (.new 18, 3) := by decide +kernel
theorem d20_3 : decode c20_ 3 = .ok (.dup, 1) := by decide +kernel
theorem d20_4 : decode c20_ 4 = .ok (.aload_n 0, 1) := by decide +kernel
theorem w_125 : (Cond.methodLink "java/lang/StringBuilder" (137 : Nat) mN42) ∈ tables_1 := List.mem_of_getElem? (i := 125) (by decide +kernel)
theorem w_127 : (Cond.code mN42 jdk_42_method_53_code (2 : Nat) (Option.none : Option Jvm.ClassFile.FieldType)) ∈ tables_1 := List.mem_of_getElem? (i := 127) (by decide +kernel)
theorem pd__Ljava_lang_StringBuilder__V : parseMethodDescriptor "(Ljava/lang/StringBuilder;)V" = some ⟨[(.object "java/lang/StringBuilder")], none⟩ := by decide +kernel
theorem d20_5 : decode c20_ 5 = .ok (.invokespecial 137, 3) := by decide +kernel
theorem w_126 : (Cond.instanceMethod mN42) ∈ tables_1 := List.mem_of_getElem? (i := 126) (by decide +kernel)
theorem d20_8 : decode c20_ 8 = .ok (.areturn, 1) := by decide +kernel
abbrev mN43 : MethodName := ⟨"java/lang/StringBuilder", "toString", "()Ljava/lang/String;"⟩
theorem ef_sbStr (m : MethodId) (x0 : Addr) : entryFrame m #[(.ref x0)] 1 = mkF m 0 #[vR x0] [] := by first | (simp [entryFrame, mkF, argsToLocals, Value.category]; done) | rfl
def QsbStr (Z : State) (b : Addr) (cz : Int32) (vb : Addr) (kv : ClassId) (cs : List Int32) (cp : Nat) (h0 : Heap) (n0 : Nat) (v : Option Value) (h : Heap) (L : List Loc) : Prop := ∃ (a : Addr), ∃ (t : Addr), ∃ (kt : ClassId), v = some (.ref a) ∧ Fr n0 L ∧ Keep h0 h [] ∧ h0.size ≤ a ∧ h0.size ≤ t ∧ Exa Z h a "java/lang/String" ∧ Fld Z h a "java/lang/String" "value" "[B" (.ref t) ∧ Fld Z h a "java/lang/String" "coder" "B" (.int (own_i (own_cd cs))) ∧ Arv Z h t kt .byte (own_i (own_wd (own_cd cs) cs.length)) ((own_enc (own_cd cs) cs).map Value.int) (.int 0)
set_option maxRecDepth 65536 in
set_option maxHeartbeats 40000000 in
theorem rmsbStr (l : Launch) (Z : State) (a0 : Array Value) (hw : ∀ d ∈ tables_1, d.before a0 Z = true) (ws : List Jvm.Cond) (b : Addr) (cz : Int32) (vb : Addr) (kv : ClassId) (cs : List Int32) (cp : Nat) (h0 : Heap) (n0 : Nat) (O0 : Old Z n0 h0) (hp0 : Exa Z h0 b "java/lang/StringBuilder") (hp1 : Fld Z h0 b "java/lang/AbstractStringBuilder" "value" "[B" (.ref vb)) (hp2 : Fld Z h0 b "java/lang/AbstractStringBuilder" "coder" "B" (.int (own_i (own_cd cs)))) (hp3 : Fld Z h0 b "java/lang/AbstractStringBuilder" "count" "I" (.int (own_i cs.length))) (hp4 : Fld Z h0 b "java/lang/AbstractStringBuilder" "maybeLatin1" "Z" (.int 0)) (hp5 : Arv Z h0 vb kv .byte (own_i (own_wd (own_cd cs) cp)) ((own_enc (own_cd cs) cs).map Value.int) (.int 0)) (hlc : (cs.length < cp)) (hcp : (cp ≤ 80)) (hp8 : Sta Z Z.heap "java/lang/String" "COMPACT_STRINGS" "Z" (.int cz)) (hcz : (¬ (cz = (0 : Int32)))) :
    MetFree l mN43 (head1 (Jvm.Cond.code mN43 jdk_67_method_42_code 1 (some (.object "java/lang/String")) :: ws) ({ frames := 5, cells := 2, slots := 164, locals := 112 } : Room)) (fun as_ U => as_ = #[(.ref b)] ∧ Z.Warmed39 U.vm ∧ U.heap = h0) (fun _ _ _ _ _ => True) (fun _ U o U' => ∃ v L, o = .returned v ∧ QsbStr Z b cz vb kv cs cp h0 n0 v U'.heap L ∧ FrameEnd U o U' L ({ frames := 5, cells := 2, slots := 164, locals := 112 } : Room).cells ({ frames := 5, cells := 2, slots := 164, locals := 112 } : Room).slots) := by
  refine MetFree.of_bodySF (plainFor_of_name pn_java_lang_StringBuilder) hisR ?_
  intro p e s m args below meth c s₁ Bd hml0 hP hK
  obtain ⟨rfl, hZ, hh⟩ := hP
  have hx := Bd.exec
  have hby := Bd.bytes
  have hml : c.maxLocals = 1 := hml0
  have hown : s.vm.findClass "java/lang/StringBuilder" = some m.cls := findClass_of_methodNamed Bd.named
  have hnm := (name_of_methodNamed Bd.named Bd.method).1
  have X0 : Stand p l e ({ frames := 5, cells := 2, slots := 164, locals := 112 } : Room) s m #[(.ref b)] below meth c s₁ [] 0 0 := Stand.of_body Bd
  have e0 : s₁.heap = h0 := by rw [← hh, Bd.state]; rfl
  have N0 := Fr.nil n0
  have Z0 := own_z0 O0
  have pre0 : ∀ tg_, Steps p.tables e below (s₁.setTop (mkF m 0 #[vR b] [])) tg_ → Steps p.tables e below (s₁.setTop (entryFrame m #[(.ref b)] 1)) tg_ := fun tg_ kt_ => castTop (ef_sbStr m b) kt_
  obtain ⟨T1, h1, X1, e1, E1, A1, D1, U1, st1⟩ := newO X0 hx hZ hown (hw _ w_124) (hw _ w_1) (hw _ w_2) e0 (g := (mkF m 0 #[vR b] [])) rfl (hb hby d20_0) (by decide) (by decide)
  obtain ⟨b1, g1⟩ : ∃ z, z = h0.size := ⟨_, rfl⟩
  rw [← g1] at A1 D1 U1 st1
  have Un1 : Unt h1 b1 := U1
  have sz1 : h0.size ≤ b1 := Nat.le_trans (Keep.refl h0 []).1 (Nat.le_of_eq g1.symm)
  have gn1 : n0 ≤ b1 := Nat.le_trans Z0 sz1
  have O1 : Old Z n0 h1 := O0.ext E1
  have K1 : Keep h0 h1 [] := (Keep.refl h0 []).ext E1
  have F1_16 : Fld Z h1 b1 "java/lang/String" "value" "[B" .null := D1 (Or.inr (hw _ w_16)) (ty := (.array .byte)) (by decide)
  have F1_17 : Fld Z h1 b1 "java/lang/String" "coder" "B" (.int 0) := D1 (Or.inr (hw _ w_17)) (ty := .byte) (by decide)
  obtain ⟨_, _, ⟨T3, L3, k3, n3⟩, -, X3, ⟨Lc3, hQ3, l3, y3, z3⟩, st3⟩ := X1.specialBack hx (y := mN42) rfl hown (mvT hZ (hw _ w_125)) (mvT hZ (hw _ w_126)) (mvT hZ (hw _ w_127)) (by decide) (backOf (W := 1) (rmstrSB1 l Z a0 hw [] b1 b cz vb kv cs cp .null (.int 0) h1 n0 O1 A1 gn1 F1_16 F1_17 (hp0.ext E1) (hp1.ext E1) (hp2.ext E1) (hp3.ext E1) (hp4.ext E1) (hp5.ext E1) hlc hcp hp8 hcz) hZ (hw _ w_127) (hw _ w_2) (by decide) (by decide)) (g := (mkF m 5 #[vR b] [(.ref b), (.ref b1), (.ref b1)])) rfl (by rw [hml]; rfl) (Steps.refl _) (a := b1) (argsL := [(.ref b)]) (rest := [(.ref b1)]) (lenOf pd__Ljava_lang_StringBuilder__V rfl) rfl (by show 2 * 0 + _ ≤ _; exact Nat.le_of_eq rfl) (hb hby d20_5) (fun _ _ => ⟨rfl, e1, (by decide : 1 + 1 ≤ _), (by decide : 4 + 160 ≤ _)⟩)
  dsimp only [Pt.U, Pt.locs, Pt.cells, Pt.slots] at X3 l3 y3 z3 st3 hQ3
  subst l3 y3 z3
  obtain ⟨t_3, kt_3, rfl, N3q, Kc3, r3_1, r3_2, r3_3, r3_4, r3_5⟩ := hQ3
  have N3 := Fr.app N0 N3q
  have sz4 : h0.size ≤ t_3 := Nat.le_trans K1.1 r3_1
  have gn4 : n0 ≤ t_3 := Nat.le_trans Z0 sz4
  have O3 : Old Z n0 T3.heap := O1.keep Kc3 (allS gn1 all0)
  have K3 : Keep h0 T3.heap [] := K1.trans Kc3 (allS (Or.inr sz1) all0)
  obtain ⟨fs, hr, hrun, hended, hW, hsame⟩ := X3.leave (v := some (.ref b1)) (fun h => by rw [Bd.returns] at h; cases h)
  refine ⟨_, _, pre0 _ ?_, hrun, hended, _, _, rfl, ?_, ⟨_, rfl⟩, hW, hsame.mono (by decide) (by decide)⟩
  · refine st1 _ ?_
    refine XS.dup X1.here hx rfl (hb hby d20_3) rfl rfl ?_
    refine XS.aloadN X1.here hx rfl (hb hby d20_4) rfl rfl ?_
    refine st3.trans ?_
    jvm_step X3.here [X3.here.top, hx, (hb hby d20_8), X3.method', Bd.returns, Value.isRef, FieldType.isReference]
    first | (intro acts; rw [hr _ acts rfl rfl rfl]) | rw [hr _ _ rfl rfl rfl]
    exact Steps.refl _
  · show QsbStr Z b cz vb kv cs cp h0 n0 _ T3.heap _
    exact ⟨b1, t_3, kt_3, rfl, N3, K3, sz1, sz4, r3_2, r3_3, r3_4, r3_5⟩
abbrev c39_ := jdk_43_method_13_code
theorem d39_9 : decode c39_ 9 = .ok (.iload_n 2, 1) := by decide +kernel
theorem d39_10 : decode c39_ 10 = .ok (.aload_n 0, 1) := by decide +kernel
theorem d39_11 : decode c39_ 11 = .ok (.arraylength, 1) := by decide +kernel
theorem d39_12 : decode c39_ 12 = .ok (.if_icmp .ge 20, 3) := by decide +kernel
theorem d39_15 : decode c39_ 15 = .ok (.aload_n 0, 1) := by decide +kernel
theorem d39_16 : decode c39_ 16 = .ok (.iload_n 2, 1) := by decide +kernel
theorem d39_17 : decode c39_ 17 = .ok (.baload, 1) := by decide +kernel
theorem d39_18 : decode c39_ 18 = .ok (.aload_n 1, 1) := by decide +kernel
theorem d39_19 : decode c39_ 19 = .ok (.iload_n 2, 1) := by decide +kernel
theorem d39_20 : decode c39_ 20 = .ok (.baload, 1) := by decide +kernel
theorem d39_21 : decode c39_ 21 = .ok (.if_icmp .eq 5, 3) := by decide +kernel
theorem d39_26 : decode c39_ 26 = .ok (.iinc 2 1, 3) := by decide +kernel
theorem d39_29 : decode c39_ 29 = .ok (.goto (-20), 3) := by decide +kernel
theorem d39_32 : decode c39_ 32 = .ok (.iconst 1, 1) := by decide +kernel
theorem d39_33 : decode c39_ 33 = .ok (.ireturn, 1) := by decide +kernel
theorem d39_0 : decode c39_ 0 = .ok (.aload_n 0, 1) := by decide +kernel
theorem d39_1 : decode c39_ 1 = .ok (.arraylength, 1) := by decide +kernel
theorem d39_2 : decode c39_ 2 = .ok (.aload_n 1, 1) := by decide +kernel
theorem d39_3 : decode c39_ 3 = .ok (.arraylength, 1) := by decide +kernel
theorem d39_4 : decode c39_ 4 = .ok (.if_icmp .ne 30, 3) := by decide +kernel
theorem d39_7 : decode c39_ 7 = .ok (.iconst 0, 1) := by decide +kernel
theorem d39_8 : decode c39_ 8 = .ok (.istore_n 2, 1) := by decide +kernel
abbrev mN44 : MethodName := ⟨"java/lang/StringLatin1", "equals", "([B[B)Z"⟩
theorem ef_l1eq (m : MethodId) (x0 : Addr) (x1 : Addr) : entryFrame m #[(.ref x0), (.ref x1)] 3 = mkF m 0 #[vR x0, vR x1, .unset] [] := by first | (simp [entryFrame, mkF, argsToLocals, Value.category]; done) | rfl
def Ql1eq (Z : State) (t : Addr) (r : Addr) (kt : ClassId) (kr : ClassId) (n : Nat) (xs : List Int32) (h0 : Heap) (n0 : Nat) (v : Option Value) (h : Heap) (L : List Loc) : Prop := v = some (.int 1) ∧ Fr n0 L ∧ h = h0
set_option maxRecDepth 65536 in
set_option maxHeartbeats 40000000 in
theorem rml1eq (l : Launch) (Z : State) (a0 : Array Value) (hw : ∀ d ∈ tables_1, d.before a0 Z = true) (ws : List Jvm.Cond) (t : Addr) (r : Addr) (kt : ClassId) (kr : ClassId) (n : Nat) (xs : List Int32) (h0 : Heap) (n0 : Nat) (O0 : Old Z n0 h0) (hp0 : Arv Z h0 t kt .byte (own_i n) (xs.map Value.int) (.int 0)) (hp1 : Arv Z h0 r kr .byte (own_i n) (xs.map Value.int) (.int 0)) (hn : (n ≤ 1000)) :
    MetFree l mN44 (head1 (Jvm.Cond.code mN44 jdk_43_method_13_code 3 (some .boolean) :: ws) ({ frames := 0, cells := 0, slots := 0, locals := 0 } : Room)) (fun as_ U => as_ = #[(.ref t), (.ref r)] ∧ Z.Warmed39 U.vm ∧ U.heap = h0) (fun _ _ _ _ _ => True) (fun _ U o U' => ∃ v L, o = .returned v ∧ Ql1eq Z t r kt kr n xs h0 n0 v U'.heap L ∧ FrameEnd U o U' L ({ frames := 0, cells := 0, slots := 0, locals := 0 } : Room).cells ({ frames := 0, cells := 0, slots := 0, locals := 0 } : Room).slots) := by
  refine MetFree.of_bodySF (plainFor_of_name pn_java_lang_StringLatin1) hisR ?_
  intro p e s m args below meth c s₁ Bd hml0 hP hK
  obtain ⟨rfl, hZ, hh⟩ := hP
  have hx := Bd.exec
  have hby := Bd.bytes
  have hml : c.maxLocals = 3 := hml0
  have hown : s.vm.findClass "java/lang/StringLatin1" = some m.cls := findClass_of_methodNamed Bd.named
  have hnm := (name_of_methodNamed Bd.named Bd.method).1
  have X0 : Stand p l e ({ frames := 0, cells := 0, slots := 0, locals := 0 } : Room) s m #[(.ref t), (.ref r)] below meth c s₁ [] 0 0 := Stand.of_body Bd
  have e0 : s₁.heap = h0 := by rw [← hh, Bd.state]; rfl
  have N0 := Fr.nil n0
  have Z0 := own_z0 O0
  have pre0 : ∀ tg_, Steps p.tables e below (s₁.setTop (mkF m 0 #[vR t, vR r, .unset] [])) tg_ → Steps p.tables e below (s₁.setTop (entryFrame m #[(.ref t), (.ref r)] 3)) tg_ := fun tg_ kt_ => castTop (ef_l1eq m t r) kt_
  refine own_loop (fun k_ G_ => ∀ (T_ : State) (L_ : List Loc) (i : Nat) (X_ : Stand p l e ({ frames := 0, cells := 0, slots := 0, locals := 0 } : Room) s m #[(.ref t), (.ref r)] below meth c T_ L_ 0 0) (e_ : T_.heap = h0) (N_ : Fr n0 L_) (hi : (i ≤ n)) (pre_ : ∀ tg_, Steps p.tables e below (T_.setTop (mkF m 9 #[vR t, vR r, vI (own_i i)] [])) tg_ → Steps p.tables e below (s₁.setTop (entryFrame m #[(.ref t), (.ref r)] 3)) tg_) (hm_ : n - i = k_), G_) ?_ ?_
  · intro k_ IH_lp T_ L_ i X_ e_ N_ hi pre_ hm_
    obtain ⟨cl1, Ar1, -, S1, Ng1, -, -⟩ := id hp0
    have pre2 := fun tg_ (kt_ : Steps p.tables e below (T_.setTop (mkF m 12 #[vR t, vR r, vI (own_i i)] [(.int (own_i n)), (.int (own_i i))])) tg_) => pre_ tg_ (by
      refine XS.iloadN X_.here hx rfl (hb hby d39_9) rfl ?_
      refine XS.aloadN X_.here hx rfl (hb hby d39_10) rfl rfl ?_
      refine X_.arraylength hx (by rw [e_]; exact Ar1.1) (State.isArrayOf_alike hZ.alike Ar1.2.1) (g := (mkF m 11 #[vR t, vR r, vI (own_i i)] [(.ref t), (.int (own_i i))])) rfl rfl (hb hby d39_11) _ ?_
      rw [len_of S1 Ng1]
      exact kt_)
    by_cases hc3 : (own_i i) < (own_i n)
    · obtain ⟨cl4, Ar4, -, S4, Ng4, H4, G4⟩ := id hp0
      have hin4 : ¬ ((own_i i) < 0 ∨ cl4.slots.size ≤ ((own_i i)).toNatClampNeg) := inb_of S4 ⟨own_inn (by omega), hc3⟩
      have hat4 : cl4.slots[((own_i i)).toNatClampNeg]? = some (.int (xs.getD i 0)) := H4.at hin4 (own_gd xs (by omega))
      obtain ⟨cl5, Ar5, -, S5, Ng5, H5, G5⟩ := id hp1
      have hin5 : ¬ ((own_i i) < 0 ∨ cl5.slots.size ≤ ((own_i i)).toNatClampNeg) := inb_of S5 ⟨own_inn (by omega), hc3⟩
      have hat5 : cl5.slots[((own_i i)).toNatClampNeg]? = some (.int (xs.getD i 0)) := H5.at hin5 (own_gd xs (by omega))
      have pre6 := fun tg_ (kt_ : Steps p.tables e below (T_.setTop (mkF m 9 #[vR t, vR r, vI ((own_i i) + (1 : Int32))] [])) tg_) => pre2 tg_ (by
        refine XS.icmpNo X_.here hx rfl (hb hby d39_12) rfl (tlt hc3).2.1 ?_
        refine XS.aloadN X_.here hx rfl (hb hby d39_15) rfl rfl ?_
        refine XS.iloadN X_.here hx rfl (hb hby d39_16) rfl ?_
        refine X_.baloadBytes hx (j := (own_i i)) (v := (.int (xs.getD i 0))) (by rw [e_]; exact Ar4.1) (State.isArrayOf_alike hZ.alike Ar4.2.1) Ar4.2.2 hin4 hat4 (g := (mkF m 17 #[vR t, vR r, vI (own_i i)] [(.int (own_i i)), (.ref t)])) rfl rfl (hb hby d39_17) _ ?_
        refine XS.aloadN X_.here hx rfl (hb hby d39_18) rfl rfl ?_
        refine XS.iloadN X_.here hx rfl (hb hby d39_19) rfl ?_
        refine X_.baloadBytes hx (j := (own_i i)) (v := (.int (xs.getD i 0))) (by rw [e_]; exact Ar5.1) (State.isArrayOf_alike hZ.alike Ar5.2.1) Ar5.2.2 hin5 hat5 (g := (mkF m 20 #[vR t, vR r, vI (own_i i)] [(.int (own_i i)), (.ref r), (.int (xs.getD i 0))])) rfl rfl (hb hby d39_20) _ ?_
        refine XS.icmpYes X_.here hx rfl (pc0 := 21) (pc' := 26) rfl (hb hby d39_21) rfl (teq (rfl : (xs.getD i 0) = (xs.getD i 0))).1 (by decide) (by decide) ?_
        refine XS.iinc X_.here hx rfl (hb hby d39_26) rfl (l' := #[vR t, vR r, vI ((own_i i) + (1 : Int32))]) rfl ?_
        refine XS.goto X_.here hx rfl (pc0 := 29) (pc' := 9) rfl (hb hby d39_29) (by decide) (by decide) ?_
        exact kt_)
      have pre7 := fun tg_ (kt_ : Steps p.tables e below (T_.setTop (mkF m 9 #[vR t, vR r, vI (own_i (i + 1))] [])) tg_) => pre6 tg_ (by
        rw [show ((own_i i) + (1 : Int32)) = (own_i (i + 1)) from own_iadd i 1]
        exact kt_)
      exact IH_lp _ (by have z := (own_ilt (by omega) (by omega)).mp hc3; omega) T_ _ (i + 1) (Stand.more X_ (by decide) (by decide)) e_ N_ ((own_ilt (by omega) (by omega)).mp hc3) pre7 rfl
    · obtain ⟨fs, hr, hrun, hended, hW, hsame⟩ := X_.leave (v := some (.int 1)) (fun h => by rw [Bd.returns] at h; cases h)
      refine ⟨_, _, pre2 _ ?_, hrun, hended, _, _, rfl, ?_, ⟨_, rfl⟩, hW, hsame.mono (by decide) (by decide)⟩
      · refine XS.icmpYes X_.here hx rfl (pc0 := 12) (pc' := 32) rfl (hb hby d39_12) rfl (flt hc3).2.1 (by decide) (by decide) ?_
        refine XS.iconst X_.here hx rfl (hb hby d39_32) ?_
        exact retN X_ hx (t := .boolean) Bd.returns (by simp) (hb hby d39_33) hr
      · show Ql1eq Z t r kt kr n xs h0 n0 _ T_.heap _
        rw [e_]
        exact ⟨rfl, N_, rfl⟩
  · intro lp
    obtain ⟨cl8, Ar8, -, S8, Ng8, -, -⟩ := id hp0
    obtain ⟨cl9, Ar9, -, S9, Ng9, -, -⟩ := id hp1
    have pre10 := fun tg_ (kt_ : Steps p.tables e below (s₁.setTop (mkF m 9 #[vR t, vR r, vI 0] [])) tg_) => pre0 tg_ (by
      refine XS.aloadN X0.here hx rfl (hb hby d39_0) rfl rfl ?_
      refine X0.arraylength hx (by rw [e0]; exact Ar8.1) (State.isArrayOf_alike hZ.alike Ar8.2.1) (g := (mkF m 1 #[vR t, vR r, .unset] [(.ref t)])) rfl rfl (hb hby d39_1) _ ?_
      rw [len_of S8 Ng8]
      refine XS.aloadN X0.here hx rfl (hb hby d39_2) rfl rfl ?_
      refine X0.arraylength hx (by rw [e0]; exact Ar9.1) (State.isArrayOf_alike hZ.alike Ar9.2.1) (g := (mkF m 3 #[vR t, vR r, .unset] [(.ref r), (.int (own_i n))])) rfl rfl (hb hby d39_3) _ ?_
      rw [len_of S9 Ng9]
      refine XS.icmpNo X0.here hx rfl (hb hby d39_4) rfl (teq (rfl : (own_i n) = (own_i n))).2 ?_
      refine XS.iconst X0.here hx rfl (hb hby d39_7) ?_
      refine XS.istoreN X0.here hx rfl (hb hby d39_8) rfl (l' := #[vR t, vR r, vI 0]) rfl ?_
      exact kt_)
    exact lp _ s₁ _ 0 (Stand.more X0 (by decide) (by decide)) e0 N0 (Nat.zero_le _) pre10 rfl
abbrev c38_ := jdk_42_method_66_code
theorem d38_0 : decode c38_ 0 = .ok (.aload_n 0, 1) := by decide +kernel
theorem d38_1 : decode c38_ 1 = .ok (.aload_n 1, 1) := by decide +kernel
theorem d38_2 : decode c38_ 2 = .ok (.if_acmp .ne 5, 3) := by decide +kernel
theorem d38_5 : decode c38_ 5 = .ok (.iconst 1, 1) := by decide +kernel
theorem d38_6 : decode c38_ 6 = .ok (.ireturn, 1) := by decide +kernel
theorem d38_7 : decode c38_ 7 = .ok (.aload_n 1, 1) := by decide +kernel
theorem w_231 : (Cond.classLink "java/lang/String" (10 : Nat) "java/lang/String") ∈ tables_1 := List.mem_of_getElem? (i := 231) (by decide +kernel)
theorem d38_8 : decode c38_ 8 = .ok (.instanceof 10, 3) := by decide +kernel
theorem d38_11 : decode c38_ 11 = .ok (.ifCond .eq 43, 3) := by decide +kernel
theorem d38_14 : decode c38_ 14 = .ok (.aload_n 1, 1) := by decide +kernel
theorem d38_15 : decode c38_ 15 = .ok (.checkcast 10, 3) := by decide +kernel
theorem d38_18 : decode c38_ 18 = .ok (.astore_n 2, 1) := by decide +kernel
theorem d38_19 : decode c38_ 19 = .ok (.getstatic 38, 3) := by decide +kernel
theorem d38_22 : decode c38_ 22 = .ok (.ifCond .eq 14, 3) := by decide +kernel
theorem d38_25 : decode c38_ 25 = .ok (.aload_n 0, 1) := by decide +kernel
theorem d38_26 : decode c38_ 26 = .ok (.getfield 15, 3) := by decide +kernel
theorem d38_29 : decode c38_ 29 = .ok (.aload_n 2, 1) := by decide +kernel
theorem d38_30 : decode c38_ 30 = .ok (.getfield 15, 3) := by decide +kernel
theorem d38_33 : decode c38_ 33 = .ok (.if_icmp .ne 21, 3) := by decide +kernel
theorem d38_36 : decode c38_ 36 = .ok (.aload_n 0, 1) := by decide +kernel
theorem d38_37 : decode c38_ 37 = .ok (.getfield 9, 3) := by decide +kernel
theorem d38_40 : decode c38_ 40 = .ok (.aload_n 2, 1) := by decide +kernel
theorem d38_41 : decode c38_ 41 = .ok (.getfield 9, 3) := by decide +kernel
theorem w_232 : (Cond.methodLink "java/lang/String" (541 : Nat) mN44) ∈ tables_1 := List.mem_of_getElem? (i := 232) (by decide +kernel)
theorem w_235 : (Cond.code mN44 jdk_43_method_13_code (3 : Nat) (Option.some FieldType.boolean)) ∈ tables_1 := List.mem_of_getElem? (i := 235) (by decide +kernel)
theorem pd__ABAB_Z : parseMethodDescriptor "([B[B)Z" = some ⟨[(.array .byte), (.array .byte)], some .boolean⟩ := by decide +kernel
theorem d38_44 : decode c38_ 44 = .ok (.invokestatic 541, 3) := by decide +kernel
theorem w_233 : (Cond.static mN44) ∈ tables_1 := List.mem_of_getElem? (i := 233) (by decide +kernel)
theorem d38_47 : decode c38_ 47 = .ok (.ifCond .eq 7, 3) := by decide +kernel
theorem d38_50 : decode c38_ 50 = .ok (.iconst 1, 1) := by decide +kernel
theorem d38_51 : decode c38_ 51 = .ok (.goto 4, 3) := by decide +kernel
theorem d38_55 : decode c38_ 55 = .ok (.ireturn, 1) := by decide +kernel
abbrev mN45 : MethodName := ⟨"java/lang/String", "equals", "(Ljava/lang/Object;)Z"⟩
theorem ef_seqT (m : MethodId) (x0 : Addr) (x1 : Addr) : entryFrame m #[(.ref x0), (.ref x1)] 3 = mkF m 0 #[vR x0, vR x1, .unset] [] := by first | (simp [entryFrame, mkF, argsToLocals, Value.category]; done) | rfl
def QseqT (Z : State) (a : Addr) (e_ : Addr) (t : Addr) (kt : ClassId) (ds : List Int32) (t2 : Addr) (kt2 : ClassId) (cz : Int32) (h0 : Heap) (n0 : Nat) (v : Option Value) (h : Heap) (L : List Loc) : Prop := v = some (.int 1) ∧ Fr n0 L ∧ h = h0
set_option maxRecDepth 65536 in
set_option maxHeartbeats 40000000 in
theorem rmseqT (l : Launch) (Z : State) (a0 : Array Value) (hw : ∀ d ∈ tables_1, d.before a0 Z = true) (ws : List Jvm.Cond) (a : Addr) (e_ : Addr) (t : Addr) (kt : ClassId) (ds : List Int32) (t2 : Addr) (kt2 : ClassId) (cz : Int32) (h0 : Heap) (n0 : Nat) (O0 : Old Z n0 h0) (hp0 : Exa Z h0 a "java/lang/String") (hp1 : Fld Z h0 a "java/lang/String" "value" "[B" (.ref t)) (hp2 : Fld Z h0 a "java/lang/String" "coder" "B" (.int (own_i (own_cd ds)))) (hp3 : Arv Z h0 t kt .byte (own_i (own_wd (own_cd ds) ds.length)) ((own_enc (own_cd ds) ds).map Value.int) (.int 0)) (hp4 : Exa Z h0 e_ "java/lang/String") (hp5 : Fld Z h0 e_ "java/lang/String" "value" "[B" (.ref t2)) (hp6 : Fld Z h0 e_ "java/lang/String" "coder" "B" (.int (own_i (own_cd ds)))) (hp7 : Arv Z h0 t2 kt2 .byte (own_i (own_wd (own_cd ds) ds.length)) ((own_enc (own_cd ds) ds).map Value.int) (.int 0)) (hp8 : Sta Z Z.heap "java/lang/String" "COMPACT_STRINGS" "Z" (.int cz)) (hcz : (¬ (cz = (0 : Int32)))) (hdl : (ds.length ≤ 500)) :
    MetFree l mN45 (head1 (Jvm.Cond.code mN45 jdk_42_method_66_code 3 (some .boolean) :: ws) ({ frames := 1, cells := 0, slots := 0, locals := 14 } : Room)) (fun as_ U => as_ = #[(.ref a), (.ref e_)] ∧ Z.Warmed39 U.vm ∧ U.heap = h0) (fun _ _ _ _ _ => True) (fun _ U o U' => ∃ v L, o = .returned v ∧ QseqT Z a e_ t kt ds t2 kt2 cz h0 n0 v U'.heap L ∧ FrameEnd U o U' L ({ frames := 1, cells := 0, slots := 0, locals := 14 } : Room).cells ({ frames := 1, cells := 0, slots := 0, locals := 14 } : Room).slots) := by
  refine MetFree.of_bodySF (plainFor_of_name pn_java_lang_String) hisR ?_
  intro p e s m args below meth c s₁ Bd hml0 hP hK
  obtain ⟨rfl, hZ, hh⟩ := hP
  have hx := Bd.exec
  have hby := Bd.bytes
  have hml : c.maxLocals = 3 := hml0
  have hown : s.vm.findClass "java/lang/String" = some m.cls := findClass_of_methodNamed Bd.named
  have hnm := (name_of_methodNamed Bd.named Bd.method).1
  have X0 : Stand p l e ({ frames := 1, cells := 0, slots := 0, locals := 14 } : Room) s m #[(.ref a), (.ref e_)] below meth c s₁ [] 0 0 := Stand.of_body Bd
  have e0 : s₁.heap = h0 := by rw [← hh, Bd.state]; rfl
  have N0 := Fr.nil n0
  have Z0 := own_z0 O0
  have pre0 : ∀ tg_, Steps p.tables e below (s₁.setTop (mkF m 0 #[vR a, vR e_, .unset] [])) tg_ → Steps p.tables e below (s₁.setTop (entryFrame m #[(.ref a), (.ref e_)] 3)) tg_ := fun tg_ kt_ => castTop (ef_seqT m a e_) kt_
  have pre1 := fun tg_ (kt_ : Steps p.tables e below (s₁.setTop (mkF m 2 #[vR a, vR e_, .unset] [(.ref e_), (.ref a)])) tg_) => pre0 tg_ (by
    refine XS.aloadN X0.here hx rfl (hb hby d38_0) rfl rfl ?_
    refine XS.aloadN X0.here hx rfl (hb hby d38_1) rfl rfl ?_
    exact kt_)
  by_cases hc2 : a = e_
  · obtain ⟨fs, hr, hrun, hended, hW, hsame⟩ := X0.leave (v := some (.int 1)) (fun h => by rw [Bd.returns] at h; cases h)
    refine ⟨_, _, pre1 _ ?_, hrun, hended, _, _, rfl, ?_, ⟨_, rfl⟩, hW, hsame.mono (by decide) (by decide)⟩
    · refine Jvm.RoadKit.acmp (g := (mkF m 2 #[vR a, vR e_, .unset] [(.ref e_), (.ref a)])) X0 hx rfl rfl rfl (pc0 := 2) (pc' := 5) (same := true) rfl (hb hby d38_2) rfl (decide_eq_true (congrArg Value.ref hc2)) (by decide) (by decide) ?_
      refine XS.iconst X0.here hx rfl (hb hby d38_5) ?_
      exact retN X0 hx (t := .boolean) Bd.returns (by simp) (hb hby d38_6) hr
    · show QseqT Z a e_ t kt ds t2 kt2 cz h0 n0 _ s₁.heap _
      rw [e0]
      exact ⟨rfl, N0, rfl⟩
  · obtain ⟨T3, X3, e3, st3⟩ := instY X0 hx hZ hown (hw _ w_231) e0 (Ins.self hp4) (g := (mkF m 8 #[vR a, vR e_, .unset] [(.ref e_)])) rfl rfl (hb hby d38_8)
    obtain ⟨T4, X4, e4, st4⟩ := castY X3 hx hZ hown (hw _ w_231) e3 (Ins.self hp4) (g := (mkF m 15 #[vR a, vR e_, .unset] [(.ref e_)])) rfl rfl (hb hby d38_15)
    obtain ⟨T5, X5, e5, st5⟩ := getS2 X4 hx hZ hown (host := "") (Or.inl (hw _ w_67)) Via.refl e4 (hp8.ext O0.2) (g := (mkF m 19 #[vR a, vR e_, vR e_] [])) rfl (hb hby d38_19)
    obtain ⟨T6, X6, e6, st6⟩ := getF X5 hx hZ hown (host := "") (Or.inl (hw _ w_21)) Via.refl e5 hp2 (g := (mkF m 26 #[vR a, vR e_, vR e_] [(.ref a)])) rfl rfl (hb hby d38_26)
    obtain ⟨T7, X7, e7, st7⟩ := getF X6 hx hZ hown (host := "") (Or.inl (hw _ w_21)) Via.refl e6 hp6 (g := (mkF m 30 #[vR a, vR e_, vR e_] [(.ref e_), (.int (own_i (own_cd ds)))])) rfl rfl (hb hby d38_30)
    obtain ⟨T8, X8, e8, st8⟩ := getF X7 hx hZ hown (host := "") (Or.inl (hw _ w_20)) Via.refl e7 hp1 (g := (mkF m 37 #[vR a, vR e_, vR e_] [(.ref a)])) rfl rfl (hb hby d38_37)
    obtain ⟨T9, X9, e9, st9⟩ := getF X8 hx hZ hown (host := "") (Or.inl (hw _ w_20)) Via.refl e8 hp5 (g := (mkF m 41 #[vR a, vR e_, vR e_] [(.ref e_), (.ref t)])) rfl rfl (hb hby d38_41)
    obtain ⟨_, _, ⟨T10, L10, k10, n10⟩, -, X10, ⟨Lc10, hQ10, l10, y10, z10⟩, st10⟩ := Jvm.LawKit.callS X9 hx (y := mN44) hown (mvT hZ (hw _ w_232)) (mvT hZ (hw _ w_233)) (mvT hZ (hw _ w_234)) (mvT hZ (hw _ w_235)) (by decide) (backOf (W := 0) (rml1eq l Z a0 hw [] t t2 kt kt2 (own_wd (own_cd ds) ds.length) (own_enc (own_cd ds) ds) h0 n0 O0 hp3 hp7 (by have z := own_wd2 (k := own_cd ds) ds.length; omega)) hZ (hw _ w_235) (hw _ w_234) (by decide) (by decide)) (g := (mkF m 44 #[vR a, vR e_, vR e_] [(.ref t2), (.ref t)])) rfl (by rw [hml]; rfl) (argsL := [(.ref t), (.ref t2)]) (rest := []) (lenOf pd__ABAB_Z rfl) rfl (by show 2 * 0 + _ ≤ _; exact Nat.le_of_eq rfl) (hb hby d38_44) (fun _ _ => ⟨rfl, e9, (by decide : 0 + 0 ≤ _), (by decide : 0 + 0 ≤ _)⟩)
    dsimp only [Pt.U, Pt.locs, Pt.cells, Pt.slots] at X10 l10 y10 z10 st10 hQ10
    subst l10 y10 z10
    obtain ⟨rfl, N10q, eh10⟩ := hQ10
    have N10 := Fr.app N0 N10q
    obtain ⟨fs, hr, hrun, hended, hW, hsame⟩ := X10.leave (v := some (.int 1)) (fun h => by rw [Bd.returns] at h; cases h)
    refine ⟨_, _, pre1 _ ?_, hrun, hended, _, _, rfl, ?_, ⟨_, rfl⟩, hW, hsame.mono (by decide) (by decide)⟩
    · refine Jvm.RoadKit.acmp (g := (mkF m 2 #[vR a, vR e_, .unset] [(.ref e_), (.ref a)])) X0 hx rfl rfl rfl (pc0 := 2) (pc' := 7) (same := false) rfl (hb hby d38_2) rfl (decide_eq_false fun q => hc2 (Value.ref.inj q)) (by decide) (by decide) ?_
      refine XS.aloadN X0.here hx rfl (hb hby d38_7) rfl rfl ?_
      refine st3 _ ?_
      refine XS.ifNo X3.here hx rfl (hb hby d38_11) rfl ((if0 _ _).trans (feq (by decide : ¬ ((1 : Int32) = (0 : Int32)))).1) ?_
      refine XS.aloadN X3.here hx rfl (hb hby d38_14) rfl rfl ?_
      refine st4 _ ?_
      refine XS.astoreN X4.here hx rfl (hb hby d38_18) rfl rfl (l' := #[vR a, vR e_, vR e_]) rfl ?_
      refine st5 _ ?_
      refine XS.ifNo X5.here hx rfl (hb hby d38_22) rfl ((if0 _ _).trans (feq hcz).1) ?_
      refine XS.aloadN X5.here hx rfl (hb hby d38_25) rfl rfl ?_
      show Steps _ _ _ (T5.setTop (mkF m 26 #[vR a, vR e_, vR e_] [(.ref a)])) _
      refine st6 _ ?_
      refine XS.aloadN X6.here hx rfl (hb hby d38_29) rfl rfl ?_
      refine st7 _ ?_
      refine XS.icmpNo X7.here hx rfl (hb hby d38_33) rfl (teq (rfl : (own_i (own_cd ds)) = (own_i (own_cd ds)))).2 ?_
      refine XS.aloadN X7.here hx rfl (hb hby d38_36) rfl rfl ?_
      refine st8 _ ?_
      refine XS.aloadN X8.here hx rfl (hb hby d38_40) rfl rfl ?_
      refine st9 _ ?_
      refine st10 _ ?_
      refine XS.ifNo X10.here hx rfl (hb hby d38_47) rfl ((if0 _ _).trans (feq (by decide : ¬ ((1 : Int32) = (0 : Int32)))).1) ?_
      refine XS.iconst X10.here hx rfl (hb hby d38_50) ?_
      refine XS.goto X10.here hx rfl (pc0 := 51) (pc' := 55) rfl (hb hby d38_51) (by decide) (by decide) ?_
      show Steps _ _ _ (T10.setTop (mkF m 55 #[vR a, vR e_, vR e_] [(.int 1)])) _
      exact retN X10 hx (t := .boolean) Bd.returns (by simp) (hb hby d38_55) hr
    · show QseqT Z a e_ t kt ds t2 kt2 cz h0 n0 _ T10.heap _
      rw [eh10]
      exact ⟨rfl, N10, rfl⟩
theorem own_tk {s : State} (h : Jvm.D.tablesKnown s = true) : s.vm.MethodsKnown := fun m x hx => by
  unfold Jvm.D.tablesKnown at h
  simp only [Vm.method?, Option.bind_eq_bind, Option.bind_eq_some_iff] at hx
  obtain ⟨k, hk, hm⟩ := hx
  have q := (Array.all_eq_true_iff_forall_mem.mp h) k (Array.mem_of_getElem? hk)
  have hlt := (Array.getElem?_eq_some_iff.mp hm).1
  simp only [Vm.knowsMethod]
  cases hc : k.cf with
  | none => simp_all
  | some cf => simp_all
theorem own_mk {vm : Vm} {m : MethodId} (h : Jvm.D.methodKnown vm m = true) : vm.knowsMethod m := by
  unfold Jvm.D.methodKnown at h
  cases hk : vm.classes[m.cls]? with
  | none => rw [hk] at h; simp at h
  | some k =>
    rw [hk] at h
    refine ⟨k, hk, fun cf hc => ?_⟩
    simpa [hc] using h
theorem own_fk {s : State} {m : MethodId} {args : Array Value} {below : List Frame} (hf : s.frames = .invoking m args :: below) (h : Jvm.D.framesKnown s = true) : s.vm.FramesKnown below := fun y hy m' hm' => by
  unfold Jvm.D.framesKnown at h
  rw [hf] at h
  have q := (List.all_eq_true.mp h) y (List.mem_cons_of_mem _ hy)
  cases y with
  | java f => obtain rfl : f.method = m' := Option.some.inj hm'; exact own_mk q
  | native f => obtain rfl : f.method = m' := Option.some.inj hm'; exact own_mk q
  | _ => cases hm'
open Jvm.Bundle Jvm.Free.Exc in
def own_thA (rc : String) : List Cond := [.initialized tN, .superclass tN "java/lang/Object", .instanceMethod tFill, .codeSync tFill Jvm.LibCode.Throwable.Fill.code 1 (some (.object tN)), .instanceMethod tFill0, .native tFill0,
  .instanceMethod oInit, .code oInit ⟨#[0xb1]⟩ 1 none, .methodLink tN 1 oInit, .methodLink tN 27 tFill, .methodLink tN 202 tFill0, .fieldLink tN 7 tN "cause" thD, .lays rc tN "cause" thD,
  .fieldLink tN 17 tN "stackTrace" steD, .lays rc tN "stackTrace" steD, .fieldLink tN 24 tN "suppressedExceptions" listD, .lays rc tN "suppressedExceptions" listD,
  .fieldLink tN 13 tN "UNASSIGNED_STACK" steD, .laysStatic tN "UNASSIGNED_STACK" steD, .fieldLink tN 20 tN "SUPPRESSED_SENTINEL" listD, .laysStatic tN "SUPPRESSED_SENTINEL" listD,
  .lays rc tN "detailMessage" msgD, .fieldLink tN 198 tN "backtrace" obD, .lays rc tN "backtrace" obD, .arrayOver (.object "java/lang/Object"), .soleField tN "backtrace", .soleField tN "depth", .lays rc tN "depth" "I", .selects rc tFill0 tFill0]
/-- a word of own_thA by its place -/
theorem own_thw {rc : String} {args : Array Value} {s : State} (W : ∀ d ∈ own_thA rc, d.before args s = true) (i : Nat) {d : Cond} (h : (own_thA rc)[i]? = some d) : d.holds args s none s [] = true := W d (List.mem_of_getElem? h)
open Jvm.Bundle Jvm.Free.Exc in
set_option maxHeartbeats 4000000 in
theorem own_thr {args : Array Value} {s : State} {pl : Platform} {rc : String} (o1 : pl.frameOwnsMonitors = true) (o2 : pl.finalization = false) (o3 : pl.magicAccessors = ({} : Platform).magicAccessors) (W : ∀ d ∈ own_thA rc, d.before args s = true) :
    ∃ T : ThrowableC, T.Links pl s ∧ s.vm.findClass tN = some T.cT ∧ s.methodNamed? tFill = some T.fill ∧ s.methodNamed? tFill0 = some T.fill0 ∧ s.fieldFound? tN "stackTrace" steD = some (T.cT, T.kT, T.i17, T.fStack) ∧
      s.fieldFound? tN "UNASSIGNED_STACK" steD = some (T.cT, T.kT, T.i13, T.fUnassigned) ∧ T.fStack.type = .array (.object "java/lang/StackTraceElement") := by
  -- the class and its methods
  obtain ⟨⟨cT, j0⟩, n0, a1, a2, a3, a4, a5, a6⟩ := Cond.native_spec (own_thw W 5 rfl)
  have fc : s.vm.findClass tN = some cT := findClass_of_methodNamed a1
  obtain ⟨kT, fk, fn⟩ := Vm.findClass_spec fc
  obtain ⟨x0, y0, b1, b2, b3, b4, b5, b6, b7⟩ := Cond.ownMethod (x := tFill0) fc fk (own_thw W 4 rfl)
  cases Option.some.inj (a1.symm.trans b1)
  cases Option.some.inj (a2.symm.trans b2)
  obtain ⟨jF, mF, c1, c2, c3, c4, c5, -, -⟩ := Cond.ownMethod (x := tFill) fc fk (own_thw W 2 rfl)
  obtain ⟨mF', kF, d1, d2, d3, d4, d5, d6, -, d8⟩ := Cond.codeSync_spec c1 (own_thw W 3 rfl)
  cases Option.some.inj (c2.symm.trans d1)
  obtain ⟨mO, nO, e1, e2, e3, e4⟩ := Cond.instanceMethod_spec (own_thw W 6 rfl)
  obtain ⟨nO', kO, f1, f2, f3, f4, -, f6, -, f8⟩ := Cond.code_spec e1 (own_thw W 7 rfl)
  cases Option.some.inj (e2.symm.trans f1)
  obtain ⟨zO, g1, g2⟩ := Vm.findClass_spec (findClass_of_methodNamed e1)
  obtain ⟨nm1, nm2⟩ := name_of_methodNamed e1 e2
  obtain ⟨_, kk, _, -, h2, -, -, -, -, h7⟩ := Cond.superclass_spec fc (own_thw W 1 rfl)
  cases Option.some.inj (fk.symm.trans h2)
  -- the links
  obtain ⟨ci1, n1, cf, l11, l12, l13, l14⟩ := Cond.linkedMethod fc fk e1 (own_thw W 8 rfl) pl o3
  obtain ⟨ci27, n27, cf2, l21, l22, l23, l24⟩ := Cond.linkedMethod fc fk c1 (own_thw W 9 rfl) pl o3
  obtain ⟨ci202, n202, cf3, l31, l32, l33, l34⟩ := Cond.linkedMethod fc fk a1 (own_thw W 10 rfl) pl o3
  cases Option.some.inj (l13.symm.trans l23)
  cases Option.some.inj (l13.symm.trans l33)
  -- the fields
  obtain ⟨ci7, i7, F7, p1, p2, p3, p4, p5, p6, p7, p8⟩ := Cond.ownField (C' := rc) (t := .object tN) fc fk (by decide +kernel) (own_thw W 11 rfl) (own_thw W 12 rfl) pl o3
  obtain ⟨ci17, i17, F17, q1, q2, q3, q4, q5, q6, q7, q8⟩ := Cond.ownField (C' := rc) (t := .array (.object "java/lang/StackTraceElement")) fc fk (by decide +kernel) (own_thw W 13 rfl) (own_thw W 14 rfl) pl o3
  obtain ⟨ci24, i24, F24, r1, r2, r3, r4, r5, r6, r7, r8⟩ := Cond.ownField (C' := rc) (t := .object "java/util/List") fc fk (by decide +kernel) (own_thw W 15 rfl) (own_thw W 16 rfl) pl o3
  obtain ⟨ci13, i13, F13, aS, _, t1, t2, t3, t4, -, -, t7, -, -, -, -, t12⟩ := Cond.ownStatic (t := .array (.object "java/lang/StackTraceElement")) fc fk (by decide +kernel) (own_thw W 17 rfl) (own_thw W 18 rfl) pl o3
  obtain ⟨ci20, i20, F20, _, _, u1, u2, u3, u4, -⟩ := Cond.ownStatic (t := .object "java/util/List") fc fk (by decide +kernel) (own_thw W 19 rfl) (own_thw W 20 rfl) pl o3
  obtain ⟨cR, kR, _, _, _, FM, v1, v2, -, v4, v5, -⟩ := Cond.lays_spec (own_thw W 21 rfl)
  obtain ⟨-, w1, w2, w3⟩ := Cond.laysAt v1 v2 q8 (own_thw W 14 rfl)
  obtain ⟨-, z1, z2, z3⟩ := Cond.laysAt v1 v2 r8 (own_thw W 16 rfl)
  have par : ∀ {y : MethodName} {g : MethodDescriptor} {ps : List FieldType}, parseMethodDescriptor y.desc = some g → (parseMethodDescriptor y.desc).map (·.parameters) = some ps → g.parameters = ps := fun {y g ps} k1 k2 => by rw [k1] at k2; simpa using k2
  refine ⟨{ cT := cT, kT := kT, cO := cT, aS := aS, fillIdx := jF, fill0Idx := j0, initSIdx := jF, obj := mO, kObj := zO, methFill := mF, methFill0 := n0, methInitS := mF, methObj := nO, codeFill := kF, codeInitS := kF, codeObj := kO, fBack := F7, fDepth := F7, fStack := F17, fCause := F7, fSupp := F24, fMsg := FM, fUnassigned := F13, fSentinel := F20, cfT := cf, ci1 := ci1, n1 := n1, ci27 := ci27, n27 := n27, ci202 := ci202, n202 := n202, ci7 := ci7, i7 := i7, ci13 := ci13, i13 := i13, ci17 := ci17, i17 := i17, ci20 := ci20, i20 := i20, ci24 := ci24, i24 := i24 }, ?_, fc, c1, a1, q8, t12, q7⟩
  constructor
  all_goals first
    | assumption
    | exact fn
    | exact Vm.findClass_boot fc fk
    | exact Cond.initialized_spec fc fk (own_thw W 0 rfl)
    | exact par d8 (by decide +kernel)
    | exact par a6 (by decide +kernel)
    | (show nO.sig.parameters.length = 0; rw [par (ps := []) f8 (by decide +kernel)]; rfl)
    | (show lookupSpecial s.vm mO.cls "<init>" nO.desc = .method mO; rw [nm2]; exact lookupSpecial_of_named e1 e2 e3)
    | exact Cond.laysApart w2 z2 w3 z3 (by rw [q6, r6]; decide)
    | skip
open Jvm.Bundle Jvm.Free.Exc in
def own_QF (Z : State) (rc : String) (a : Addr) (h : Heap) (v : Option Value) (h' : Heap) (L : List Loc) : Prop := v = some (.ref a) ∧ (∀ y ∈ L, y.base = a) ∧ Exa Z h' a rc ∧
  ∀ (O n d : String) (w : Value), Jvm.RoadKit.slotOf Z O n d ≠ Jvm.RoadKit.slotOf Z tN "backtrace" obD → Jvm.RoadKit.slotOf Z O n d ≠ Jvm.RoadKit.slotOf Z tN "depth" "I" → Jvm.RoadKit.slotOf Z O n d ≠ Jvm.RoadKit.slotOf Z tN "stackTrace" steD → Fld Z h a O n d w → Fld Z h' a O n d w
open Jvm.Bundle Jvm.Free.Exc in
set_option maxHeartbeats 4000000 in
theorem own_fillBack {l : Launch} {R : Room} {p : Program} {e : Env} {below : List Frame} {s : State} {sargs : Array Value} {Z : State} {a0 : Array Value} {h : Heap} {rc : String} {n W : Nat} (hx : p.tables.exec = Jvm.exec) (hadm : l.admits e) (hl : l.stackTraces = true) (hZ : Z.Warmed39 s.vm)
    (W0 : ∀ d ∈ own_thA rc, d.before a0 Z = true) (wi : (Cond.instantiable rc n).before a0 Z = true) (hT0 : ThS Z s.heap) (hTK : s.vm.MethodsKnown) (hBelow : s.vm.FramesKnown below) {a : Addr} {us : Value} (hus : us.isRef = true)
    (E : Exa Z h a rc) (N : Unt h a) (FB : Fld Z h a tN "backtrace" obD .null) (FS : Fld Z h a tN "stackTrace" steD us) (SU : Sta Z h tN "UNASSIGNED_STACK" steD us) (hf : 2 < R.frames) (hlo : W + 42 ≤ R.locals) :
    Back l R p e below s sargs tFill 3 W (fun P x => x = #[.ref a] ∧ P.U.heap = h ∧ P.cells + 1 ≤ R.cells ∧ P.slots + 2752 ≤ R.slots)
      (fun P _ v B => ∃ L, own_QF Z rc a h v B.U.heap L ∧ B.locs = P.locs ++ L ∧ B.cells = P.cells + 1 ∧ ∃ k, k ≤ 2752 ∧ B.slots = P.slots + k) := by
  have WS : ∀ d ∈ own_thA rc, d.before #[] s = true := fun d hd => mvX hT0 hZ (List.all_eq_true.mp (rfl : (own_thA rc).all xOk = true) d hd) (W0 d hd)
  have hpl : e.platform.magicAccessors = ({} : Platform).magicAccessors := by rw [hadm.platform]
  obtain ⟨T, L, q1, q2, q3, q4, q5, q6⟩ := own_thr (rc := rc) (pl := e.platform) (by rw [hadm.platform]) (by rw [hadm.platform]) hpl WS
  obtain ⟨cell, u1, u2, u3⟩ := N
  obtain ⟨cE, kE, e1, e2, e3, e4, e5⟩ := E
  cases Option.some.inj (u1.symm.trans e1)
  have hfound : s.vm.findClass rc = some cell.cls := by rw [hZ.alike.findClass]; exact e2
  obtain ⟨k', hk', ek⟩ := hZ.alike.2.2 _ _ e3
  obtain ⟨cI, kI, i1, i2, i3, -⟩ := Cond.instantiable_spec wi
  cases Option.some.inj (e2.symm.trans i1)
  cases Option.some.inj (e3.symm.trans i2)
  have hord : k'.kind = .ordinary := by rw [ek]; exact i3
  have hsz : cell.slots.size = k'.instanceTypes.size := by rw [ek]; exact e5 i3
  have tk : ∀ {f : Field} {v : Value}, k'.instanceTypes[f.slot]? = some f.type → fits f.type v = true → Jvm.Takes s cell f v := fun {f v} h1 h2 => by
    obtain ⟨y1, y2⟩ := Takes.of_laid (v := v) hk' hord h1 h2
    exact ⟨by rw [hsz]; simpa using y1, by rw [u2]; exact y2⟩
  have hsel0 : selectMethod e.platform s.vm cell.cls T.fill0 = .method T.fill0 := by
    obtain ⟨c2, r2, m2, y1, y2, y3, y4, -⟩ := Cond.selects_spec (own_thw WS 28 rfl)
    cases Option.some.inj (y1.symm.trans hfound)
    cases Option.some.inj (y2.symm.trans (State.methodFound?_of_named q3 (by decide)))
    cases Option.some.inj (y3.symm.trans q3)
    rw [Launch.admits_selectMethod hadm]; exact y4
  have ride : ∀ {O n d : String} {c i : Nat} {k : Class} {f : Field}, Z.fieldFound? O n d = some (c, k, i, f) → ∃ k2, s.fieldFound? O n d = some (c, k2, i, f) ∧ k2.statics = k.statics := fun {O n d c i k f} y => by
    obtain ⟨k2, y1, y2⟩ := State.fieldFound?_setVm (s := Z) hZ.alike y
    exact ⟨k2, y1, by rw [y2]⟩
  -- stackTrace, UNASSIGNED_STACK, backtrace, depth
  obtain ⟨clS, cfS, kfS, iS, fS, s1, s2, -, -, -, -, s7⟩ := id FS
  cases Option.some.inj (u1.symm.trans s1)
  obtain ⟨kS2, r1, -⟩ := ride s2
  have eS : T.fStack = fS := (congrArg (fun z => z.2.2.2) (Option.some.inj (q4.symm.trans r1)))
  obtain ⟨cfU, iU, kU, fU, st, cellS, b1, -, -, b4, b5, b6, b7⟩ := SU
  obtain ⟨kU2, r2, r3⟩ := ride b1
  have eU0 := Option.some.inj (q5.symm.trans r2)
  have eU : T.fUnassigned = fU := congrArg (fun z => z.2.2.2) eU0
  have eK : T.kT = kU2 := congrArg (fun z => z.2.1) eU0
  have eA : T.aS = st := Option.some.inj (L.statics.symm.trans (by rw [eK, r3]; exact b4))
  have hneS : T.aS ≠ a := fun z => by
    rw [← eA, z] at b5
    cases Option.some.inj (u1.symm.trans b5)
    rw [u2] at b6; cases b6
  obtain ⟨ci198, i198, fB, j1, j2, j3, j4, -, j6, j7, j8⟩ := Cond.ownField (C' := rc) (t := .object "java/lang/Object") q1 L.cls (by decide +kernel) (own_thw WS 22 rfl) (own_thw WS 23 rfl) e.platform hpl
  obtain ⟨clB, cfB, kfB, iB, fB', x1, x2, -, -, -, -, x7⟩ := id FB
  cases Option.some.inj (u1.symm.trans x1)
  obtain ⟨kB2, r4, -⟩ := ride x2
  have eB : fB = fB' := congrArg (fun z => z.2.2.2) (Option.some.inj (j8.symm.trans r4))
  obtain ⟨_, _, cD, kD, iD, fD, -, -, d3, d4, -⟩ := Cond.lays_spec (own_thw WS 27 rfl)
  cases Option.some.inj ((Cond.lays_declared (own_thw WS 27 rfl) d3).symm.trans q1)
  obtain ⟨d6, d7⟩ := State.fieldFound?_spec d3
  cases Option.some.inj (d6.symm.trans L.cls)
  obtain ⟨d8, d9⟩ := State.fieldFound?_type d3 (t := .int) (by decide +kernel)
  have hfb := Cond.soleField_find q1 L.cls (own_thw WS 25 rfl) j3 j6 j4
  have hfd := Cond.soleField_find q1 L.cls (own_thw WS 26 rfl) d7 d8 d4
  obtain ⟨comp, cO, kO, -, -, o3, o4, o5⟩ := Cond.arrayOver_spec (own_thw WS 24 rfl)
  have tS := (Cond.laysAt hfound hk' q4 (own_thw WS 14 rfl)).1
  have tB := (Cond.laysAt hfound hk' j8 (own_thw WS 23 rfl)).1
  have tD := (Cond.laysAt hfound hk' d3 (own_thw WS 27 rfl)).1
  have back0 : ∀ {O n d : String} {c i : Nat} {k : Class} {f : Field}, s.fieldFound? O n d = some (c, k, i, f) → Jvm.RoadKit.slotOf Z O n d = f.slot := fun {O n d c i k f} y => by
    obtain ⟨c2, k2, i2, y1⟩ := Jvm.Free.BdW.found_ride (U := s) (U' := Z) hZ.alike.symm ⟨c, k, i, y⟩
    simp [Jvm.RoadKit.slotOf, y1]
  refine Back.mono (fillPaysAny hx (by rw [hadm.platform]; exact hl) T L q2 (u0 := ⟨us, hus⟩) (self := a) (cell := cell) (cellS := cellS) (fun _ => by rw [u2]; simp) (by rw [u2]; simp) (by rw [u3]) (by rw [u3]) (by rw [eS]; exact s7) hsel0 hneS (fun z => by rw [z] at b6; cases b6)
      (by rw [eU]; exact b7) (tk tS (by rw [q6]; exact fits_refV_array _ ⟨us, hus⟩)) ⟨{ ci198 := ci198, i198 := i198, fBack := fB }, ⟨j1, j2, j3, j4⟩, by rw [eB]; exact x7⟩ hTK hBelow q1 o5 o3 o4 hfb hfd (fun _ => tk tB (by rw [j7]; rfl)) (fun _ => tk tD (by rw [d9]; rfl)) hf hlo)
    (fun P x hp => ⟨hp.1, hp.2.2.1, hp.2.2.2, by rw [hp.2.1]; exact u1, by rw [hp.2.1, eA]; exact b5⟩) (fun P x v B hp hq => ?_)
  obtain ⟨hv, C, k, hk, hD, c1, c2, c3, c4, hL, hc, hn⟩ := hq
  refine ⟨_, ⟨hv, ?_, ⟨C, kE, hD, by rw [c1]; exact e2, by rw [c1]; exact e3, by rw [c2]; exact e4, fun o => by rw [c3]; exact e5 o⟩, fun O n d w n1 n2 n3 F => ?_⟩, hL, hc, k, hk, hn⟩
  · intro y hy
    simp only [List.mem_cons, List.not_mem_nil, or_false] at hy
    rcases hy with rfl | rfl | rfl <;> rfl
  · obtain ⟨cl, cf, kf, i, f, g1, g2, g3, g4, g5, g6, g7⟩ := F
    cases Option.some.inj (u1.symm.trans g1)
    have ef : Jvm.RoadKit.slotOf Z O n d = f.slot := by simp [Jvm.RoadKit.slotOf, g2]
    rw [ef, back0 j8] at n1
    rw [ef, back0 d3] at n2
    rw [ef, back0 q4] at n3
    exact ⟨C, cf, kf, i, f, hD, g2, g3, by rw [c2]; exact g4, by rw [c2]; exact g5, by rw [c1]; exact g6, by rw [c4 _ n1 n2 n3]; exact g7⟩
theorem own_standKeep {p : Program} {l : Launch} {e : Env} {R : Room} {s : State} {m : MethodId} {args : Array Value} {below : List Frame} {meth : Method} {c : Code} {T : State} {locs : List Loc} {cells slots : Nat} {h0 : Heap} {a : Addr}
    (X : Stand p l e R s m args below meth c T locs cells slots) (hh : s.heap = h0) (hL : ∀ y ∈ locs, y.base = a) : Keep h0 T.heap [a] := by
  subst hh
  have S := X.same
  refine ⟨S.2.1, fun x cl q r => ?_, fun x cl q => ?_⟩
  · exact State.sameButNew.kept_off S (fun i hm => r (by simp [← hL _ hm])) q
  · obtain ⟨c', y1, y2, y3, -⟩ := S.2.2.2.2.2 x cl q
    exact ⟨c', y1, by rw [y2], by rw [y2], y3⟩
theorem own_narA {w : Value} {t : FieldType} (h : w.isRef = true) : narrow (.array t) w = w := by cases w <;> simp [Value.isRef] at h <;> rfl
theorem own_fitA {w : Value} {t : FieldType} (h : w.isRef = true) : fits (.array t) w = true := by cases w <;> simp [Value.isRef] at h <;> rfl
theorem own_thW {Z : State} {a0 : Array Value} (hw : ∀ d ∈ tables_1, d.before a0 Z = true) : ∀ d ∈ (own_thA "com/example/levy/levy/store/StoreException"), d.before a0 Z = true := fun d hd => hw d ((by decide +kernel : ∀ d ∈ (own_thA "com/example/levy/levy/store/StoreException"), d ∈ tables_1) d hd)
abbrev c33_ := jdk_78_method_2_code
theorem d33_0 : decode c33_ 0 = .ok (.aload_n 0, 1) := by decide +kernel
theorem w_178 : (Cond.methodLink "java/lang/Throwable" (1 : Nat) mN11) ∈ tables_1 := List.mem_of_getElem? (i := 178) (by decide +kernel)
theorem d33_1 : decode c33_ 1 = .ok (.invokespecial 1, 3) := by decide +kernel
theorem d33_4 : decode c33_ 4 = .ok (.aload_n 0, 1) := by decide +kernel
theorem d33_5 : decode c33_ 5 = .ok (.aload_n 0, 1) := by decide +kernel
theorem w_179 : (Cond.fieldLink "java/lang/Throwable" (7 : Nat) "java/lang/Throwable" "cause" "Ljava/lang/Throwable;") ∈ tables_1 := List.mem_of_getElem? (i := 179) (by decide +kernel)
theorem w_180 : (Cond.lays "com/example/levy/levy/store/StoreException" "java/lang/Throwable" "cause" "Ljava/lang/Throwable;") ∈ tables_1 := List.mem_of_getElem? (i := 180) (by decide +kernel)
theorem w_27 : (Cond.instantiable "com/example/levy/levy/store/StoreException" (6 : Nat)) ∈ tables_1 := List.mem_of_getElem? (i := 27) (by decide +kernel)
theorem d33_6 : decode c33_ 6 = .ok (.putfield 7, 3) := by decide +kernel
theorem d33_9 : decode c33_ 9 = .ok (.aload_n 0, 1) := by decide +kernel
theorem w_181 : (Cond.fieldLink "java/lang/Throwable" (13 : Nat) "java/lang/Throwable" "UNASSIGNED_STACK" "[Ljava/lang/StackTraceElement;") ∈ tables_1 := List.mem_of_getElem? (i := 181) (by decide +kernel)
theorem d33_10 : decode c33_ 10 = .ok (.getstatic 13, 3) := by decide +kernel
theorem w_182 : (Cond.fieldLink "java/lang/Throwable" (17 : Nat) "java/lang/Throwable" "stackTrace" "[Ljava/lang/StackTraceElement;") ∈ tables_1 := List.mem_of_getElem? (i := 182) (by decide +kernel)
theorem w_183 : (Cond.lays "com/example/levy/levy/store/StoreException" "java/lang/Throwable" "stackTrace" "[Ljava/lang/StackTraceElement;") ∈ tables_1 := List.mem_of_getElem? (i := 183) (by decide +kernel)
theorem d33_13 : decode c33_ 13 = .ok (.putfield 17, 3) := by decide +kernel
theorem d33_16 : decode c33_ 16 = .ok (.aload_n 0, 1) := by decide +kernel
theorem w_184 : (Cond.fieldLink "java/lang/Throwable" (20 : Nat) "java/lang/Throwable" "SUPPRESSED_SENTINEL" "Ljava/util/List;") ∈ tables_1 := List.mem_of_getElem? (i := 184) (by decide +kernel)
theorem d33_17 : decode c33_ 17 = .ok (.getstatic 20, 3) := by decide +kernel
theorem w_185 : (Cond.fieldLink "java/lang/Throwable" (24 : Nat) "java/lang/Throwable" "suppressedExceptions" "Ljava/util/List;") ∈ tables_1 := List.mem_of_getElem? (i := 185) (by decide +kernel)
theorem w_186 : (Cond.lays "com/example/levy/levy/store/StoreException" "java/lang/Throwable" "suppressedExceptions" "Ljava/util/List;") ∈ tables_1 := List.mem_of_getElem? (i := 186) (by decide +kernel)
theorem d33_20 : decode c33_ 20 = .ok (.putfield 24, 3) := by decide +kernel
theorem d33_23 : decode c33_ 23 = .ok (.aload_n 0, 1) := by decide +kernel
abbrev mN46 : MethodName := ⟨"java/lang/Throwable", "fillInStackTrace", "()Ljava/lang/Throwable;"⟩
theorem w_187 : (Cond.methodLink "java/lang/Throwable" (27 : Nat) mN46) ∈ tables_1 := List.mem_of_getElem? (i := 187) (by decide +kernel)
theorem w_211 : (Cond.lays "com/example/levy/levy/store/StoreException" "java/lang/Throwable" "backtrace" "Ljava/lang/Object;") ∈ tables_1 := List.mem_of_getElem? (i := 211) (by decide +kernel)
theorem w_210 : (Cond.lays "com/example/levy/levy/store/StoreException" "java/lang/Throwable" "detailMessage" "Ljava/lang/String;") ∈ tables_1 := List.mem_of_getElem? (i := 210) (by decide +kernel)
theorem pd___Ljava_lang_Throwable_ : parseMethodDescriptor "()Ljava/lang/Throwable;" = some ⟨[], some (.object "java/lang/Throwable")⟩ := by decide +kernel
theorem d33_24 : decode c33_ 24 = .ok (.invokevirtual 27, 3) := by decide +kernel
theorem w_190 : (Cond.selects "com/example/levy/levy/store/StoreException" mN46 mN46) ∈ tables_1 := List.mem_of_getElem? (i := 190) (by decide +kernel)
theorem w_188 : (Cond.declares mN46) ∈ tables_1 := List.mem_of_getElem? (i := 188) (by decide +kernel)
theorem w_189 : (Cond.instanceMethod mN46) ∈ tables_1 := List.mem_of_getElem? (i := 189) (by decide +kernel)
theorem w_212 : (Cond.lays "com/example/levy/levy/store/StoreException" "java/lang/Throwable" "depth" "I") ∈ tables_1 := List.mem_of_getElem? (i := 212) (by decide +kernel)
theorem d33_27 : decode c33_ 27 = .ok (.pop, 1) := by decide +kernel
theorem d33_28 : decode c33_ 28 = .ok (.aload_n 0, 1) := by decide +kernel
theorem d33_29 : decode c33_ 29 = .ok (.aload_n 1, 1) := by decide +kernel
theorem w_214 : (Cond.fieldLink "java/lang/Throwable" (31 : Nat) "java/lang/Throwable" "detailMessage" "Ljava/lang/String;") ∈ tables_1 := List.mem_of_getElem? (i := 214) (by decide +kernel)
theorem d33_30 : decode c33_ 30 = .ok (.putfield 31, 3) := by decide +kernel
theorem d33_33 : decode c33_ 33 = .ok (.return_, 1) := by decide +kernel
abbrev mN47 : MethodName := ⟨"java/lang/Throwable", "<init>", "(Ljava/lang/String;)V"⟩
theorem ef_thInit (m : MethodId) (x0 : Addr) (x1 : Addr) : entryFrame m #[(.ref x0), (.ref x1)] 2 = mkF m 0 #[vR x0, vR x1] [] := by first | (simp [entryFrame, mkF, argsToLocals, Value.category]; done) | rfl
def QthInit (Z : State) (a : Addr) (ms : Addr) (u0 : Value) (u1 : Value) (u2 : Value) (u3 : Value) (us : Value) (se : Value) (h0 : Heap) (n0 : Nat) (v : Option Value) (h : Heap) (L : List Loc) : Prop := v = none ∧ Fr n0 L ∧ Keep h0 h [a] ∧ Exa Z h a "com/example/levy/levy/store/StoreException" ∧ Fld Z h a "java/lang/Throwable" "detailMessage" "Ljava/lang/String;" (.ref ms)
theorem pn_java_lang_Throwable : plainName "java/lang/Throwable" = true := by first | (simp [plainName, overriddenIn]; done) | decide +kernel
set_option maxRecDepth 65536 in
set_option maxHeartbeats 40000000 in
theorem rmthInit (l : Launch) (Z : State) (a0 : Array Value) (hw : ∀ d ∈ tables_1, d.before a0 Z = true) (ws : List Jvm.Cond) (a : Addr) (ms : Addr) (u0 : Value) (u1 : Value) (u2 : Value) (u3 : Value) (us : Value) (se : Value) (h0 : Heap) (n0 : Nat) (O0 : Old Z n0 h0) (hl : (l.stackTraces = true)) (hp1 : Exa Z h0 a "com/example/levy/levy/store/StoreException") (hp2 : Unt h0 a) (hp3 : n0 ≤ a) (hp4 : Fld Z h0 a "java/lang/Throwable" "cause" "Ljava/lang/Throwable;" u0) (hp5 : Fld Z h0 a "java/lang/Throwable" "stackTrace" "[Ljava/lang/StackTraceElement;" u1) (hp6 : Fld Z h0 a "java/lang/Throwable" "suppressedExceptions" "Ljava/util/List;" u2) (hp7 : Fld Z h0 a "java/lang/Throwable" "detailMessage" "Ljava/lang/String;" u3) (hp8 : Fld Z h0 a "java/lang/Throwable" "backtrace" "Ljava/lang/Object;" .null) (hp9 : Sta Z Z.heap "java/lang/Throwable" "UNASSIGNED_STACK" "[Ljava/lang/StackTraceElement;" us) (hp10 : Sta Z Z.heap "java/lang/Throwable" "SUPPRESSED_SENTINEL" "Ljava/util/List;" se) (hus : (us.isRef = true)) (hse : (se.isRef = true)) :
    MetFree l mN47 (head1 (Jvm.Cond.code mN47 jdk_78_method_2_code 2 none :: ws) ({ frames := 3, cells := 1, slots := 2752, locals := 42 } : Room)) (fun as_ U => as_ = #[(.ref a), (.ref ms)] ∧ Z.Warmed39 U.vm ∧ U.heap = h0) (fun _ _ bl s _ => s.vm.MethodsKnown ∧ s.vm.FramesKnown bl) (fun _ U o U' => ∃ v L, o = .returned v ∧ QthInit Z a ms u0 u1 u2 u3 us se h0 n0 v U'.heap L ∧ FrameEnd U o U' L ({ frames := 3, cells := 1, slots := 2752, locals := 42 } : Room).cells ({ frames := 3, cells := 1, slots := 2752, locals := 42 } : Room).slots) := by
  refine MetFree.of_bodySF (plainFor_of_name pn_java_lang_Throwable) hisR ?_
  intro p e s m args below meth c s₁ Bd hml0 hP hK
  obtain ⟨rfl, hZ, hh⟩ := hP
  have hx := Bd.exec
  obtain ⟨hTK, hBelow⟩ := hK
  have hby := Bd.bytes
  have hml : c.maxLocals = 2 := hml0
  have hown : s.vm.findClass "java/lang/Throwable" = some m.cls := findClass_of_methodNamed Bd.named
  have hnm := (name_of_methodNamed Bd.named Bd.method).1
  have X0 : Stand p l e ({ frames := 3, cells := 1, slots := 2752, locals := 42 } : Room) s m #[(.ref a), (.ref ms)] below meth c s₁ [] 0 0 := Stand.of_body Bd
  have e0 : s₁.heap = h0 := by rw [← hh, Bd.state]; rfl
  have N0 := Fr.nil n0
  have Z0 := own_z0 O0
  have pre0 : ∀ tg_, Steps p.tables e below (s₁.setTop (mkF m 0 #[vR a, vR ms] [])) tg_ → Steps p.tables e below (s₁.setTop (entryFrame m #[(.ref a), (.ref ms)] 2)) tg_ := fun tg_ kt_ => castTop (ef_thInit m a ms) kt_
  obtain ⟨T1, X1, e1, st1⟩ := initO X0 hx hZ hown (hw _ w_178) (hw _ w_12) (hw _ w_13) e0 (g := (mkF m 1 #[vR a, vR ms] [(.ref a)])) rfl (by rw [hml]; rfl) rfl (hb hby d33_1) (by decide) (W := 0) (by show 2 * 0 + _ ≤ _; exact Nat.le_of_eq rfl) (by decide)
  obtain ⟨T2, h2, X2, e2, W2, st2⟩ := putF X1 hx hZ hown (host := "") (Or.inl (hw _ w_179)) Via.refl e1 hp4 hp1 (Or.inl (hw _ w_180)) (hw _ w_27) (ty := (.object "java/lang/Throwable")) (by decide) rfl rfl (g := (mkF m 6 #[vR a, vR ms] [(.ref a), (.ref a)])) rfl rfl (hb hby d33_6)
  have Fw2 := hp4.same W2
  have N2 := Fr.snoc X2 N0 hp3
  have O2 : Old Z n0 h2 := O0.wr W2 hp3
  have K2 : Keep h0 h2 [a] := (Keep.refl h0 [a]).wr W2 (Or.inl (List.mem_of_getElem? (i := 0) rfl))
  obtain ⟨T3, X3, e3, st3⟩ := getS2 X2 hx hZ hown (host := "") (Or.inl (hw _ w_181)) Via.refl e2 (hp9.ext O2.2) (g := (mkF m 10 #[vR a, vR ms] [(.ref a)])) rfl (hb hby d33_10)
  obtain ⟨T4, h4, X4, e4, W4, st4⟩ := putF X3 hx hZ hown (host := "") (Or.inl (hw _ w_182)) Via.refl e3 (hp5.other W2 (Or.inr (slot_ne (Or.inl (hw _ w_183)) (Or.inl (hw _ w_180)) (by decide) (t := (.array (.object "java/lang/StackTraceElement"))) (t' := (.object "java/lang/Throwable")) (by decide) (by decide)))) (hp1.wr W2) (Or.inl (hw _ w_183)) (hw _ w_27) (ty := (.array (.object "java/lang/StackTraceElement"))) (by decide) (own_narA hus) (own_fitA hus) (g := (mkF m 13 #[vR a, vR ms] [us, (.ref a)])) rfl rfl (hb hby d33_13)
  have Fw4 := (hp5.other W2 (Or.inr (slot_ne (Or.inl (hw _ w_183)) (Or.inl (hw _ w_180)) (by decide) (t := (.array (.object "java/lang/StackTraceElement"))) (t' := (.object "java/lang/Throwable")) (by decide) (by decide)))).same W4
  have N4 := Fr.snoc X4 N2 hp3
  have O4 : Old Z n0 h4 := O2.wr W4 hp3
  have K4 : Keep h0 h4 [a] := K2.wr W4 (Or.inl (List.mem_of_getElem? (i := 0) rfl))
  obtain ⟨T5, X5, e5, st5⟩ := getS2 X4 hx hZ hown (host := "") (Or.inl (hw _ w_184)) Via.refl e4 (hp10.ext O4.2) (g := (mkF m 17 #[vR a, vR ms] [(.ref a)])) rfl (hb hby d33_17)
  obtain ⟨T6, h6, X6, e6, W6, st6⟩ := putF X5 hx hZ hown (host := "") (Or.inl (hw _ w_185)) Via.refl e5 ((hp6.other W2 (Or.inr (slot_ne (Or.inl (hw _ w_186)) (Or.inl (hw _ w_180)) (by decide) (t := (.object "java/util/List")) (t' := (.object "java/lang/Throwable")) (by decide) (by decide)))).other W4 (Or.inr (slot_ne (Or.inl (hw _ w_186)) (Or.inl (hw _ w_183)) (by decide) (t := (.object "java/util/List")) (t' := (.array (.object "java/lang/StackTraceElement"))) (by decide) (by decide)))) ((hp1.wr W2).wr W4) (Or.inl (hw _ w_186)) (hw _ w_27) (ty := (.object "java/util/List")) (by decide) (own_narR hse) (own_fitR hse) (g := (mkF m 20 #[vR a, vR ms] [se, (.ref a)])) rfl rfl (hb hby d33_20)
  have Fw6 := ((hp6.other W2 (Or.inr (slot_ne (Or.inl (hw _ w_186)) (Or.inl (hw _ w_180)) (by decide) (t := (.object "java/util/List")) (t' := (.object "java/lang/Throwable")) (by decide) (by decide)))).other W4 (Or.inr (slot_ne (Or.inl (hw _ w_186)) (Or.inl (hw _ w_183)) (by decide) (t := (.object "java/util/List")) (t' := (.array (.object "java/lang/StackTraceElement"))) (by decide) (by decide)))).same W6
  have N6 := Fr.snoc X6 N4 hp3
  have O6 : Old Z n0 h6 := O4.wr W6 hp3
  have K6 : Keep h0 h6 [a] := K4.wr W6 (Or.inl (List.mem_of_getElem? (i := 0) rfl))
  obtain ⟨cq7, kq7, q7a, q7b, q7c⟩ := isOf hZ e6 (((hp1.wr W2).wr W4).wr W6)
  obtain ⟨_, _, ⟨T7, L7, k7, n7⟩, -, X7, ⟨Lc7, hQ7, l7, y7, kk7, hkk7, z7⟩, st7⟩ := X6.virtualBack hx (y := mN46) (z := mN46) hown (mvT hZ (hw _ w_187)) (mvT hZ (hw _ w_188)) (notFace_of_selects (args := #[]) (mvT hZ (hw _ w_190))) (mvT hZ (hw _ w_190)) (mvT hZ (hw _ w_189)) (by decide) (own_fillBack (n := _) (W := 0) hx X6.admits hl hZ (own_thW hw) (hw _ w_27) (by rw [hh]; exact ThS.ext O0.2 ThS.start) hTK hBelow hus (((hp1.wr W2).wr W4).wr W6) (((hp2.wr W2).wr W4).wr W6) (((hp8.other W2 (Or.inr (slot_ne (Or.inl (hw _ w_211)) (Or.inl (hw _ w_180)) (by decide) (t := (.object "java/lang/Object")) (t' := (.object "java/lang/Throwable")) (by decide) (by decide)))).other W4 (Or.inr (slot_ne (Or.inl (hw _ w_211)) (Or.inl (hw _ w_183)) (by decide) (t := (.object "java/lang/Object")) (t' := (.array (.object "java/lang/StackTraceElement"))) (by decide) (by decide)))).other W6 (Or.inr (slot_ne (Or.inl (hw _ w_211)) (Or.inl (hw _ w_186)) (by decide) (t := (.object "java/lang/Object")) (t' := (.object "java/util/List")) (by decide) (by decide)))) (Fw4.other W6 (Or.inr (slot_ne (Or.inl (hw _ w_183)) (Or.inl (hw _ w_186)) (by decide) (t := (.array (.object "java/lang/StackTraceElement"))) (t' := (.object "java/util/List")) (by decide) (by decide)))) (hp9.ext O6.2) (by decide) (by decide)) q7a q7c (g := (mkF m 24 #[vR a, vR ms] [(.ref a)])) rfl (by rw [hml]; rfl) (Steps.refl _) (argsL := []) (rest := []) (lenOf pd___Ljava_lang_Throwable_ rfl) rfl (by show 2 * 0 + _ ≤ _; exact Nat.le_of_eq rfl) (hb hby d33_24) (fun _ _ => ⟨rfl, e6, (by decide : 0 + 1 ≤ _), (by decide : 0 + 2752 ≤ _)⟩)
  dsimp only [Pt.U, Pt.locs, Pt.cells, Pt.slots] at X7 l7 y7 z7 st7 hQ7
  subst l7 y7 z7
  have X7 := X7.more (Nat.le_refl _) (Nat.add_le_add_left hkk7 _)
  obtain ⟨rfl, HB7, Ex7, Fk7⟩ := hQ7
  have Kn7 : Keep h0 T7.heap [a] := own_standKeep X7 hh (fun y hy => by simp only [List.append_assoc, List.nil_append, List.cons_append, List.mem_append, List.mem_cons, List.not_mem_nil, or_false, false_or] at hy; rcases hy with rfl | rfl | rfl | hy <;> first | rfl | exact HB7 y hy)
  have N7 := Fr.app N6 (fun y hy => by rw [HB7 y hy]; exact hp3)
  have O7 : Old Z n0 T7.heap := O0.keep Kn7 (allS hp3 all0)
  have K7 : Keep h0 T7.heap [a] := (Keep.refl h0 [a]).trans Kn7 (allS (Or.inl (List.mem_of_getElem? (i := 0) rfl)) all0)
  obtain ⟨T8, h8, X8, e8, W8, st8⟩ := putF X7 hx hZ hown (host := "") (Or.inl (hw _ w_214)) Via.refl rfl (Fk7 _ _ _ _ (slot_ne (Or.inl (hw _ w_210)) (Or.inl (hw _ w_211)) (by decide) (t := (.object "java/lang/String")) (t' := (.object "java/lang/Object")) (by decide) (by decide)) (slot_ne (Or.inl (hw _ w_210)) (Or.inl (hw _ w_212)) (by decide) (t := (.object "java/lang/String")) (t' := .int) (by decide) (by decide)) (slot_ne (Or.inl (hw _ w_210)) (Or.inl (hw _ w_183)) (by decide) (t := (.object "java/lang/String")) (t' := (.array (.object "java/lang/StackTraceElement"))) (by decide) (by decide)) (((hp7.other W2 (Or.inr (slot_ne (Or.inl (hw _ w_210)) (Or.inl (hw _ w_180)) (by decide) (t := (.object "java/lang/String")) (t' := (.object "java/lang/Throwable")) (by decide) (by decide)))).other W4 (Or.inr (slot_ne (Or.inl (hw _ w_210)) (Or.inl (hw _ w_183)) (by decide) (t := (.object "java/lang/String")) (t' := (.array (.object "java/lang/StackTraceElement"))) (by decide) (by decide)))).other W6 (Or.inr (slot_ne (Or.inl (hw _ w_210)) (Or.inl (hw _ w_186)) (by decide) (t := (.object "java/lang/String")) (t' := (.object "java/util/List")) (by decide) (by decide))))) Ex7 (Or.inl (hw _ w_210)) (hw _ w_27) (ty := (.object "java/lang/String")) (by decide) rfl rfl (g := (mkF m 30 #[vR a, vR ms] [(.ref ms), (.ref a)])) rfl rfl (hb hby d33_30)
  have Fw8 := (Fk7 _ _ _ _ (slot_ne (Or.inl (hw _ w_210)) (Or.inl (hw _ w_211)) (by decide) (t := (.object "java/lang/String")) (t' := (.object "java/lang/Object")) (by decide) (by decide)) (slot_ne (Or.inl (hw _ w_210)) (Or.inl (hw _ w_212)) (by decide) (t := (.object "java/lang/String")) (t' := .int) (by decide) (by decide)) (slot_ne (Or.inl (hw _ w_210)) (Or.inl (hw _ w_183)) (by decide) (t := (.object "java/lang/String")) (t' := (.array (.object "java/lang/StackTraceElement"))) (by decide) (by decide)) (((hp7.other W2 (Or.inr (slot_ne (Or.inl (hw _ w_210)) (Or.inl (hw _ w_180)) (by decide) (t := (.object "java/lang/String")) (t' := (.object "java/lang/Throwable")) (by decide) (by decide)))).other W4 (Or.inr (slot_ne (Or.inl (hw _ w_210)) (Or.inl (hw _ w_183)) (by decide) (t := (.object "java/lang/String")) (t' := (.array (.object "java/lang/StackTraceElement"))) (by decide) (by decide)))).other W6 (Or.inr (slot_ne (Or.inl (hw _ w_210)) (Or.inl (hw _ w_186)) (by decide) (t := (.object "java/lang/String")) (t' := (.object "java/util/List")) (by decide) (by decide))))).same W8
  have N8 := Fr.snoc X8 N7 hp3
  have O8 : Old Z n0 h8 := O7.wr W8 hp3
  have K8 : Keep h0 h8 [a] := K7.wr W8 (Or.inl (List.mem_of_getElem? (i := 0) rfl))
  obtain ⟨fs, hr, hrun, hended, hW, hsame⟩ := X8.leave (v := none) (fun _ => rfl)
  refine ⟨_, _, pre0 _ ?_, hrun, hended, _, _, rfl, ?_, ⟨_, rfl⟩, hW, hsame.mono (by decide) (by decide)⟩
  · refine XS.aloadN X0.here hx rfl (hb hby d33_0) rfl rfl ?_
    refine st1 _ ?_
    refine XS.aloadN X1.here hx rfl (hb hby d33_4) rfl rfl ?_
    refine XS.aloadN X1.here hx rfl (hb hby d33_5) rfl rfl ?_
    refine st2 _ ?_
    refine XS.aloadN X2.here hx rfl (hb hby d33_9) rfl rfl ?_
    refine st3 _ ?_
    refine st4 _ ?_
    refine XS.aloadN X4.here hx rfl (hb hby d33_16) rfl rfl ?_
    refine st5 _ ?_
    refine st6 _ ?_
    refine XS.aloadN X6.here hx rfl (hb hby d33_23) rfl rfl ?_
    show Steps _ _ _ (T6.setTop (mkF m 24 #[vR a, vR ms] [(.ref a)])) _
    refine st7.trans ?_
    refine XS.pop X7.here hx rfl (hb hby d33_27) rfl rfl ?_
    refine XS.aloadN X7.here hx rfl (hb hby d33_28) rfl rfl ?_
    refine XS.aloadN X7.here hx rfl (hb hby d33_29) rfl rfl ?_
    refine st8 _ ?_
    exact X8.returnOut hx Bd.returns (hb hby d33_33) hr
  · show QthInit Z a ms u0 u1 u2 u3 us se h0 n0 _ T8.heap _
    rw [e8]
    exact ⟨rfl, N8, K8, (Ex7.wr W8), Fw8⟩
abbrev c32_ := jdk_59_method_2_code
theorem d32_0 : decode c32_ 0 = .ok (.aload_n 0, 1) := by decide +kernel
theorem d32_1 : decode c32_ 1 = .ok (.aload_n 1, 1) := by decide +kernel
theorem w_172 : (Cond.methodLink "java/lang/Exception" (7 : Nat) mN47) ∈ tables_1 := List.mem_of_getElem? (i := 172) (by decide +kernel)
theorem w_177 : (Cond.code mN47 jdk_78_method_2_code (2 : Nat) (Option.none : Option Jvm.ClassFile.FieldType)) ∈ tables_1 := List.mem_of_getElem? (i := 177) (by decide +kernel)
theorem w_176 : (Cond.initialized "java/lang/Throwable") ∈ tables_1 := List.mem_of_getElem? (i := 176) (by decide +kernel)
theorem d32_2 : decode c32_ 2 = .ok (.invokespecial 7, 3) := by decide +kernel
theorem w_173 : (Cond.instanceMethod mN47) ∈ tables_1 := List.mem_of_getElem? (i := 173) (by decide +kernel)
theorem d32_5 : decode c32_ 5 = .ok (.return_, 1) := by decide +kernel
abbrev mN48 : MethodName := ⟨"java/lang/Exception", "<init>", "(Ljava/lang/String;)V"⟩
theorem ef_excI0 (m : MethodId) (x0 : Addr) (x1 : Addr) : entryFrame m #[(.ref x0), (.ref x1)] 2 = mkF m 0 #[vR x0, vR x1] [] := by first | (simp [entryFrame, mkF, argsToLocals, Value.category]; done) | rfl
def QexcI0 (Z : State) (a : Addr) (ms : Addr) (u0 : Value) (u1 : Value) (u2 : Value) (u3 : Value) (us : Value) (se : Value) (h0 : Heap) (n0 : Nat) (v : Option Value) (h : Heap) (L : List Loc) : Prop := v = none ∧ Fr n0 L ∧ Keep h0 h [a] ∧ Exa Z h a "com/example/levy/levy/store/StoreException" ∧ Fld Z h a "java/lang/Throwable" "detailMessage" "Ljava/lang/String;" (.ref ms)
theorem pn_java_lang_Exception : plainName "java/lang/Exception" = true := by first | (simp [plainName, overriddenIn]; done) | decide +kernel
set_option maxRecDepth 65536 in
set_option maxHeartbeats 40000000 in
theorem rmexcI0 (l : Launch) (Z : State) (a0 : Array Value) (hw : ∀ d ∈ tables_1, d.before a0 Z = true) (ws : List Jvm.Cond) (a : Addr) (ms : Addr) (u0 : Value) (u1 : Value) (u2 : Value) (u3 : Value) (us : Value) (se : Value) (h0 : Heap) (n0 : Nat) (O0 : Old Z n0 h0) (hl : (l.stackTraces = true)) (hp1 : Exa Z h0 a "com/example/levy/levy/store/StoreException") (hp2 : Unt h0 a) (hp3 : n0 ≤ a) (hp4 : Fld Z h0 a "java/lang/Throwable" "cause" "Ljava/lang/Throwable;" u0) (hp5 : Fld Z h0 a "java/lang/Throwable" "stackTrace" "[Ljava/lang/StackTraceElement;" u1) (hp6 : Fld Z h0 a "java/lang/Throwable" "suppressedExceptions" "Ljava/util/List;" u2) (hp7 : Fld Z h0 a "java/lang/Throwable" "detailMessage" "Ljava/lang/String;" u3) (hp8 : Fld Z h0 a "java/lang/Throwable" "backtrace" "Ljava/lang/Object;" .null) (hp9 : Sta Z Z.heap "java/lang/Throwable" "UNASSIGNED_STACK" "[Ljava/lang/StackTraceElement;" us) (hp10 : Sta Z Z.heap "java/lang/Throwable" "SUPPRESSED_SENTINEL" "Ljava/util/List;" se) (hus : (us.isRef = true)) (hse : (se.isRef = true)) :
    MetFree l mN48 (head1 (Jvm.Cond.code mN48 jdk_59_method_2_code 2 none :: ws) ({ frames := 4, cells := 1, slots := 2752, locals := 55 } : Room)) (fun as_ U => as_ = #[(.ref a), (.ref ms)] ∧ Z.Warmed39 U.vm ∧ U.heap = h0) (fun _ _ bl s _ => s.vm.MethodsKnown ∧ s.vm.FramesKnown bl) (fun _ U o U' => ∃ v L, o = .returned v ∧ QexcI0 Z a ms u0 u1 u2 u3 us se h0 n0 v U'.heap L ∧ FrameEnd U o U' L ({ frames := 4, cells := 1, slots := 2752, locals := 55 } : Room).cells ({ frames := 4, cells := 1, slots := 2752, locals := 55 } : Room).slots) := by
  refine MetFree.of_bodySF (plainFor_of_name pn_java_lang_Exception) hisR ?_
  intro p e s m args below meth c s₁ Bd hml0 hP hK
  obtain ⟨rfl, hZ, hh⟩ := hP
  have hx := Bd.exec
  obtain ⟨hTK, hBelow⟩ := hK
  have hby := Bd.bytes
  have hml : c.maxLocals = 2 := hml0
  have hown : s.vm.findClass "java/lang/Exception" = some m.cls := findClass_of_methodNamed Bd.named
  have hnm := (name_of_methodNamed Bd.named Bd.method).1
  have X0 : Stand p l e ({ frames := 4, cells := 1, slots := 2752, locals := 55 } : Room) s m #[(.ref a), (.ref ms)] below meth c s₁ [] 0 0 := Stand.of_body Bd
  have e0 : s₁.heap = h0 := by rw [← hh, Bd.state]; rfl
  have N0 := Fr.nil n0
  have Z0 := own_z0 O0
  have pre0 : ∀ tg_, Steps p.tables e below (s₁.setTop (mkF m 0 #[vR a, vR ms] [])) tg_ → Steps p.tables e below (s₁.setTop (entryFrame m #[(.ref a), (.ref ms)] 2)) tg_ := fun tg_ kt_ => castTop (ef_excI0 m a ms) kt_
  obtain ⟨_, _, ⟨T1, L1, k1, n1⟩, -, X1, ⟨Lc1, hQ1, l1, y1, z1⟩, st1⟩ := X0.specialBack hx (y := mN47) rfl hown (mvT hZ (hw _ w_172)) (mvT hZ (hw _ w_173)) (mvT hZ (hw _ w_177)) (by decide) (backOfKL (W := 0) (rmthInit l Z a0 hw [] a ms u0 u1 u2 u3 us se h0 n0 O0 hl hp1 hp2 hp3 hp4 hp5 hp6 hp7 hp8 hp9 hp10 hus hse) hZ (hw _ w_177) (hw _ w_176) (by decide) (by decide) hTK hBelow) (g := (mkF m 2 #[vR a, vR ms] [(.ref ms), (.ref a)])) rfl (by rw [hml]; rfl) (Steps.refl _) (a := a) (argsL := [(.ref ms)]) (rest := []) (lenOf pd__Ljava_lang_String__V rfl) rfl (by show 2 * 0 + _ ≤ _; exact Nat.le_of_eq rfl) (hb hby d32_2) (fun _ _ => ⟨rfl, e0, (by decide : 0 + 1 ≤ _), (by decide : 0 + 2752 ≤ _)⟩)
  dsimp only [Pt.U, Pt.locs, Pt.cells, Pt.slots] at X1 l1 y1 z1 st1 hQ1
  subst l1 y1 z1
  obtain ⟨rfl, N1q, Kc1, r1_1, r1_2⟩ := hQ1
  have N1 := Fr.app N0 N1q
  have O1 : Old Z n0 T1.heap := O0.keep Kc1 (allS hp3 all0)
  have K1 : Keep h0 T1.heap [a] := (Keep.refl h0 [a]).trans Kc1 (allS (Or.inl (List.mem_of_getElem? (i := 0) rfl)) all0)
  obtain ⟨fs, hr, hrun, hended, hW, hsame⟩ := X1.leave (v := none) (fun _ => rfl)
  refine ⟨_, _, pre0 _ ?_, hrun, hended, _, _, rfl, ?_, ⟨_, rfl⟩, hW, hsame.mono (by decide) (by decide)⟩
  · refine XS.aloadN X0.here hx rfl (hb hby d32_0) rfl rfl ?_
    refine XS.aloadN X0.here hx rfl (hb hby d32_1) rfl rfl ?_
    refine st1.trans ?_
    exact X1.returnOut hx Bd.returns (hb hby d32_5) hr
  · show QexcI0 Z a ms u0 u1 u2 u3 us se h0 n0 _ T1.heap _
    exact ⟨rfl, N1, K1, r1_1, r1_2⟩
abbrev c31_ := jdk_58_method_2_code
theorem d31_0 : decode c31_ 0 = .ok (.aload_n 0, 1) := by decide +kernel
theorem d31_1 : decode c31_ 1 = .ok (.aload_n 1, 1) := by decide +kernel
theorem w_166 : (Cond.methodLink "java/lang/RuntimeException" (7 : Nat) mN48) ∈ tables_1 := List.mem_of_getElem? (i := 166) (by decide +kernel)
theorem w_171 : (Cond.code mN48 jdk_59_method_2_code (2 : Nat) (Option.none : Option Jvm.ClassFile.FieldType)) ∈ tables_1 := List.mem_of_getElem? (i := 171) (by decide +kernel)
theorem w_170 : (Cond.initialized "java/lang/Exception") ∈ tables_1 := List.mem_of_getElem? (i := 170) (by decide +kernel)
theorem d31_2 : decode c31_ 2 = .ok (.invokespecial 7, 3) := by decide +kernel
theorem w_167 : (Cond.instanceMethod mN48) ∈ tables_1 := List.mem_of_getElem? (i := 167) (by decide +kernel)
theorem d31_5 : decode c31_ 5 = .ok (.return_, 1) := by decide +kernel
abbrev mN49 : MethodName := ⟨"java/lang/RuntimeException", "<init>", "(Ljava/lang/String;)V"⟩
theorem ef_excI1 (m : MethodId) (x0 : Addr) (x1 : Addr) : entryFrame m #[(.ref x0), (.ref x1)] 2 = mkF m 0 #[vR x0, vR x1] [] := by first | (simp [entryFrame, mkF, argsToLocals, Value.category]; done) | rfl
def QexcI1 (Z : State) (a : Addr) (ms : Addr) (u0 : Value) (u1 : Value) (u2 : Value) (u3 : Value) (us : Value) (se : Value) (h0 : Heap) (n0 : Nat) (v : Option Value) (h : Heap) (L : List Loc) : Prop := v = none ∧ Fr n0 L ∧ Keep h0 h [a] ∧ Exa Z h a "com/example/levy/levy/store/StoreException" ∧ Fld Z h a "java/lang/Throwable" "detailMessage" "Ljava/lang/String;" (.ref ms)
theorem pn_java_lang_RuntimeException : plainName "java/lang/RuntimeException" = true := by first | (simp [plainName, overriddenIn]; done) | decide +kernel
set_option maxRecDepth 65536 in
set_option maxHeartbeats 40000000 in
theorem rmexcI1 (l : Launch) (Z : State) (a0 : Array Value) (hw : ∀ d ∈ tables_1, d.before a0 Z = true) (ws : List Jvm.Cond) (a : Addr) (ms : Addr) (u0 : Value) (u1 : Value) (u2 : Value) (u3 : Value) (us : Value) (se : Value) (h0 : Heap) (n0 : Nat) (O0 : Old Z n0 h0) (hl : (l.stackTraces = true)) (hp1 : Exa Z h0 a "com/example/levy/levy/store/StoreException") (hp2 : Unt h0 a) (hp3 : n0 ≤ a) (hp4 : Fld Z h0 a "java/lang/Throwable" "cause" "Ljava/lang/Throwable;" u0) (hp5 : Fld Z h0 a "java/lang/Throwable" "stackTrace" "[Ljava/lang/StackTraceElement;" u1) (hp6 : Fld Z h0 a "java/lang/Throwable" "suppressedExceptions" "Ljava/util/List;" u2) (hp7 : Fld Z h0 a "java/lang/Throwable" "detailMessage" "Ljava/lang/String;" u3) (hp8 : Fld Z h0 a "java/lang/Throwable" "backtrace" "Ljava/lang/Object;" .null) (hp9 : Sta Z Z.heap "java/lang/Throwable" "UNASSIGNED_STACK" "[Ljava/lang/StackTraceElement;" us) (hp10 : Sta Z Z.heap "java/lang/Throwable" "SUPPRESSED_SENTINEL" "Ljava/util/List;" se) (hus : (us.isRef = true)) (hse : (se.isRef = true)) :
    MetFree l mN49 (head1 (Jvm.Cond.code mN49 jdk_58_method_2_code 2 none :: ws) ({ frames := 5, cells := 1, slots := 2752, locals := 68 } : Room)) (fun as_ U => as_ = #[(.ref a), (.ref ms)] ∧ Z.Warmed39 U.vm ∧ U.heap = h0) (fun _ _ bl s _ => s.vm.MethodsKnown ∧ s.vm.FramesKnown bl) (fun _ U o U' => ∃ v L, o = .returned v ∧ QexcI1 Z a ms u0 u1 u2 u3 us se h0 n0 v U'.heap L ∧ FrameEnd U o U' L ({ frames := 5, cells := 1, slots := 2752, locals := 68 } : Room).cells ({ frames := 5, cells := 1, slots := 2752, locals := 68 } : Room).slots) := by
  refine MetFree.of_bodySF (plainFor_of_name pn_java_lang_RuntimeException) hisR ?_
  intro p e s m args below meth c s₁ Bd hml0 hP hK
  obtain ⟨rfl, hZ, hh⟩ := hP
  have hx := Bd.exec
  obtain ⟨hTK, hBelow⟩ := hK
  have hby := Bd.bytes
  have hml : c.maxLocals = 2 := hml0
  have hown : s.vm.findClass "java/lang/RuntimeException" = some m.cls := findClass_of_methodNamed Bd.named
  have hnm := (name_of_methodNamed Bd.named Bd.method).1
  have X0 : Stand p l e ({ frames := 5, cells := 1, slots := 2752, locals := 68 } : Room) s m #[(.ref a), (.ref ms)] below meth c s₁ [] 0 0 := Stand.of_body Bd
  have e0 : s₁.heap = h0 := by rw [← hh, Bd.state]; rfl
  have N0 := Fr.nil n0
  have Z0 := own_z0 O0
  have pre0 : ∀ tg_, Steps p.tables e below (s₁.setTop (mkF m 0 #[vR a, vR ms] [])) tg_ → Steps p.tables e below (s₁.setTop (entryFrame m #[(.ref a), (.ref ms)] 2)) tg_ := fun tg_ kt_ => castTop (ef_excI1 m a ms) kt_
  obtain ⟨_, _, ⟨T1, L1, k1, n1⟩, -, X1, ⟨Lc1, hQ1, l1, y1, z1⟩, st1⟩ := X0.specialBack hx (y := mN48) rfl hown (mvT hZ (hw _ w_166)) (mvT hZ (hw _ w_167)) (mvT hZ (hw _ w_171)) (by decide) (backOfKL (W := 0) (rmexcI0 l Z a0 hw [] a ms u0 u1 u2 u3 us se h0 n0 O0 hl hp1 hp2 hp3 hp4 hp5 hp6 hp7 hp8 hp9 hp10 hus hse) hZ (hw _ w_171) (hw _ w_170) (by decide) (by decide) hTK hBelow) (g := (mkF m 2 #[vR a, vR ms] [(.ref ms), (.ref a)])) rfl (by rw [hml]; rfl) (Steps.refl _) (a := a) (argsL := [(.ref ms)]) (rest := []) (lenOf pd__Ljava_lang_String__V rfl) rfl (by show 2 * 0 + _ ≤ _; exact Nat.le_of_eq rfl) (hb hby d31_2) (fun _ _ => ⟨rfl, e0, (by decide : 0 + 1 ≤ _), (by decide : 0 + 2752 ≤ _)⟩)
  dsimp only [Pt.U, Pt.locs, Pt.cells, Pt.slots] at X1 l1 y1 z1 st1 hQ1
  subst l1 y1 z1
  obtain ⟨rfl, N1q, Kc1, r1_1, r1_2⟩ := hQ1
  have N1 := Fr.app N0 N1q
  have O1 : Old Z n0 T1.heap := O0.keep Kc1 (allS hp3 all0)
  have K1 : Keep h0 T1.heap [a] := (Keep.refl h0 [a]).trans Kc1 (allS (Or.inl (List.mem_of_getElem? (i := 0) rfl)) all0)
  obtain ⟨fs, hr, hrun, hended, hW, hsame⟩ := X1.leave (v := none) (fun _ => rfl)
  refine ⟨_, _, pre0 _ ?_, hrun, hended, _, _, rfl, ?_, ⟨_, rfl⟩, hW, hsame.mono (by decide) (by decide)⟩
  · refine XS.aloadN X0.here hx rfl (hb hby d31_0) rfl rfl ?_
    refine XS.aloadN X0.here hx rfl (hb hby d31_1) rfl rfl ?_
    refine st1.trans ?_
    exact X1.returnOut hx Bd.returns (hb hby d31_5) hr
  · show QexcI1 Z a ms u0 u1 u2 u3 us se h0 n0 _ T1.heap _
    exact ⟨rfl, N1, K1, r1_1, r1_2⟩
theorem own_backSHK {p : Program} {l : Launch} {e : Env} {R : Room} {s : State} {args : Array Value} {below : List Frame} {Z : State} {a0 : Array Value} {EL : List (String × Nat)} {h : Heap} {vm0 : Vm} {y : MethodName} {bytes : ByteArray} {maxL : Nat} {ret : Option FieldType} {rm : Room} {len W : Nat} {as' : Array Value} {Q : Option Value → Heap → List Loc → Prop}
    (hM : MetFree l y (head1 [Cond.code y bytes maxL ret] rm) (fun a U => a = as' ∧ Z.Warmed39 U.vm ∧ U.heap = h ∧ CHv Z EL U.vm h) (fun _ _ bl s _ => s.vm.MethodsKnown ∧ s.vm.FramesKnown bl) (fun _ U o U' => ∃ v L, o = .returned v ∧ Q v U'.heap L ∧ CHr Z EL U.vm U.heap U'.vm U'.heap ∧ ReturnedEndW U o U' L rm.cells rm.slots))
    (hZ : Z.Warmed39 vm0) (wc : (Cond.code y bytes maxL ret).before a0 Z = true) (wz : (Cond.initialized y.cls).before a0 Z = true) (hf : rm.frames + 1 ≤ R.frames) (hl : W + (maxL + 11) + rm.locals ≤ R.locals) (hEL : EW Z a0 EL) (H : CHv Z EL vm0 h) (hTK : vm0.MethodsKnown) (hBelow : vm0.FramesKnown below) :
    BackS l R p e below (s.setVm vm0) args y len W (fun A a => a = as' ∧ A.U.heap = h ∧ A.cells + rm.cells ≤ R.cells ∧ A.slots + rm.slots ≤ R.slots)
      (fun A _ v B => ∃ L, Q v B.U.heap L ∧ B.locs = A.locs ++ L ∧ B.cells = A.cells + rm.cells ∧ B.slots = A.slots + rm.slots ∧ CHr Z EL vm0 h B.U.vm B.U.heap) := by
  refine Jvm.Free.BackS.of_freeWG (bytes := bytes) (maxL := maxL) (ret := ret) (E := fun _ first o t L k n => (k = rm.cells ∧ n = rm.slots) ∧ (∃ v, o = .returned v ∧ Q v t.heap L) ∧ CHr Z EL first.vm first.heap t.vm t.heap) hM hf hl ?_ ?_ ?_ ?_ ?_
  · intro m meth c A a Y hp
    have hU : Z.Warmed39 A.U.vm := wtrans (s := s.setVm vm0) hZ Y.warmed
    refine ⟨?_, mv hU wc, mv hU wz, hp.2.2.1, hp.2.2.2⟩
    show (Cond.and _ .tt).before a A.U = true
    rw [Cond.before_and, mv hU wc]; rfl
  · intro m meth c A a g mk Y hp
    exact ⟨hp.1, wtrans (s := s.setVm vm0) hZ Y.warmed, hp.2.1, (CHv.at Y hZ hEL H).1⟩
  · intro m meth c A a g mk Y _ hg
    exact Jvm.Free.known_frames Y hg hTK hBelow
  · rintro _ _ _ _ ⟨v, L, q1, q2, q3, q4⟩
    exact ⟨L, _, _, q4, ⟨rfl, rfl⟩, ⟨v, q1, q2⟩, q3⟩
  · rintro m meth c A a g mk v t L k n Y hp - - ⟨⟨rfl, rfl⟩, ⟨v', e3, e4⟩, e5⟩
    cases e3
    refine ⟨L, e4, rfl, rfl, rfl, (CHv.at Y hZ hEL H).trans ?_⟩
    rw [← hp.2.1]; exact e5
abbrev c30_ := prog_37_method_2_code
theorem d30_0 : decode c30_ 0 = .ok (.aload_n 0, 1) := by decide +kernel
theorem d30_1 : decode c30_ 1 = .ok (.aload_n 1, 1) := by decide +kernel
theorem w_161 : (Cond.methodLink "com/example/levy/levy/store/StoreException" (7 : Nat) mN49) ∈ tables_1 := List.mem_of_getElem? (i := 161) (by decide +kernel)
theorem w_165 : (Cond.code mN49 jdk_58_method_2_code (2 : Nat) (Option.none : Option Jvm.ClassFile.FieldType)) ∈ tables_1 := List.mem_of_getElem? (i := 165) (by decide +kernel)
theorem w_164 : (Cond.initialized "java/lang/RuntimeException") ∈ tables_1 := List.mem_of_getElem? (i := 164) (by decide +kernel)
theorem d30_2 : decode c30_ 2 = .ok (.invokespecial 7, 3) := by decide +kernel
theorem w_162 : (Cond.instanceMethod mN49) ∈ tables_1 := List.mem_of_getElem? (i := 162) (by decide +kernel)
theorem d30_5 : decode c30_ 5 = .ok (.return_, 1) := by decide +kernel
abbrev mN50 : MethodName := ⟨"com/example/levy/levy/store/StoreException", "<init>", "(Ljava/lang/String;)V"⟩
theorem ef_seInit (m : MethodId) (x0 : Addr) (x1 : Addr) : entryFrame m #[(.ref x0), (.ref x1)] 2 = mkF m 0 #[vR x0, vR x1] [] := by first | (simp [entryFrame, mkF, argsToLocals, Value.category]; done) | rfl
def QseInit (Z : State) (a : Addr) (ms : Addr) (u0 : Value) (u1 : Value) (u2 : Value) (u3 : Value) (us : Value) (se : Value) (h0 : Heap) (n0 : Nat) (v : Option Value) (h : Heap) (L : List Loc) : Prop := v = none ∧ Fr n0 L ∧ Keep h0 h [a] ∧ Exa Z h a "com/example/levy/levy/store/StoreException" ∧ Fld Z h a "java/lang/Throwable" "detailMessage" "Ljava/lang/String;" (.ref ms)
theorem pn_com_example_levy_levy_store_StoreException : plainName "com/example/levy/levy/store/StoreException" = true := by first | (simp [plainName, overriddenIn]; done) | decide +kernel
set_option maxRecDepth 65536 in
set_option maxHeartbeats 40000000 in
theorem rmseInit (l : Launch) (Z : State) (a0 : Array Value) (hw : ∀ d ∈ tables_1, d.before a0 Z = true) (ws : List Jvm.Cond) (a : Addr) (ms : Addr) (u0 : Value) (u1 : Value) (u2 : Value) (u3 : Value) (us : Value) (se : Value) (h0 : Heap) (n0 : Nat) (O0 : Old Z n0 h0) (hl : (l.stackTraces = true)) (hp1 : Exa Z h0 a "com/example/levy/levy/store/StoreException") (hp2 : Unt h0 a) (hp3 : n0 ≤ a) (hp4 : Fld Z h0 a "java/lang/Throwable" "cause" "Ljava/lang/Throwable;" u0) (hp5 : Fld Z h0 a "java/lang/Throwable" "stackTrace" "[Ljava/lang/StackTraceElement;" u1) (hp6 : Fld Z h0 a "java/lang/Throwable" "suppressedExceptions" "Ljava/util/List;" u2) (hp7 : Fld Z h0 a "java/lang/Throwable" "detailMessage" "Ljava/lang/String;" u3) (hp8 : Fld Z h0 a "java/lang/Throwable" "backtrace" "Ljava/lang/Object;" .null) (hp9 : Sta Z Z.heap "java/lang/Throwable" "UNASSIGNED_STACK" "[Ljava/lang/StackTraceElement;" us) (hp10 : Sta Z Z.heap "java/lang/Throwable" "SUPPRESSED_SENTINEL" "Ljava/util/List;" se) (hus : (us.isRef = true)) (hse : (se.isRef = true)) :
    MetFree l mN50 (head1 (Jvm.Cond.code mN50 prog_37_method_2_code 2 none :: ws) ({ frames := 6, cells := 1, slots := 2752, locals := 81 } : Room)) (fun as_ U => as_ = #[(.ref a), (.ref ms)] ∧ Z.Warmed39 U.vm ∧ U.heap = h0) (fun _ _ bl s _ => s.vm.MethodsKnown ∧ s.vm.FramesKnown bl) (fun _ U o U' => ∃ v L, o = .returned v ∧ QseInit Z a ms u0 u1 u2 u3 us se h0 n0 v U'.heap L ∧ FrameEnd U o U' L ({ frames := 6, cells := 1, slots := 2752, locals := 81 } : Room).cells ({ frames := 6, cells := 1, slots := 2752, locals := 81 } : Room).slots) := by
  refine MetFree.of_bodySF (plainFor_of_name pn_com_example_levy_levy_store_StoreException) hisR ?_
  intro p e s m args below meth c s₁ Bd hml0 hP hK
  obtain ⟨rfl, hZ, hh⟩ := hP
  have hx := Bd.exec
  obtain ⟨hTK, hBelow⟩ := hK
  have hby := Bd.bytes
  have hml : c.maxLocals = 2 := hml0
  have hown : s.vm.findClass "com/example/levy/levy/store/StoreException" = some m.cls := findClass_of_methodNamed Bd.named
  have hnm := (name_of_methodNamed Bd.named Bd.method).1
  have X0 : Stand p l e ({ frames := 6, cells := 1, slots := 2752, locals := 81 } : Room) s m #[(.ref a), (.ref ms)] below meth c s₁ [] 0 0 := Stand.of_body Bd
  have e0 : s₁.heap = h0 := by rw [← hh, Bd.state]; rfl
  have N0 := Fr.nil n0
  have Z0 := own_z0 O0
  have pre0 : ∀ tg_, Steps p.tables e below (s₁.setTop (mkF m 0 #[vR a, vR ms] [])) tg_ → Steps p.tables e below (s₁.setTop (entryFrame m #[(.ref a), (.ref ms)] 2)) tg_ := fun tg_ kt_ => castTop (ef_seInit m a ms) kt_
  obtain ⟨_, _, ⟨T1, L1, k1, n1⟩, -, X1, ⟨Lc1, hQ1, l1, y1, z1⟩, st1⟩ := X0.specialBack hx (y := mN49) rfl hown (mvT hZ (hw _ w_161)) (mvT hZ (hw _ w_162)) (mvT hZ (hw _ w_165)) (by decide) (backOfKL (W := 0) (rmexcI1 l Z a0 hw [] a ms u0 u1 u2 u3 us se h0 n0 O0 hl hp1 hp2 hp3 hp4 hp5 hp6 hp7 hp8 hp9 hp10 hus hse) hZ (hw _ w_165) (hw _ w_164) (by decide) (by decide) hTK hBelow) (g := (mkF m 2 #[vR a, vR ms] [(.ref ms), (.ref a)])) rfl (by rw [hml]; rfl) (Steps.refl _) (a := a) (argsL := [(.ref ms)]) (rest := []) (lenOf pd__Ljava_lang_String__V rfl) rfl (by show 2 * 0 + _ ≤ _; exact Nat.le_of_eq rfl) (hb hby d30_2) (fun _ _ => ⟨rfl, e0, (by decide : 0 + 1 ≤ _), (by decide : 0 + 2752 ≤ _)⟩)
  dsimp only [Pt.U, Pt.locs, Pt.cells, Pt.slots] at X1 l1 y1 z1 st1 hQ1
  subst l1 y1 z1
  obtain ⟨rfl, N1q, Kc1, r1_1, r1_2⟩ := hQ1
  have N1 := Fr.app N0 N1q
  have O1 : Old Z n0 T1.heap := O0.keep Kc1 (allS hp3 all0)
  have K1 : Keep h0 T1.heap [a] := (Keep.refl h0 [a]).trans Kc1 (allS (Or.inl (List.mem_of_getElem? (i := 0) rfl)) all0)
  obtain ⟨fs, hr, hrun, hended, hW, hsame⟩ := X1.leave (v := none) (fun _ => rfl)
  refine ⟨_, _, pre0 _ ?_, hrun, hended, _, _, rfl, ?_, ⟨_, rfl⟩, hW, hsame.mono (by decide) (by decide)⟩
  · refine XS.aloadN X0.here hx rfl (hb hby d30_0) rfl rfl ?_
    refine XS.aloadN X0.here hx rfl (hb hby d30_1) rfl rfl ?_
    refine st1.trans ?_
    exact X1.returnOut hx Bd.returns (hb hby d30_5) hr
  · show QseInit Z a ms u0 u1 u2 u3 us se h0 n0 _ T1.heap _
    exact ⟨rfl, N1, K1, r1_1, r1_2⟩
abbrev c36_ := jdk_78_method_6_code
theorem d36_0 : decode c36_ 0 = .ok (.aload_n 0, 1) := by decide +kernel
theorem d36_1 : decode c36_ 1 = .ok (.getfield 31, 3) := by decide +kernel
theorem d36_4 : decode c36_ 4 = .ok (.areturn, 1) := by decide +kernel
abbrev mN51 : MethodName := ⟨"java/lang/Throwable", "getMessage", "()Ljava/lang/String;"⟩
theorem ef_getMsg (m : MethodId) (x0 : Addr) : entryFrame m #[(.ref x0)] 1 = mkF m 0 #[vR x0] [] := by first | (simp [entryFrame, mkF, argsToLocals, Value.category]; done) | rfl
def QgetMsg (Z : State) (a : Addr) (ms : Addr) (h0 : Heap) (n0 : Nat) (v : Option Value) (h : Heap) (L : List Loc) : Prop := v = some (.ref ms) ∧ Fr n0 L ∧ h = h0
set_option maxRecDepth 65536 in
set_option maxHeartbeats 40000000 in
theorem rmgetMsg (l : Launch) (Z : State) (a0 : Array Value) (hw : ∀ d ∈ tables_1, d.before a0 Z = true) (ws : List Jvm.Cond) (a : Addr) (ms : Addr) (h0 : Heap) (n0 : Nat) (O0 : Old Z n0 h0) (hp0 : Fld Z h0 a "java/lang/Throwable" "detailMessage" "Ljava/lang/String;" (.ref ms)) :
    MetFree l mN51 (head1 (Jvm.Cond.code mN51 jdk_78_method_6_code 1 (some (.object "java/lang/String")) :: ws) ({ frames := 0, cells := 0, slots := 0, locals := 0 } : Room)) (fun as_ U => as_ = #[(.ref a)] ∧ Z.Warmed39 U.vm ∧ U.heap = h0) (fun _ _ _ _ _ => True) (fun _ U o U' => ∃ v L, o = .returned v ∧ QgetMsg Z a ms h0 n0 v U'.heap L ∧ FrameEnd U o U' L ({ frames := 0, cells := 0, slots := 0, locals := 0 } : Room).cells ({ frames := 0, cells := 0, slots := 0, locals := 0 } : Room).slots) := by
  refine MetFree.of_bodySF (plainFor_of_name pn_java_lang_Throwable) hisR ?_
  intro p e s m args below meth c s₁ Bd hml0 hP hK
  obtain ⟨rfl, hZ, hh⟩ := hP
  have hx := Bd.exec
  have hby := Bd.bytes
  have hml : c.maxLocals = 1 := hml0
  have hown : s.vm.findClass "java/lang/Throwable" = some m.cls := findClass_of_methodNamed Bd.named
  have hnm := (name_of_methodNamed Bd.named Bd.method).1
  have X0 : Stand p l e ({ frames := 0, cells := 0, slots := 0, locals := 0 } : Room) s m #[(.ref a)] below meth c s₁ [] 0 0 := Stand.of_body Bd
  have e0 : s₁.heap = h0 := by rw [← hh, Bd.state]; rfl
  have N0 := Fr.nil n0
  have Z0 := own_z0 O0
  have pre0 : ∀ tg_, Steps p.tables e below (s₁.setTop (mkF m 0 #[vR a] [])) tg_ → Steps p.tables e below (s₁.setTop (entryFrame m #[(.ref a)] 1)) tg_ := fun tg_ kt_ => castTop (ef_getMsg m a) kt_
  obtain ⟨T1, X1, e1, st1⟩ := getF X0 hx hZ hown (host := "") (Or.inl (hw _ w_214)) Via.refl e0 hp0 (g := (mkF m 1 #[vR a] [(.ref a)])) rfl rfl (hb hby d36_1)
  obtain ⟨fs, hr, hrun, hended, hW, hsame⟩ := X1.leave (v := some (.ref ms)) (fun h => by rw [Bd.returns] at h; cases h)
  refine ⟨_, _, pre0 _ ?_, hrun, hended, _, _, rfl, ?_, ⟨_, rfl⟩, hW, hsame.mono (by decide) (by decide)⟩
  · refine XS.aloadN X0.here hx rfl (hb hby d36_0) rfl rfl ?_
    refine st1 _ ?_
    jvm_step X1.here [X1.here.top, hx, (hb hby d36_4), X1.method', Bd.returns, Value.isRef, FieldType.isReference]
    first | (intro acts; rw [hr _ acts rfl rfl rfl]) | rw [hr _ _ rfl rfl rfl]
    exact Steps.refl _
  · show QgetMsg Z a ms h0 n0 _ T1.heap _
    rw [e1]
    exact ⟨rfl, N0, rfl⟩
theorem w_26 : (Cond.classLink "com/example/levy/levy/store/StoreException" (10 : Nat) "com/example/levy/levy/store/StoreException") ∈ tables_1 := List.mem_of_getElem? (i := 26) (by decide +kernel)
theorem w_24 : (Cond.initialized "com/example/levy/levy/store/StoreException") ∈ tables_1 := List.mem_of_getElem? (i := 24) (by decide +kernel)
abbrev c4_ := prog_37_method_3_code
theorem d4_0 : decode c4_ 0 = .ok (.new 10, 3) := by decide +kernel
theorem d4_3 : decode c4_ 3 = .ok (.dup, 1) := by decide +kernel
theorem w_28 : (Cond.classLink "com/example/levy/levy/store/StoreException" (12 : Nat) "java/lang/StringBuilder") ∈ tables_1 := List.mem_of_getElem? (i := 28) (by decide +kernel)
theorem d4_4 : decode c4_ 4 = .ok (.new 12, 3) := by decide +kernel
theorem d4_7 : decode c4_ 7 = .ok (.dup, 1) := by decide +kernel
theorem w_31 : (Cond.methodLink "com/example/levy/levy/store/StoreException" (14 : Nat) mN34) ∈ tables_1 := List.mem_of_getElem? (i := 31) (by decide +kernel)
theorem w_33 : (Cond.code mN34 jdk_67_method_1_code (1 : Nat) (Option.none : Option Jvm.ClassFile.FieldType)) ∈ tables_1 := List.mem_of_getElem? (i := 33) (by decide +kernel)
theorem d4_8 : decode c4_ 8 = .ok (.invokespecial 14, 3) := by decide +kernel
theorem w_32 : (Cond.instanceMethod mN34) ∈ tables_1 := List.mem_of_getElem? (i := 32) (by decide +kernel)
theorem d4_11 : decode c4_ 11 = .ok (.ldc 17, 2) := by decide +kernel
theorem w_47 : (Cond.methodLink "com/example/levy/levy/store/StoreException" (19 : Nat) mN32) ∈ tables_1 := List.mem_of_getElem? (i := 47) (by decide +kernel)
theorem w_51 : (Cond.code mN32 jdk_67_method_7_code (2 : Nat) (Option.some (FieldType.object "java/lang/StringBuilder"))) ∈ tables_1 := List.mem_of_getElem? (i := 51) (by decide +kernel)
theorem pd__Ljava_lang_String__Ljava_lang_StringBuilder_ : parseMethodDescriptor "(Ljava/lang/String;)Ljava/lang/StringBuilder;" = some ⟨[(.object "java/lang/String")], some (.object "java/lang/StringBuilder")⟩ := by decide +kernel
theorem d4_13 : decode c4_ 13 = .ok (.invokevirtual 19, 3) := by decide +kernel
theorem w_50 : (Cond.selects "java/lang/StringBuilder" mN32 mN32) ∈ tables_1 := List.mem_of_getElem? (i := 50) (by decide +kernel)
theorem w_48 : (Cond.declares mN32) ∈ tables_1 := List.mem_of_getElem? (i := 48) (by decide +kernel)
theorem w_49 : (Cond.instanceMethod mN32) ∈ tables_1 := List.mem_of_getElem? (i := 49) (by decide +kernel)
theorem d4_16 : decode c4_ 16 = .ok (.aload_n 0, 1) := by decide +kernel
theorem d4_17 : decode c4_ 17 = .ok (.invokevirtual 19, 3) := by decide +kernel
theorem d4_20 : decode c4_ 20 = .ok (.ldc 23, 2) := by decide +kernel
theorem d4_22 : decode c4_ 22 = .ok (.invokevirtual 19, 3) := by decide +kernel
theorem d4_25 : decode c4_ 25 = .ok (.aload_n 1, 1) := by decide +kernel
theorem d4_26 : decode c4_ 26 = .ok (.invokevirtual 19, 3) := by decide +kernel
theorem w_119 : (Cond.methodLink "com/example/levy/levy/store/StoreException" (25 : Nat) mN43) ∈ tables_1 := List.mem_of_getElem? (i := 119) (by decide +kernel)
theorem w_123 : (Cond.code mN43 jdk_67_method_42_code (1 : Nat) (Option.some (FieldType.object "java/lang/String"))) ∈ tables_1 := List.mem_of_getElem? (i := 123) (by decide +kernel)
theorem pd___Ljava_lang_String_ : parseMethodDescriptor "()Ljava/lang/String;" = some ⟨[], some (.object "java/lang/String")⟩ := by decide +kernel
theorem d4_29 : decode c4_ 29 = .ok (.invokevirtual 25, 3) := by decide +kernel
theorem w_122 : (Cond.selects "java/lang/StringBuilder" mN43 mN43) ∈ tables_1 := List.mem_of_getElem? (i := 122) (by decide +kernel)
theorem w_120 : (Cond.declares mN43) ∈ tables_1 := List.mem_of_getElem? (i := 120) (by decide +kernel)
theorem w_121 : (Cond.instanceMethod mN43) ∈ tables_1 := List.mem_of_getElem? (i := 121) (by decide +kernel)
theorem w_158 : (Cond.methodLink "com/example/levy/levy/store/StoreException" (29 : Nat) mN50) ∈ tables_1 := List.mem_of_getElem? (i := 158) (by decide +kernel)
theorem w_160 : (Cond.code mN50 prog_37_method_2_code (2 : Nat) (Option.none : Option Jvm.ClassFile.FieldType)) ∈ tables_1 := List.mem_of_getElem? (i := 160) (by decide +kernel)
theorem d4_32 : decode c4_ 32 = .ok (.invokespecial 29, 3) := by decide +kernel
theorem w_159 : (Cond.instanceMethod mN50) ∈ tables_1 := List.mem_of_getElem? (i := 159) (by decide +kernel)
theorem d4_35 : decode c4_ 35 = .ok (.areturn, 1) := by decide +kernel
abbrev mN52 : MethodName := ⟨"com/example/levy/levy/store/StoreException", "unknown", "(Ljava/lang/String;Ljava/lang/String;)Lcom/example/levy/levy/store/StoreException;"⟩
theorem ef_unknown (m : MethodId) (x0 : Addr) (x1 : Addr) : entryFrame m #[(.ref x0), (.ref x1)] 2 = mkF m 0 #[vR x0, vR x1] [] := by first | (simp [entryFrame, mkF, argsToLocals, Value.category]; done) | rfl
def Qunknown (Z : State) (wa : Addr) (ca : Addr) (tw : Addr) (kw : ClassId) (dw : List Int32) (tc : Addr) (kc : ClassId) (dc : List Int32) (cz : Int32) (sf : Value) (us : Value) (se : Value) (h0 : Heap) (n0 : Nat) (v : Option Value) (h : Heap) (L : List Loc) : Prop := ∃ (r : Addr), ∃ (ms : Addr), ∃ (tm : Addr), ∃ (km : ClassId), v = some (.ref r) ∧ Fr n0 L ∧ Keep h0 h [] ∧ h0.size ≤ r ∧ h0.size ≤ ms ∧ Exa Z h r "com/example/levy/levy/store/StoreException" ∧ Fld Z h r "java/lang/Throwable" "detailMessage" "Ljava/lang/String;" (.ref ms) ∧ Exa Z h ms "java/lang/String" ∧ Fld Z h ms "java/lang/String" "value" "[B" (.ref tm) ∧ Fld Z h ms "java/lang/String" "coder" "B" (.int (own_i (own_cd (own_xs dw dc)))) ∧ Arv Z h tm km .byte (own_i (own_wd (own_cd (own_xs dw dc)) (own_xs dw dc).length)) ((own_enc (own_cd (own_xs dw dc)) (own_xs dw dc)).map Value.int) (.int 0)
set_option maxRecDepth 65536 in
set_option maxHeartbeats 40000000 in
theorem rmunknown (l : Launch) (Z : State) (a0 : Array Value) (hw : ∀ d ∈ tables_1, d.before a0 Z = true) (ws : List Jvm.Cond) (wa : Addr) (ca : Addr) (tw : Addr) (kw : ClassId) (dw : List Int32) (tc : Addr) (kc : ClassId) (dc : List Int32) (cz : Int32) (sf : Value) (us : Value) (se : Value) (h0 : Heap) (n0 : Nat) (O0 : Old Z n0 h0) (hp0 : Exa Z h0 wa "java/lang/String") (hp1 : Fld Z h0 wa "java/lang/String" "value" "[B" (.ref tw)) (hp2 : Fld Z h0 wa "java/lang/String" "coder" "B" (.int (own_i (own_cd dw)))) (hp3 : Arv Z h0 tw kw .byte (own_i (own_wd (own_cd dw) dw.length)) ((own_enc (own_cd dw) dw).map Value.int) (.int 0)) (hp4 : Exa Z h0 ca "java/lang/String") (hp5 : Fld Z h0 ca "java/lang/String" "value" "[B" (.ref tc)) (hp6 : Fld Z h0 ca "java/lang/String" "coder" "B" (.int (own_i (own_cd dc)))) (hp7 : Arv Z h0 tc kc .byte (own_i (own_wd (own_cd dc) dc.length)) ((own_enc (own_cd dc) dc).map Value.int) (.int 0)) (hp8 : Sta Z Z.heap "java/lang/StringUTF16" "$assertionsDisabled" "Z" (.int 1)) (hp9 : Sta Z Z.heap "java/lang/StringUTF16" "HI_BYTE_SHIFT" "I" (.int 0)) (hp10 : Sta Z Z.heap "java/lang/StringUTF16" "LO_BYTE_SHIFT" "I" (.int 8)) (hp11 : Sta Z Z.heap "jdk/internal/util/Preconditions" "SIOOBE_FORMATTER" "Ljava/util/function/BiFunction;" sf) (hsf : (sf.isRef = true)) (hp13 : Sta Z Z.heap "java/lang/String" "COMPACT_STRINGS" "Z" (.int cz)) (hcz : (¬ (cz = (0 : Int32)))) (hl : (l.stackTraces = true)) (hp16 : Sta Z Z.heap "java/lang/Throwable" "UNASSIGNED_STACK" "[Ljava/lang/StackTraceElement;" us) (hp17 : Sta Z Z.heap "java/lang/Throwable" "SUPPRESSED_SENTINEL" "Ljava/util/List;" se) (hus : (us.isRef = true)) (hse : (se.isRef = true)) (hdw : (own_Ch dw)) (hdc : (own_Ch dc)) (hlw : (dw.length = 0 ∨ dw.length = 2)) (hlc_ : (dc.length = 0 ∨ dc.length = 2)) :
    MetFree l mN52 (head1 (Jvm.Cond.code mN52 prog_37_method_3_code 2 (some (.object "com/example/levy/levy/store/StoreException")) :: ws) ({ frames := 10, cells := 18, slots := 5034, locals := 145 } : Room)) (fun as_ U => as_ = #[(.ref wa), (.ref ca)] ∧ Z.Warmed39 U.vm ∧ U.heap = h0 ∧ CHv Z own_EL U.vm h0) (fun _ _ bl s _ => s.vm.MethodsKnown ∧ s.vm.FramesKnown bl) (fun _ U o U' => ∃ v L, o = .returned v ∧ Qunknown Z wa ca tw kw dw tc kc dc cz sf us se h0 n0 v U'.heap L ∧ CHr Z own_EL U.vm U.heap U'.vm U'.heap ∧ ReturnedEndW U o U' L ({ frames := 10, cells := 18, slots := 5034, locals := 145 } : Room).cells ({ frames := 10, cells := 18, slots := 5034, locals := 145 } : Room).slots) := by
  refine MetFree.of_bodySF (plainFor_of_name pn_com_example_levy_levy_store_StoreException) hisR ?_
  intro p e s m args below meth c s₁ Bd hml0 hP hK
  obtain ⟨rfl, hZ, hh, HC0⟩ := hP
  have hx := Bd.exec
  obtain ⟨hTK, hBelow⟩ := hK
  have hby := Bd.bytes
  have hml : c.maxLocals = 2 := hml0
  have hown : s.vm.findClass "com/example/levy/levy/store/StoreException" = some m.cls := findClass_of_methodNamed Bd.named
  have hnm := (name_of_methodNamed Bd.named Bd.method).1
  have X0 : Stand p l e ({ frames := 10, cells := 18, slots := 5034, locals := 145 } : Room) (s.setVm s.vm) m #[(.ref wa), (.ref ca)] below meth c s₁ [] 0 0 := Stand.of_body Bd
  have hS : s.Since s.vm 0 := (State.WarmedH.refl s).since 0
  have hk : 0 ≤ h0.size := Nat.zero_le _
  have hEL := own_EW hw
  have wS := own_wS hw
  have hZ : Z.Warmed39 (s.setVm s.vm).vm := hZ
  have hown : (s.setVm s.vm).vm.findClass "com/example/levy/levy/store/StoreException" = some m.cls := hown
  have e0 : s₁.heap = h0 := by rw [← hh, Bd.state]; rfl
  have N0 := Fr.nil n0
  have Z0 := own_z0 O0
  have pre0 : ∀ tg_, Steps p.tables e below (s₁.setTop (mkF m 0 #[vR wa, vR ca] [])) tg_ → Steps p.tables e below (s₁.setTop (entryFrame m #[(.ref wa), (.ref ca)] 2)) tg_ := fun tg_ kt_ => castTop (ef_unknown m wa ca) kt_
  have hZ0_ := hZ
  obtain ⟨T1, h1, X1, e1, E1, A1, D1, U1, st1⟩ := newO X0 hx hZ hown (hw _ w_26) (hw _ w_27) (hw _ w_24) e0 (g := (mkF m 0 #[vR wa, vR ca] [])) rfl (hb hby d4_0) (by decide) (by decide)
  obtain ⟨b1, g1⟩ : ∃ z, z = h0.size := ⟨_, rfl⟩
  rw [← g1] at A1 D1 U1 st1
  have Un1 : Unt h1 b1 := U1
  have sz1 : h0.size ≤ b1 := Nat.le_trans (Keep.refl h0 []).1 (Nat.le_of_eq g1.symm)
  have gn1 : n0 ≤ b1 := Nat.le_trans Z0 sz1
  have O1 : Old Z n0 h1 := O0.ext E1
  have K1 : Keep h0 h1 [] := (Keep.refl h0 []).ext E1
  have hk := Nat.le_trans hk E1.1
  have HC1 := CHv.ext E1 HC0
  have RC1 := (CHr.refl HC0).trans (CHr.ext E1 HC0)
  have F1_180 : Fld Z h1 b1 "java/lang/Throwable" "cause" "Ljava/lang/Throwable;" .null := D1 (Or.inl (hw _ w_180)) (ty := (.object "java/lang/Throwable")) (by decide)
  have F1_183 : Fld Z h1 b1 "java/lang/Throwable" "stackTrace" "[Ljava/lang/StackTraceElement;" .null := D1 (Or.inl (hw _ w_183)) (ty := (.array (.object "java/lang/StackTraceElement"))) (by decide)
  have F1_186 : Fld Z h1 b1 "java/lang/Throwable" "suppressedExceptions" "Ljava/util/List;" .null := D1 (Or.inl (hw _ w_186)) (ty := (.object "java/util/List")) (by decide)
  have F1_210 : Fld Z h1 b1 "java/lang/Throwable" "detailMessage" "Ljava/lang/String;" .null := D1 (Or.inl (hw _ w_210)) (ty := (.object "java/lang/String")) (by decide)
  have F1_211 : Fld Z h1 b1 "java/lang/Throwable" "backtrace" "Ljava/lang/Object;" .null := D1 (Or.inl (hw _ w_211)) (ty := (.object "java/lang/Object")) (by decide)
  have F1_212 : Fld Z h1 b1 "java/lang/Throwable" "depth" "I" (.int 0) := D1 (Or.inl (hw _ w_212)) (ty := .int) (by decide)
  obtain ⟨T3, h3, X3, e3, E3, A3, D3, U3, st3⟩ := newO X1 hx hZ hown (hw _ w_28) (hw _ w_29) (hw _ w_30) e1 (g := (mkF m 4 #[vR wa, vR ca] [(.ref b1), (.ref b1)])) rfl (hb hby d4_4) (by decide) (by decide)
  obtain ⟨b3, g3⟩ : ∃ z, z = h1.size := ⟨_, rfl⟩
  rw [← g3] at A3 D3 U3 st3
  have Un3 : Unt h3 b3 := U3
  have sz3 : h0.size ≤ b3 := Nat.le_trans K1.1 (Nat.le_of_eq g3.symm)
  have gn3 : n0 ≤ b3 := Nat.le_trans Z0 sz3
  have O3 : Old Z n0 h3 := O1.ext E3
  have K3 : Keep h0 h3 [] := K1.ext E3
  have hk := Nat.le_trans hk E3.1
  have HC3 := CHv.ext E3 HC1
  have RC3 := RC1.trans (CHr.ext E3 HC1)
  have F3_43 : Fld Z h3 b3 "java/lang/AbstractStringBuilder" "value" "[B" .null := D3 (Or.inl (hw _ w_43)) (ty := (.array .byte)) (by decide)
  have F3_45 : Fld Z h3 b3 "java/lang/AbstractStringBuilder" "coder" "B" (.int 0) := D3 (Or.inl (hw _ w_45)) (ty := .byte) (by decide)
  have F3_69 : Fld Z h3 b3 "java/lang/AbstractStringBuilder" "count" "I" (.int 0) := D3 (Or.inl (hw _ w_69)) (ty := .int) (by decide)
  have F3_294 : Fld Z h3 b3 "java/lang/AbstractStringBuilder" "maybeLatin1" "Z" (.int 0) := D3 (Or.inl (hw _ w_294)) (ty := .boolean) (by decide)
  obtain ⟨_, _, ⟨T5, L5, k5, n5⟩, -, X5, ⟨Lc5, hQ5, l5, y5, z5⟩, st5⟩ := X3.specialBack hx (y := mN34) rfl hown (mvT hZ (hw _ w_31)) (mvT hZ (hw _ w_32)) (mvT hZ (hw _ w_33)) (by decide) (backOf (W := 3) (rmsbInit l Z a0 hw [] b3 .null (.int 0) cz h3 n0 O3 A3 gn3 F3_43 F3_45 F3_69 F3_294 hp13 hcz) hZ (hw _ w_33) (hw _ w_30) (by decide) (by decide)) (g := (mkF m 8 #[vR wa, vR ca] [(.ref b3), (.ref b3), (.ref b1), (.ref b1)])) rfl (by rw [hml]; rfl) (Steps.refl _) (a := b3) (argsL := []) (rest := [(.ref b3), (.ref b1), (.ref b1)]) (lenOf pd___V rfl) rfl (by show 2 * 0 + _ ≤ _; exact Nat.le_of_eq rfl) (hb hby d4_8) (fun _ _ => ⟨rfl, e3, (by decide : 2 + 1 ≤ _), (by decide : 10 + 16 ≤ _)⟩)
  dsimp only [Pt.U, Pt.locs, Pt.cells, Pt.slots] at X5 l5 y5 z5 st5 hQ5
  subst l5 y5 z5
  obtain ⟨t_5, kt_5, rfl, N5q, Kc5, r5_1, r5_2, r5_3, r5_4, r5_5, r5_6, r5_7⟩ := hQ5
  have N5 := Fr.app N0 N5q
  have sz6 : h0.size ≤ t_5 := Nat.le_trans K3.1 r5_1
  have gn6 : n0 ≤ t_5 := Nat.le_trans Z0 sz6
  have O5 : Old Z n0 T5.heap := O3.keep Kc5 (allS gn3 all0)
  have K5 : Keep h0 T5.heap [] := K3.trans Kc5 (allS (Or.inr sz3) all0)
  have hk := Nat.le_trans hk Kc5.1
  have HC5 := CHv.keep Kc5 (allS (Safe.exa hZ0_.alike A3 (by decide) (by decide)) all0) HC3
  have RC5 := RC3.trans (CHr.keep Kc5 (allS (Safe.exa hZ0_.alike A3 (by decide) (by decide)) all0) HC3)
  obtain ⟨a8, T8, h8, kq8, sb8, kb8, X8, e8, E8, hS, hk, hZ, hown, A8, Fc8, Fv8, V8, lt8, lu8, R8, Li8, Sf8, st8⟩ := ldcCH X5 hx hZ hown (hw _ w_46) wS rfl hS hk hEL (by decide) HC5 (vs := [(.int 116), (.int 104), (.int 101), (.int 32), (.int 100), (.int 97), (.int 116), (.int 97), (.int 32), (.int 102), (.int 105), (.int 108), (.int 101), (.int 32), (.int 104), (.int 111), (.int 108), (.int 100), (.int 115), (.int 32), (.int 97), (.int 110), (.int 32), (.int 117), (.int 110), (.int 107), (.int 110), (.int 111), (.int 119), (.int 110), (.int 32)]) (z := (31 : Int32)) ⟨by decide, by decide⟩ (by decide) (by decide) (g := (mkF m 11 #[vR wa, vR ca] [(.ref b3), (.ref b1), (.ref b1)])) rfl (hb hby d4_11) (n := 124) (by decide) (by decide) (by decide) (by decide)
  have hZ8 := hZ
  have O8 : Old Z n0 h8 := O5.ext E8
  have K8 : Keep h0 h8 [] := K5.ext E8
  have HC8 := R8.1
  have RC8 := RC5.trans R8
  have Fr9 : Fld Z h8 a8 "java/lang/String" "coder" "B" (.int (own_i (own_cd own_k1))) := by
    have q := Fc8
    exact q
  have Fr10 : Arv Z h8 sb8 kb8 .byte (own_i (own_wd (own_cd own_k1) own_k1.length)) ((own_enc (own_cd own_k1) own_k1).map Value.int) (.int 0) := by
    have q := V8
    exact q
  obtain ⟨cq11, kq11, q11a, q11b, q11c⟩ := isOf hZ e8 (r5_2.ext E8)
  obtain ⟨_, _, ⟨T11, L11, k11, n11⟩, -, X11, ⟨Lc11, hQ11, l11, y11, z11⟩, st11⟩ := X8.virtualBack hx (y := mN32) (z := mN32) hown (mvT hZ (hw _ w_47)) (mvT hZ (hw _ w_48)) (notFace_of_selects (args := #[]) (mvT hZ (hw _ w_50))) (mvT hZ (hw _ w_50)) (mvT hZ (hw _ w_49)) (by decide) (backOf (W := 2) (rmsbApp l Z a0 hw [] b3 a8 sb8 kb8 own_k1 cz sf t_5 kt_5 ([] : List Int32) 16 h8 n0 O8 (r5_2.ext E8) (r5_3.ext E8) (r5_4.ext E8) (r5_5.ext E8) (r5_6.ext E8) (r5_7.ext E8) gn3 gn6 A8 Fv8 Fr9 Fr10 (Ne.symm (Sf8 _ (CHr.safe R8 r5_7.lt (Safe.keep Kc5 (allS (Safe.exa hZ0_.alike A3 (by decide) (by decide)) all0) HC3 (Safe.new (Z := Z) (EL := own_EL) (vm := _) r5_1)))).2) (by (try simp only [List.length_append, List.length_nil, show own_k1.length = 31 from rfl, show own_k2.length = 2 from rfl]); omega) (by (try simp only [own_ec, own_nc, List.length_append, List.length_nil, show own_k1.length = 31 from rfl, show own_k2.length = 2 from rfl]); (repeat' split) <;> omega) (by (try simp only [own_ec, own_nc, List.length_append, List.length_nil, show own_k1.length = 31 from rfl, show own_k2.length = 2 from rfl]); (repeat' split) <;> omega) (by (try simp only [own_ec, own_nc, List.length_append, List.length_nil, show own_k1.length = 31 from rfl, show own_k2.length = 2 from rfl]); (repeat' split) <;> omega) own_chn own_chk1 hp8 hp9 hp10 hp11 hsf hp13 hcz) hZ (hw _ w_51) (hw _ w_30) (by decide) (by decide)) q11a q11c (g := (mkF m 13 #[vR wa, vR ca] [(.ref a8), (.ref b3), (.ref b1), (.ref b1)])) rfl (by rw [hml]; rfl) (Steps.refl _) (argsL := [(.ref a8)]) (rest := [(.ref b1), (.ref b1)]) (lenOf pd__Ljava_lang_String__Ljava_lang_StringBuilder_ rfl) rfl (by show 2 * 0 + _ ≤ _; exact Nat.le_of_eq rfl) (hb hby d4_13) (fun _ _ => ⟨rfl, e8, (by decide : 5 + 2 ≤ _), (by decide : 154 + 488 ≤ _)⟩)
  dsimp only [Pt.U, Pt.locs, Pt.cells, Pt.slots] at X11 l11 y11 z11 st11 hQ11
  subst l11 y11 z11
  obtain ⟨vb2_11, kv2_11, rfl, N11q, Kc11, r11_1, r11_2, r11_3, r11_4, r11_5, r11_6, r11_7⟩ := hQ11
  have N11 := Fr.app N5 N11q
  have sz12 : h0.size ≤ vb2_11 := own_zy r11_1 sz6 K8.1
  have gn12 : n0 ≤ vb2_11 := Nat.le_trans Z0 sz12
  have O11 : Old Z n0 T11.heap := O8.keep Kc11 (allS gn3 (allS gn6 all0))
  have K11 : Keep h0 T11.heap [] := K8.trans Kc11 (allS (Or.inr sz3) (allS (Or.inr sz6) all0))
  have hk := Nat.le_trans hk Kc11.1
  have HC11 := CHv.keep Kc11 (allS (Safe.exa hZ8.alike (r5_2.ext E8) (by decide) (by decide)) (allS (CHr.safe R8 r5_7.lt (Safe.keep Kc5 (allS (Safe.exa hZ0_.alike A3 (by decide) (by decide)) all0) HC3 (Safe.new (Z := Z) (EL := own_EL) (vm := _) r5_1))) all0)) HC8
  have RC11 := RC8.trans (CHr.keep Kc11 (allS (Safe.exa hZ8.alike (r5_2.ext E8) (by decide) (by decide)) (allS (CHr.safe R8 r5_7.lt (Safe.keep Kc5 (allS (Safe.exa hZ0_.alike A3 (by decide) (by decide)) all0) HC3 (Safe.new (Z := Z) (EL := own_EL) (vm := _) r5_1))) all0)) HC8)
  obtain ⟨cq13, kq13, q13a, q13b, q13c⟩ := isOf hZ rfl r11_2
  obtain ⟨_, _, ⟨T13, L13, k13, n13⟩, -, X13, ⟨Lc13, hQ13, l13, y13, z13⟩, st13⟩ := X11.virtualBack hx (y := mN32) (z := mN32) hown (mvT hZ (hw _ w_47)) (mvT hZ (hw _ w_48)) (notFace_of_selects (args := #[]) (mvT hZ (hw _ w_50))) (mvT hZ (hw _ w_50)) (mvT hZ (hw _ w_49)) (by decide) (backOf (W := 2) (rmsbApp l Z a0 hw [] b3 wa tw kw dw cz sf vb2_11 kv2_11 (([] : List Int32) ++ own_k1) (own_ec 16 (([] : List Int32).length + own_k1.length)) T11.heap n0 O11 r11_2 r11_3 r11_4 r11_5 r11_6 r11_7 gn3 gn12 (((((hp0.ext E1).ext E3).keep Kc5).ext E8).keep Kc11) (((((hp1.ext E1).ext E3).keep Kc5 (ninS (Nat.ne_of_lt (Nat.lt_of_lt_of_le (hp0.ext E1).lt (Nat.le_of_eq g3.symm))) nin0)).ext E8).keep Kc11 (ninS (Nat.ne_of_lt (Nat.lt_of_lt_of_le (hp0.ext E1).lt (Nat.le_of_eq g3.symm))) (ninS (Nat.ne_of_lt (Nat.lt_of_lt_of_le ((hp0.ext E1).ext E3).lt r5_1)) nin0))) (((((hp2.ext E1).ext E3).keep Kc5 (ninS (Nat.ne_of_lt (Nat.lt_of_lt_of_le (hp0.ext E1).lt (Nat.le_of_eq g3.symm))) nin0)).ext E8).keep Kc11 (ninS (Nat.ne_of_lt (Nat.lt_of_lt_of_le (hp0.ext E1).lt (Nat.le_of_eq g3.symm))) (ninS (Nat.ne_of_lt (Nat.lt_of_lt_of_le ((hp0.ext E1).ext E3).lt r5_1)) nin0))) (((((hp3.ext E1).ext E3).keep Kc5 (ninS (Nat.ne_of_lt (Nat.lt_of_lt_of_le (Nat.lt_of_lt_of_le hp3.lt E1.1) (Nat.le_of_eq g3.symm))) nin0)).ext E8).keep Kc11 (ninS (Nat.ne_of_lt (Nat.lt_of_lt_of_le (Nat.lt_of_lt_of_le hp3.lt E1.1) (Nat.le_of_eq g3.symm))) (ninS (Nat.ne_of_lt (Nat.lt_of_lt_of_le (Nat.lt_of_lt_of_le (Nat.lt_of_lt_of_le hp3.lt E1.1) E3.1) r5_1)) nin0))) (own_neY r11_1 (Nat.ne_of_lt (Nat.lt_of_lt_of_le (Nat.lt_of_lt_of_le (Nat.lt_of_lt_of_le hp3.lt E1.1) E3.1) r5_1)) (Nat.lt_of_lt_of_le (Nat.lt_of_lt_of_le (Nat.lt_of_lt_of_le (Nat.lt_of_lt_of_le hp3.lt E1.1) E3.1) Kc5.1) E8.1)) (by (try simp only [List.length_append, List.length_nil, show own_k1.length = 31 from rfl, show own_k2.length = 2 from rfl]); omega) (by (try simp only [own_ec, own_nc, List.length_append, List.length_nil, show own_k1.length = 31 from rfl, show own_k2.length = 2 from rfl]); (repeat' split) <;> omega) (by (try simp only [own_ec, own_nc, List.length_append, List.length_nil, show own_k1.length = 31 from rfl, show own_k2.length = 2 from rfl]); (repeat' split) <;> omega) (by (try simp only [own_ec, own_nc, List.length_append, List.length_nil, show own_k1.length = 31 from rfl, show own_k2.length = 2 from rfl]); (repeat' split) <;> omega) (own_cha own_chn own_chk1) hdw hp8 hp9 hp10 hp11 hsf hp13 hcz) hZ (hw _ w_51) (hw _ w_30) (by decide) (by decide)) q13a q13c (g := (mkF m 17 #[vR wa, vR ca] [(.ref wa), (.ref b3), (.ref b1), (.ref b1)])) rfl (by rw [hml]; rfl) (Steps.refl _) (argsL := [(.ref wa)]) (rest := [(.ref b1), (.ref b1)]) (lenOf pd__Ljava_lang_String__Ljava_lang_StringBuilder_ rfl) rfl (by show 2 * 0 + _ ≤ _; exact Nat.le_of_eq rfl) (hb hby d4_17) (fun _ _ => ⟨rfl, rfl, (by decide : 7 + 2 ≤ _), (by decide : 642 + 488 ≤ _)⟩)
  dsimp only [Pt.U, Pt.locs, Pt.cells, Pt.slots] at X13 l13 y13 z13 st13 hQ13
  subst l13 y13 z13
  obtain ⟨vb2_13, kv2_13, rfl, N13q, Kc13, r13_1, r13_2, r13_3, r13_4, r13_5, r13_6, r13_7⟩ := hQ13
  have N13 := Fr.app N11 N13q
  have sz14 : h0.size ≤ vb2_13 := own_zy r13_1 sz12 K11.1
  have gn14 : n0 ≤ vb2_13 := Nat.le_trans Z0 sz14
  have O13 : Old Z n0 T13.heap := O11.keep Kc13 (allS gn3 (allS gn12 all0))
  have K13 : Keep h0 T13.heap [] := K11.trans Kc13 (allS (Or.inr sz3) (allS (Or.inr sz12) all0))
  have hk := Nat.le_trans hk Kc13.1
  have HC13 := CHv.keep Kc13 (allS (Safe.exa hZ8.alike r11_2 (by decide) (by decide)) (allS (Safe.keep Kc11 (allS (Safe.exa hZ8.alike (r5_2.ext E8) (by decide) (by decide)) (allS (CHr.safe R8 r5_7.lt (Safe.keep Kc5 (allS (Safe.exa hZ0_.alike A3 (by decide) (by decide)) all0) HC3 (Safe.new (Z := Z) (EL := own_EL) (vm := _) r5_1))) all0)) HC8 (own_safeY r11_1 (CHr.safe R8 r5_7.lt (Safe.keep Kc5 (allS (Safe.exa hZ0_.alike A3 (by decide) (by decide)) all0) HC3 (Safe.new (Z := Z) (EL := own_EL) (vm := _) r5_1))))) all0)) HC11
  have RC13 := RC11.trans (CHr.keep Kc13 (allS (Safe.exa hZ8.alike r11_2 (by decide) (by decide)) (allS (Safe.keep Kc11 (allS (Safe.exa hZ8.alike (r5_2.ext E8) (by decide) (by decide)) (allS (CHr.safe R8 r5_7.lt (Safe.keep Kc5 (allS (Safe.exa hZ0_.alike A3 (by decide) (by decide)) all0) HC3 (Safe.new (Z := Z) (EL := own_EL) (vm := _) r5_1))) all0)) HC8 (own_safeY r11_1 (CHr.safe R8 r5_7.lt (Safe.keep Kc5 (allS (Safe.exa hZ0_.alike A3 (by decide) (by decide)) all0) HC3 (Safe.new (Z := Z) (EL := own_EL) (vm := _) r5_1))))) all0)) HC11)
  obtain ⟨a15, T15, h15, kq15, sb15, kb15, X15, e15, E15, hS, hk, hZ, hown, A15, Fc15, Fv15, V15, lt15, lu15, R15, Li15, Sf15, st15⟩ := ldcCH X13 hx hZ hown (hw _ w_118) wS rfl hS hk hEL (by decide) HC13 (vs := [(.int 58), (.int 32)]) (z := (2 : Int32)) ⟨by decide, by decide⟩ (by decide) (by decide) (g := (mkF m 20 #[vR wa, vR ca] [(.ref b3), (.ref b1), (.ref b1)])) rfl (hb hby d4_20) (n := 8) (by decide) (by decide) (by decide) (by decide)
  have hZ15 := hZ
  have O15 : Old Z n0 h15 := O13.ext E15
  have K15 : Keep h0 h15 [] := K13.ext E15
  have HC15 := R15.1
  have RC15 := RC13.trans R15
  have Fr16 : Fld Z h15 a15 "java/lang/String" "coder" "B" (.int (own_i (own_cd own_k2))) := by
    have q := Fc15
    exact q
  have Fr17 : Arv Z h15 sb15 kb15 .byte (own_i (own_wd (own_cd own_k2) own_k2.length)) ((own_enc (own_cd own_k2) own_k2).map Value.int) (.int 0) := by
    have q := V15
    exact q
  obtain ⟨cq18, kq18, q18a, q18b, q18c⟩ := isOf hZ e15 (r13_2.ext E15)
  obtain ⟨_, _, ⟨T18, L18, k18, n18⟩, -, X18, ⟨Lc18, hQ18, l18, y18, z18⟩, st18⟩ := X15.virtualBack hx (y := mN32) (z := mN32) hown (mvT hZ (hw _ w_47)) (mvT hZ (hw _ w_48)) (notFace_of_selects (args := #[]) (mvT hZ (hw _ w_50))) (mvT hZ (hw _ w_50)) (mvT hZ (hw _ w_49)) (by decide) (backOf (W := 2) (rmsbApp l Z a0 hw [] b3 a15 sb15 kb15 own_k2 cz sf vb2_13 kv2_13 ((([] : List Int32) ++ own_k1) ++ dw) (own_ec (own_ec 16 (([] : List Int32).length + own_k1.length)) ((([] : List Int32) ++ own_k1).length + dw.length)) h15 n0 O15 (r13_2.ext E15) (r13_3.ext E15) (r13_4.ext E15) (r13_5.ext E15) (r13_6.ext E15) (r13_7.ext E15) gn3 gn14 A15 Fv15 Fr16 Fr17 (Ne.symm (Sf15 _ (CHr.safe R15 r13_7.lt (Safe.keep Kc13 (allS (Safe.exa hZ8.alike r11_2 (by decide) (by decide)) (allS (Safe.keep Kc11 (allS (Safe.exa hZ8.alike (r5_2.ext E8) (by decide) (by decide)) (allS (CHr.safe R8 r5_7.lt (Safe.keep Kc5 (allS (Safe.exa hZ0_.alike A3 (by decide) (by decide)) all0) HC3 (Safe.new (Z := Z) (EL := own_EL) (vm := _) r5_1))) all0)) HC8 (own_safeY r11_1 (CHr.safe R8 r5_7.lt (Safe.keep Kc5 (allS (Safe.exa hZ0_.alike A3 (by decide) (by decide)) all0) HC3 (Safe.new (Z := Z) (EL := own_EL) (vm := _) r5_1))))) all0)) HC11 (own_safeY r13_1 (Safe.keep Kc11 (allS (Safe.exa hZ8.alike (r5_2.ext E8) (by decide) (by decide)) (allS (CHr.safe R8 r5_7.lt (Safe.keep Kc5 (allS (Safe.exa hZ0_.alike A3 (by decide) (by decide)) all0) HC3 (Safe.new (Z := Z) (EL := own_EL) (vm := _) r5_1))) all0)) HC8 (own_safeY r11_1 (CHr.safe R8 r5_7.lt (Safe.keep Kc5 (allS (Safe.exa hZ0_.alike A3 (by decide) (by decide)) all0) HC3 (Safe.new (Z := Z) (EL := own_EL) (vm := _) r5_1))))))))).2) (by (try simp only [List.length_append, List.length_nil, show own_k1.length = 31 from rfl, show own_k2.length = 2 from rfl]); omega) (by (try simp only [own_ec, own_nc, List.length_append, List.length_nil, show own_k1.length = 31 from rfl, show own_k2.length = 2 from rfl]); (repeat' split) <;> omega) (by (try simp only [own_ec, own_nc, List.length_append, List.length_nil, show own_k1.length = 31 from rfl, show own_k2.length = 2 from rfl]); (repeat' split) <;> omega) (by (try simp only [own_ec, own_nc, List.length_append, List.length_nil, show own_k1.length = 31 from rfl, show own_k2.length = 2 from rfl]); (repeat' split) <;> omega) (own_cha (own_cha own_chn own_chk1) hdw) own_chk2 hp8 hp9 hp10 hp11 hsf hp13 hcz) hZ (hw _ w_51) (hw _ w_30) (by decide) (by decide)) q18a q18c (g := (mkF m 22 #[vR wa, vR ca] [(.ref a15), (.ref b3), (.ref b1), (.ref b1)])) rfl (by rw [hml]; rfl) (Steps.refl _) (argsL := [(.ref a15)]) (rest := [(.ref b1), (.ref b1)]) (lenOf pd__Ljava_lang_String__Ljava_lang_StringBuilder_ rfl) rfl (by show 2 * 0 + _ ≤ _; exact Nat.le_of_eq rfl) (hb hby d4_22) (fun _ _ => ⟨rfl, e15, (by decide : 11 + 2 ≤ _), (by decide : 1142 + 488 ≤ _)⟩)
  dsimp only [Pt.U, Pt.locs, Pt.cells, Pt.slots] at X18 l18 y18 z18 st18 hQ18
  subst l18 y18 z18
  obtain ⟨vb2_18, kv2_18, rfl, N18q, Kc18, r18_1, r18_2, r18_3, r18_4, r18_5, r18_6, r18_7⟩ := hQ18
  have N18 := Fr.app N13 N18q
  have sz19 : h0.size ≤ vb2_18 := own_zy r18_1 sz14 K15.1
  have gn19 : n0 ≤ vb2_18 := Nat.le_trans Z0 sz19
  have O18 : Old Z n0 T18.heap := O15.keep Kc18 (allS gn3 (allS gn14 all0))
  have K18 : Keep h0 T18.heap [] := K15.trans Kc18 (allS (Or.inr sz3) (allS (Or.inr sz14) all0))
  have hk := Nat.le_trans hk Kc18.1
  have HC18 := CHv.keep Kc18 (allS (Safe.exa hZ15.alike (r13_2.ext E15) (by decide) (by decide)) (allS (CHr.safe R15 r13_7.lt (Safe.keep Kc13 (allS (Safe.exa hZ8.alike r11_2 (by decide) (by decide)) (allS (Safe.keep Kc11 (allS (Safe.exa hZ8.alike (r5_2.ext E8) (by decide) (by decide)) (allS (CHr.safe R8 r5_7.lt (Safe.keep Kc5 (allS (Safe.exa hZ0_.alike A3 (by decide) (by decide)) all0) HC3 (Safe.new (Z := Z) (EL := own_EL) (vm := _) r5_1))) all0)) HC8 (own_safeY r11_1 (CHr.safe R8 r5_7.lt (Safe.keep Kc5 (allS (Safe.exa hZ0_.alike A3 (by decide) (by decide)) all0) HC3 (Safe.new (Z := Z) (EL := own_EL) (vm := _) r5_1))))) all0)) HC11 (own_safeY r13_1 (Safe.keep Kc11 (allS (Safe.exa hZ8.alike (r5_2.ext E8) (by decide) (by decide)) (allS (CHr.safe R8 r5_7.lt (Safe.keep Kc5 (allS (Safe.exa hZ0_.alike A3 (by decide) (by decide)) all0) HC3 (Safe.new (Z := Z) (EL := own_EL) (vm := _) r5_1))) all0)) HC8 (own_safeY r11_1 (CHr.safe R8 r5_7.lt (Safe.keep Kc5 (allS (Safe.exa hZ0_.alike A3 (by decide) (by decide)) all0) HC3 (Safe.new (Z := Z) (EL := own_EL) (vm := _) r5_1)))))))) all0)) HC15
  have RC18 := RC15.trans (CHr.keep Kc18 (allS (Safe.exa hZ15.alike (r13_2.ext E15) (by decide) (by decide)) (allS (CHr.safe R15 r13_7.lt (Safe.keep Kc13 (allS (Safe.exa hZ8.alike r11_2 (by decide) (by decide)) (allS (Safe.keep Kc11 (allS (Safe.exa hZ8.alike (r5_2.ext E8) (by decide) (by decide)) (allS (CHr.safe R8 r5_7.lt (Safe.keep Kc5 (allS (Safe.exa hZ0_.alike A3 (by decide) (by decide)) all0) HC3 (Safe.new (Z := Z) (EL := own_EL) (vm := _) r5_1))) all0)) HC8 (own_safeY r11_1 (CHr.safe R8 r5_7.lt (Safe.keep Kc5 (allS (Safe.exa hZ0_.alike A3 (by decide) (by decide)) all0) HC3 (Safe.new (Z := Z) (EL := own_EL) (vm := _) r5_1))))) all0)) HC11 (own_safeY r13_1 (Safe.keep Kc11 (allS (Safe.exa hZ8.alike (r5_2.ext E8) (by decide) (by decide)) (allS (CHr.safe R8 r5_7.lt (Safe.keep Kc5 (allS (Safe.exa hZ0_.alike A3 (by decide) (by decide)) all0) HC3 (Safe.new (Z := Z) (EL := own_EL) (vm := _) r5_1))) all0)) HC8 (own_safeY r11_1 (CHr.safe R8 r5_7.lt (Safe.keep Kc5 (allS (Safe.exa hZ0_.alike A3 (by decide) (by decide)) all0) HC3 (Safe.new (Z := Z) (EL := own_EL) (vm := _) r5_1)))))))) all0)) HC15)
  obtain ⟨cq20, kq20, q20a, q20b, q20c⟩ := isOf hZ rfl r18_2
  obtain ⟨_, _, ⟨T20, L20, k20, n20⟩, -, X20, ⟨Lc20, hQ20, l20, y20, z20⟩, st20⟩ := X18.virtualBack hx (y := mN32) (z := mN32) hown (mvT hZ (hw _ w_47)) (mvT hZ (hw _ w_48)) (notFace_of_selects (args := #[]) (mvT hZ (hw _ w_50))) (mvT hZ (hw _ w_50)) (mvT hZ (hw _ w_49)) (by decide) (backOf (W := 2) (rmsbApp l Z a0 hw [] b3 ca tc kc dc cz sf vb2_18 kv2_18 (((([] : List Int32) ++ own_k1) ++ dw) ++ own_k2) (own_ec (own_ec (own_ec 16 (([] : List Int32).length + own_k1.length)) ((([] : List Int32) ++ own_k1).length + dw.length)) (((([] : List Int32) ++ own_k1) ++ dw).length + own_k2.length)) T18.heap n0 O18 r18_2 r18_3 r18_4 r18_5 r18_6 r18_7 gn3 gn19 ((((((((hp4.ext E1).ext E3).keep Kc5).ext E8).keep Kc11).keep Kc13).ext E15).keep Kc18) ((((((((hp5.ext E1).ext E3).keep Kc5 (ninS (Nat.ne_of_lt (Nat.lt_of_lt_of_le (hp4.ext E1).lt (Nat.le_of_eq g3.symm))) nin0)).ext E8).keep Kc11 (ninS (Nat.ne_of_lt (Nat.lt_of_lt_of_le (hp4.ext E1).lt (Nat.le_of_eq g3.symm))) (ninS (Nat.ne_of_lt (Nat.lt_of_lt_of_le ((hp4.ext E1).ext E3).lt r5_1)) nin0))).keep Kc13 (ninS (Nat.ne_of_lt (Nat.lt_of_lt_of_le (hp4.ext E1).lt (Nat.le_of_eq g3.symm))) (ninS (own_neY r11_1 (Nat.ne_of_lt (Nat.lt_of_lt_of_le ((hp4.ext E1).ext E3).lt r5_1)) ((((hp4.ext E1).ext E3).keep Kc5).ext E8).lt) nin0))).ext E15).keep Kc18 (ninS (Nat.ne_of_lt (Nat.lt_of_lt_of_le (hp4.ext E1).lt (Nat.le_of_eq g3.symm))) (ninS (own_neY r13_1 (own_neY r11_1 (Nat.ne_of_lt (Nat.lt_of_lt_of_le ((hp4.ext E1).ext E3).lt r5_1)) ((((hp4.ext E1).ext E3).keep Kc5).ext E8).lt) (((((hp4.ext E1).ext E3).keep Kc5).ext E8).keep Kc11).lt) nin0))) ((((((((hp6.ext E1).ext E3).keep Kc5 (ninS (Nat.ne_of_lt (Nat.lt_of_lt_of_le (hp4.ext E1).lt (Nat.le_of_eq g3.symm))) nin0)).ext E8).keep Kc11 (ninS (Nat.ne_of_lt (Nat.lt_of_lt_of_le (hp4.ext E1).lt (Nat.le_of_eq g3.symm))) (ninS (Nat.ne_of_lt (Nat.lt_of_lt_of_le ((hp4.ext E1).ext E3).lt r5_1)) nin0))).keep Kc13 (ninS (Nat.ne_of_lt (Nat.lt_of_lt_of_le (hp4.ext E1).lt (Nat.le_of_eq g3.symm))) (ninS (own_neY r11_1 (Nat.ne_of_lt (Nat.lt_of_lt_of_le ((hp4.ext E1).ext E3).lt r5_1)) ((((hp4.ext E1).ext E3).keep Kc5).ext E8).lt) nin0))).ext E15).keep Kc18 (ninS (Nat.ne_of_lt (Nat.lt_of_lt_of_le (hp4.ext E1).lt (Nat.le_of_eq g3.symm))) (ninS (own_neY r13_1 (own_neY r11_1 (Nat.ne_of_lt (Nat.lt_of_lt_of_le ((hp4.ext E1).ext E3).lt r5_1)) ((((hp4.ext E1).ext E3).keep Kc5).ext E8).lt) (((((hp4.ext E1).ext E3).keep Kc5).ext E8).keep Kc11).lt) nin0))) ((((((((hp7.ext E1).ext E3).keep Kc5 (ninS (Nat.ne_of_lt (Nat.lt_of_lt_of_le (Nat.lt_of_lt_of_le hp7.lt E1.1) (Nat.le_of_eq g3.symm))) nin0)).ext E8).keep Kc11 (ninS (Nat.ne_of_lt (Nat.lt_of_lt_of_le (Nat.lt_of_lt_of_le hp7.lt E1.1) (Nat.le_of_eq g3.symm))) (ninS (Nat.ne_of_lt (Nat.lt_of_lt_of_le (Nat.lt_of_lt_of_le (Nat.lt_of_lt_of_le hp7.lt E1.1) E3.1) r5_1)) nin0))).keep Kc13 (ninS (Nat.ne_of_lt (Nat.lt_of_lt_of_le (Nat.lt_of_lt_of_le hp7.lt E1.1) (Nat.le_of_eq g3.symm))) (ninS (own_neY r11_1 (Nat.ne_of_lt (Nat.lt_of_lt_of_le (Nat.lt_of_lt_of_le (Nat.lt_of_lt_of_le hp7.lt E1.1) E3.1) r5_1)) (Nat.lt_of_lt_of_le (Nat.lt_of_lt_of_le (Nat.lt_of_lt_of_le (Nat.lt_of_lt_of_le hp7.lt E1.1) E3.1) Kc5.1) E8.1)) nin0))).ext E15).keep Kc18 (ninS (Nat.ne_of_lt (Nat.lt_of_lt_of_le (Nat.lt_of_lt_of_le hp7.lt E1.1) (Nat.le_of_eq g3.symm))) (ninS (own_neY r13_1 (own_neY r11_1 (Nat.ne_of_lt (Nat.lt_of_lt_of_le (Nat.lt_of_lt_of_le (Nat.lt_of_lt_of_le hp7.lt E1.1) E3.1) r5_1)) (Nat.lt_of_lt_of_le (Nat.lt_of_lt_of_le (Nat.lt_of_lt_of_le (Nat.lt_of_lt_of_le hp7.lt E1.1) E3.1) Kc5.1) E8.1)) (Nat.lt_of_lt_of_le (Nat.lt_of_lt_of_le (Nat.lt_of_lt_of_le (Nat.lt_of_lt_of_le (Nat.lt_of_lt_of_le hp7.lt E1.1) E3.1) Kc5.1) E8.1) Kc11.1)) nin0))) (own_neY r18_1 (own_neY r13_1 (own_neY r11_1 (Nat.ne_of_lt (Nat.lt_of_lt_of_le (Nat.lt_of_lt_of_le (Nat.lt_of_lt_of_le hp7.lt E1.1) E3.1) r5_1)) (Nat.lt_of_lt_of_le (Nat.lt_of_lt_of_le (Nat.lt_of_lt_of_le (Nat.lt_of_lt_of_le hp7.lt E1.1) E3.1) Kc5.1) E8.1)) (Nat.lt_of_lt_of_le (Nat.lt_of_lt_of_le (Nat.lt_of_lt_of_le (Nat.lt_of_lt_of_le (Nat.lt_of_lt_of_le hp7.lt E1.1) E3.1) Kc5.1) E8.1) Kc11.1)) (Nat.lt_of_lt_of_le (Nat.lt_of_lt_of_le (Nat.lt_of_lt_of_le (Nat.lt_of_lt_of_le (Nat.lt_of_lt_of_le (Nat.lt_of_lt_of_le (Nat.lt_of_lt_of_le hp7.lt E1.1) E3.1) Kc5.1) E8.1) Kc11.1) Kc13.1) E15.1)) (by (try simp only [List.length_append, List.length_nil, show own_k1.length = 31 from rfl, show own_k2.length = 2 from rfl]); omega) (by (try simp only [own_ec, own_nc, List.length_append, List.length_nil, show own_k1.length = 31 from rfl, show own_k2.length = 2 from rfl]); (repeat' split) <;> omega) (by (try simp only [own_ec, own_nc, List.length_append, List.length_nil, show own_k1.length = 31 from rfl, show own_k2.length = 2 from rfl]); (repeat' split) <;> omega) (by (try simp only [own_ec, own_nc, List.length_append, List.length_nil, show own_k1.length = 31 from rfl, show own_k2.length = 2 from rfl]); (repeat' split) <;> omega) (own_cha (own_cha (own_cha own_chn own_chk1) hdw) own_chk2) hdc hp8 hp9 hp10 hp11 hsf hp13 hcz) hZ (hw _ w_51) (hw _ w_30) (by decide) (by decide)) q20a q20c (g := (mkF m 26 #[vR wa, vR ca] [(.ref ca), (.ref b3), (.ref b1), (.ref b1)])) rfl (by rw [hml]; rfl) (Steps.refl _) (argsL := [(.ref ca)]) (rest := [(.ref b1), (.ref b1)]) (lenOf pd__Ljava_lang_String__Ljava_lang_StringBuilder_ rfl) rfl (by show 2 * 0 + _ ≤ _; exact Nat.le_of_eq rfl) (hb hby d4_26) (fun _ _ => ⟨rfl, rfl, (by decide : 13 + 2 ≤ _), (by decide : 1630 + 488 ≤ _)⟩)
  dsimp only [Pt.U, Pt.locs, Pt.cells, Pt.slots] at X20 l20 y20 z20 st20 hQ20
  subst l20 y20 z20
  obtain ⟨vb2_20, kv2_20, rfl, N20q, Kc20, r20_1, r20_2, r20_3, r20_4, r20_5, r20_6, r20_7⟩ := hQ20
  have N20 := Fr.app N18 N20q
  have sz21 : h0.size ≤ vb2_20 := own_zy r20_1 sz19 K18.1
  have gn21 : n0 ≤ vb2_20 := Nat.le_trans Z0 sz21
  have O20 : Old Z n0 T20.heap := O18.keep Kc20 (allS gn3 (allS gn19 all0))
  have K20 : Keep h0 T20.heap [] := K18.trans Kc20 (allS (Or.inr sz3) (allS (Or.inr sz19) all0))
  have hk := Nat.le_trans hk Kc20.1
  have HC20 := CHv.keep Kc20 (allS (Safe.exa hZ15.alike r18_2 (by decide) (by decide)) (allS (Safe.keep Kc18 (allS (Safe.exa hZ15.alike (r13_2.ext E15) (by decide) (by decide)) (allS (CHr.safe R15 r13_7.lt (Safe.keep Kc13 (allS (Safe.exa hZ8.alike r11_2 (by decide) (by decide)) (allS (Safe.keep Kc11 (allS (Safe.exa hZ8.alike (r5_2.ext E8) (by decide) (by decide)) (allS (CHr.safe R8 r5_7.lt (Safe.keep Kc5 (allS (Safe.exa hZ0_.alike A3 (by decide) (by decide)) all0) HC3 (Safe.new (Z := Z) (EL := own_EL) (vm := _) r5_1))) all0)) HC8 (own_safeY r11_1 (CHr.safe R8 r5_7.lt (Safe.keep Kc5 (allS (Safe.exa hZ0_.alike A3 (by decide) (by decide)) all0) HC3 (Safe.new (Z := Z) (EL := own_EL) (vm := _) r5_1))))) all0)) HC11 (own_safeY r13_1 (Safe.keep Kc11 (allS (Safe.exa hZ8.alike (r5_2.ext E8) (by decide) (by decide)) (allS (CHr.safe R8 r5_7.lt (Safe.keep Kc5 (allS (Safe.exa hZ0_.alike A3 (by decide) (by decide)) all0) HC3 (Safe.new (Z := Z) (EL := own_EL) (vm := _) r5_1))) all0)) HC8 (own_safeY r11_1 (CHr.safe R8 r5_7.lt (Safe.keep Kc5 (allS (Safe.exa hZ0_.alike A3 (by decide) (by decide)) all0) HC3 (Safe.new (Z := Z) (EL := own_EL) (vm := _) r5_1)))))))) all0)) HC15 (own_safeY r18_1 (CHr.safe R15 r13_7.lt (Safe.keep Kc13 (allS (Safe.exa hZ8.alike r11_2 (by decide) (by decide)) (allS (Safe.keep Kc11 (allS (Safe.exa hZ8.alike (r5_2.ext E8) (by decide) (by decide)) (allS (CHr.safe R8 r5_7.lt (Safe.keep Kc5 (allS (Safe.exa hZ0_.alike A3 (by decide) (by decide)) all0) HC3 (Safe.new (Z := Z) (EL := own_EL) (vm := _) r5_1))) all0)) HC8 (own_safeY r11_1 (CHr.safe R8 r5_7.lt (Safe.keep Kc5 (allS (Safe.exa hZ0_.alike A3 (by decide) (by decide)) all0) HC3 (Safe.new (Z := Z) (EL := own_EL) (vm := _) r5_1))))) all0)) HC11 (own_safeY r13_1 (Safe.keep Kc11 (allS (Safe.exa hZ8.alike (r5_2.ext E8) (by decide) (by decide)) (allS (CHr.safe R8 r5_7.lt (Safe.keep Kc5 (allS (Safe.exa hZ0_.alike A3 (by decide) (by decide)) all0) HC3 (Safe.new (Z := Z) (EL := own_EL) (vm := _) r5_1))) all0)) HC8 (own_safeY r11_1 (CHr.safe R8 r5_7.lt (Safe.keep Kc5 (allS (Safe.exa hZ0_.alike A3 (by decide) (by decide)) all0) HC3 (Safe.new (Z := Z) (EL := own_EL) (vm := _) r5_1)))))))))) all0)) HC18
  have RC20 := RC18.trans (CHr.keep Kc20 (allS (Safe.exa hZ15.alike r18_2 (by decide) (by decide)) (allS (Safe.keep Kc18 (allS (Safe.exa hZ15.alike (r13_2.ext E15) (by decide) (by decide)) (allS (CHr.safe R15 r13_7.lt (Safe.keep Kc13 (allS (Safe.exa hZ8.alike r11_2 (by decide) (by decide)) (allS (Safe.keep Kc11 (allS (Safe.exa hZ8.alike (r5_2.ext E8) (by decide) (by decide)) (allS (CHr.safe R8 r5_7.lt (Safe.keep Kc5 (allS (Safe.exa hZ0_.alike A3 (by decide) (by decide)) all0) HC3 (Safe.new (Z := Z) (EL := own_EL) (vm := _) r5_1))) all0)) HC8 (own_safeY r11_1 (CHr.safe R8 r5_7.lt (Safe.keep Kc5 (allS (Safe.exa hZ0_.alike A3 (by decide) (by decide)) all0) HC3 (Safe.new (Z := Z) (EL := own_EL) (vm := _) r5_1))))) all0)) HC11 (own_safeY r13_1 (Safe.keep Kc11 (allS (Safe.exa hZ8.alike (r5_2.ext E8) (by decide) (by decide)) (allS (CHr.safe R8 r5_7.lt (Safe.keep Kc5 (allS (Safe.exa hZ0_.alike A3 (by decide) (by decide)) all0) HC3 (Safe.new (Z := Z) (EL := own_EL) (vm := _) r5_1))) all0)) HC8 (own_safeY r11_1 (CHr.safe R8 r5_7.lt (Safe.keep Kc5 (allS (Safe.exa hZ0_.alike A3 (by decide) (by decide)) all0) HC3 (Safe.new (Z := Z) (EL := own_EL) (vm := _) r5_1)))))))) all0)) HC15 (own_safeY r18_1 (CHr.safe R15 r13_7.lt (Safe.keep Kc13 (allS (Safe.exa hZ8.alike r11_2 (by decide) (by decide)) (allS (Safe.keep Kc11 (allS (Safe.exa hZ8.alike (r5_2.ext E8) (by decide) (by decide)) (allS (CHr.safe R8 r5_7.lt (Safe.keep Kc5 (allS (Safe.exa hZ0_.alike A3 (by decide) (by decide)) all0) HC3 (Safe.new (Z := Z) (EL := own_EL) (vm := _) r5_1))) all0)) HC8 (own_safeY r11_1 (CHr.safe R8 r5_7.lt (Safe.keep Kc5 (allS (Safe.exa hZ0_.alike A3 (by decide) (by decide)) all0) HC3 (Safe.new (Z := Z) (EL := own_EL) (vm := _) r5_1))))) all0)) HC11 (own_safeY r13_1 (Safe.keep Kc11 (allS (Safe.exa hZ8.alike (r5_2.ext E8) (by decide) (by decide)) (allS (CHr.safe R8 r5_7.lt (Safe.keep Kc5 (allS (Safe.exa hZ0_.alike A3 (by decide) (by decide)) all0) HC3 (Safe.new (Z := Z) (EL := own_EL) (vm := _) r5_1))) all0)) HC8 (own_safeY r11_1 (CHr.safe R8 r5_7.lt (Safe.keep Kc5 (allS (Safe.exa hZ0_.alike A3 (by decide) (by decide)) all0) HC3 (Safe.new (Z := Z) (EL := own_EL) (vm := _) r5_1)))))))))) all0)) HC18)
  obtain ⟨cq22, kq22, q22a, q22b, q22c⟩ := isOf hZ rfl r20_2
  obtain ⟨_, _, ⟨T22, L22, k22, n22⟩, -, X22, ⟨Lc22, hQ22, l22, y22, z22⟩, st22⟩ := X20.virtualBack hx (y := mN43) (z := mN43) hown (mvT hZ (hw _ w_119)) (mvT hZ (hw _ w_120)) (notFace_of_selects (args := #[]) (mvT hZ (hw _ w_122))) (mvT hZ (hw _ w_122)) (mvT hZ (hw _ w_121)) (by decide) (backOf (W := 2) (rmsbStr l Z a0 hw [] b3 cz vb2_20 kv2_20 ((((([] : List Int32) ++ own_k1) ++ dw) ++ own_k2) ++ dc) (own_ec (own_ec (own_ec (own_ec 16 (([] : List Int32).length + own_k1.length)) ((([] : List Int32) ++ own_k1).length + dw.length)) (((([] : List Int32) ++ own_k1) ++ dw).length + own_k2.length)) ((((([] : List Int32) ++ own_k1) ++ dw) ++ own_k2).length + dc.length)) T20.heap n0 O20 r20_2 r20_3 r20_4 r20_5 r20_6 r20_7 (by (try simp only [own_ec, own_nc, List.length_append, List.length_nil, show own_k1.length = 31 from rfl, show own_k2.length = 2 from rfl]); (repeat' split) <;> omega) (by (try simp only [own_ec, own_nc, List.length_append, List.length_nil, show own_k1.length = 31 from rfl, show own_k2.length = 2 from rfl]); (repeat' split) <;> omega) hp13 hcz) hZ (hw _ w_123) (hw _ w_30) (by decide) (by decide)) q22a q22c (g := (mkF m 29 #[vR wa, vR ca] [(.ref b3), (.ref b1), (.ref b1)])) rfl (by rw [hml]; rfl) (Steps.refl _) (argsL := []) (rest := [(.ref b1), (.ref b1)]) (lenOf pd___Ljava_lang_String_ rfl) rfl (by show 2 * 0 + _ ≤ _; exact Nat.le_of_eq rfl) (hb hby d4_29) (fun _ _ => ⟨rfl, rfl, (by decide : 15 + 2 ≤ _), (by decide : 2118 + 164 ≤ _)⟩)
  dsimp only [Pt.U, Pt.locs, Pt.cells, Pt.slots] at X22 l22 y22 z22 st22 hQ22
  subst l22 y22 z22
  obtain ⟨a_22, t_22, kt_22, rfl, N22q, Kc22, r22_1, r22_2, r22_3, r22_4, r22_5, r22_6⟩ := hQ22
  have N22 := Fr.app N20 N22q
  have sz23 : h0.size ≤ a_22 := Nat.le_trans K20.1 r22_1
  have gn23 : n0 ≤ a_22 := Nat.le_trans Z0 sz23
  have sz25 : h0.size ≤ t_22 := Nat.le_trans K20.1 r22_2
  have gn25 : n0 ≤ t_22 := Nat.le_trans Z0 sz25
  have O22 : Old Z n0 T22.heap := O20.keep Kc22 all0
  have K22 : Keep h0 T22.heap [] := K20.trans Kc22 all0
  have hk := Nat.le_trans hk Kc22.1
  have HC22 := CHv.keep Kc22 all0 HC20
  have RC22 := RC20.trans (CHr.keep Kc22 all0 HC20)
  have Fr27 : Fld Z T22.heap a_22 "java/lang/String" "coder" "B" (.int (own_i (own_cd (own_xs dw dc)))) := by
    have q := r22_5
    exact q
  have Fr28 : Arv Z T22.heap t_22 kt_22 .byte (own_i (own_wd (own_cd (own_xs dw dc)) (own_xs dw dc).length)) ((own_enc (own_cd (own_xs dw dc)) (own_xs dw dc)).map Value.int) (.int 0) := by
    have q := r22_6
    exact q
  obtain ⟨_, _, ⟨T29, L29, k29, n29⟩, -, X29, ⟨Lc29, hQ29, l29, y29, z29⟩, st29⟩ := X22.specialBack hx (y := mN50) rfl hown (mvT hZ (hw _ w_158)) (mvT hZ (hw _ w_159)) (mvT hZ (hw _ w_160)) (by decide) (backOfKL (W := 1) (rmseInit l Z a0 hw [] b1 a_22 .null .null .null .null us se T22.heap n0 O22 hl (((((((((A1.ext E3).keep Kc5).ext E8).keep Kc11).keep Kc13).ext E15).keep Kc18).keep Kc20).keep Kc22) (Unt.keep Kc22 nin0 (Unt.keep Kc20 (ninS (Nat.ne_of_lt (Nat.lt_of_lt_of_le A1.lt (Nat.le_of_eq g3.symm))) (ninS (own_neY r18_1 (own_neY r13_1 (own_neY r11_1 (Nat.ne_of_lt (Nat.lt_of_lt_of_le (A1.ext E3).lt r5_1)) (((A1.ext E3).keep Kc5).ext E8).lt) ((((A1.ext E3).keep Kc5).ext E8).keep Kc11).lt) ((((((A1.ext E3).keep Kc5).ext E8).keep Kc11).keep Kc13).ext E15).lt) nin0)) (Unt.keep Kc18 (ninS (Nat.ne_of_lt (Nat.lt_of_lt_of_le A1.lt (Nat.le_of_eq g3.symm))) (ninS (own_neY r13_1 (own_neY r11_1 (Nat.ne_of_lt (Nat.lt_of_lt_of_le (A1.ext E3).lt r5_1)) (((A1.ext E3).keep Kc5).ext E8).lt) ((((A1.ext E3).keep Kc5).ext E8).keep Kc11).lt) nin0)) ((Unt.keep Kc13 (ninS (Nat.ne_of_lt (Nat.lt_of_lt_of_le A1.lt (Nat.le_of_eq g3.symm))) (ninS (own_neY r11_1 (Nat.ne_of_lt (Nat.lt_of_lt_of_le (A1.ext E3).lt r5_1)) (((A1.ext E3).keep Kc5).ext E8).lt) nin0)) (Unt.keep Kc11 (ninS (Nat.ne_of_lt (Nat.lt_of_lt_of_le A1.lt (Nat.le_of_eq g3.symm))) (ninS (Nat.ne_of_lt (Nat.lt_of_lt_of_le (A1.ext E3).lt r5_1)) nin0)) ((Unt.keep Kc5 (ninS (Nat.ne_of_lt (Nat.lt_of_lt_of_le A1.lt (Nat.le_of_eq g3.symm))) nin0) (Un1.ext E3)).ext E8))).ext E15)))) gn1 (((((((((F1_180.ext E3).keep Kc5 (ninS (Nat.ne_of_lt (Nat.lt_of_lt_of_le A1.lt (Nat.le_of_eq g3.symm))) nin0)).ext E8).keep Kc11 (ninS (Nat.ne_of_lt (Nat.lt_of_lt_of_le A1.lt (Nat.le_of_eq g3.symm))) (ninS (Nat.ne_of_lt (Nat.lt_of_lt_of_le (A1.ext E3).lt r5_1)) nin0))).keep Kc13 (ninS (Nat.ne_of_lt (Nat.lt_of_lt_of_le A1.lt (Nat.le_of_eq g3.symm))) (ninS (own_neY r11_1 (Nat.ne_of_lt (Nat.lt_of_lt_of_le (A1.ext E3).lt r5_1)) (((A1.ext E3).keep Kc5).ext E8).lt) nin0))).ext E15).keep Kc18 (ninS (Nat.ne_of_lt (Nat.lt_of_lt_of_le A1.lt (Nat.le_of_eq g3.symm))) (ninS (own_neY r13_1 (own_neY r11_1 (Nat.ne_of_lt (Nat.lt_of_lt_of_le (A1.ext E3).lt r5_1)) (((A1.ext E3).keep Kc5).ext E8).lt) ((((A1.ext E3).keep Kc5).ext E8).keep Kc11).lt) nin0))).keep Kc20 (ninS (Nat.ne_of_lt (Nat.lt_of_lt_of_le A1.lt (Nat.le_of_eq g3.symm))) (ninS (own_neY r18_1 (own_neY r13_1 (own_neY r11_1 (Nat.ne_of_lt (Nat.lt_of_lt_of_le (A1.ext E3).lt r5_1)) (((A1.ext E3).keep Kc5).ext E8).lt) ((((A1.ext E3).keep Kc5).ext E8).keep Kc11).lt) ((((((A1.ext E3).keep Kc5).ext E8).keep Kc11).keep Kc13).ext E15).lt) nin0))).keep Kc22 nin0) (((((((((F1_183.ext E3).keep Kc5 (ninS (Nat.ne_of_lt (Nat.lt_of_lt_of_le A1.lt (Nat.le_of_eq g3.symm))) nin0)).ext E8).keep Kc11 (ninS (Nat.ne_of_lt (Nat.lt_of_lt_of_le A1.lt (Nat.le_of_eq g3.symm))) (ninS (Nat.ne_of_lt (Nat.lt_of_lt_of_le (A1.ext E3).lt r5_1)) nin0))).keep Kc13 (ninS (Nat.ne_of_lt (Nat.lt_of_lt_of_le A1.lt (Nat.le_of_eq g3.symm))) (ninS (own_neY r11_1 (Nat.ne_of_lt (Nat.lt_of_lt_of_le (A1.ext E3).lt r5_1)) (((A1.ext E3).keep Kc5).ext E8).lt) nin0))).ext E15).keep Kc18 (ninS (Nat.ne_of_lt (Nat.lt_of_lt_of_le A1.lt (Nat.le_of_eq g3.symm))) (ninS (own_neY r13_1 (own_neY r11_1 (Nat.ne_of_lt (Nat.lt_of_lt_of_le (A1.ext E3).lt r5_1)) (((A1.ext E3).keep Kc5).ext E8).lt) ((((A1.ext E3).keep Kc5).ext E8).keep Kc11).lt) nin0))).keep Kc20 (ninS (Nat.ne_of_lt (Nat.lt_of_lt_of_le A1.lt (Nat.le_of_eq g3.symm))) (ninS (own_neY r18_1 (own_neY r13_1 (own_neY r11_1 (Nat.ne_of_lt (Nat.lt_of_lt_of_le (A1.ext E3).lt r5_1)) (((A1.ext E3).keep Kc5).ext E8).lt) ((((A1.ext E3).keep Kc5).ext E8).keep Kc11).lt) ((((((A1.ext E3).keep Kc5).ext E8).keep Kc11).keep Kc13).ext E15).lt) nin0))).keep Kc22 nin0) (((((((((F1_186.ext E3).keep Kc5 (ninS (Nat.ne_of_lt (Nat.lt_of_lt_of_le A1.lt (Nat.le_of_eq g3.symm))) nin0)).ext E8).keep Kc11 (ninS (Nat.ne_of_lt (Nat.lt_of_lt_of_le A1.lt (Nat.le_of_eq g3.symm))) (ninS (Nat.ne_of_lt (Nat.lt_of_lt_of_le (A1.ext E3).lt r5_1)) nin0))).keep Kc13 (ninS (Nat.ne_of_lt (Nat.lt_of_lt_of_le A1.lt (Nat.le_of_eq g3.symm))) (ninS (own_neY r11_1 (Nat.ne_of_lt (Nat.lt_of_lt_of_le (A1.ext E3).lt r5_1)) (((A1.ext E3).keep Kc5).ext E8).lt) nin0))).ext E15).keep Kc18 (ninS (Nat.ne_of_lt (Nat.lt_of_lt_of_le A1.lt (Nat.le_of_eq g3.symm))) (ninS (own_neY r13_1 (own_neY r11_1 (Nat.ne_of_lt (Nat.lt_of_lt_of_le (A1.ext E3).lt r5_1)) (((A1.ext E3).keep Kc5).ext E8).lt) ((((A1.ext E3).keep Kc5).ext E8).keep Kc11).lt) nin0))).keep Kc20 (ninS (Nat.ne_of_lt (Nat.lt_of_lt_of_le A1.lt (Nat.le_of_eq g3.symm))) (ninS (own_neY r18_1 (own_neY r13_1 (own_neY r11_1 (Nat.ne_of_lt (Nat.lt_of_lt_of_le (A1.ext E3).lt r5_1)) (((A1.ext E3).keep Kc5).ext E8).lt) ((((A1.ext E3).keep Kc5).ext E8).keep Kc11).lt) ((((((A1.ext E3).keep Kc5).ext E8).keep Kc11).keep Kc13).ext E15).lt) nin0))).keep Kc22 nin0) (((((((((F1_210.ext E3).keep Kc5 (ninS (Nat.ne_of_lt (Nat.lt_of_lt_of_le A1.lt (Nat.le_of_eq g3.symm))) nin0)).ext E8).keep Kc11 (ninS (Nat.ne_of_lt (Nat.lt_of_lt_of_le A1.lt (Nat.le_of_eq g3.symm))) (ninS (Nat.ne_of_lt (Nat.lt_of_lt_of_le (A1.ext E3).lt r5_1)) nin0))).keep Kc13 (ninS (Nat.ne_of_lt (Nat.lt_of_lt_of_le A1.lt (Nat.le_of_eq g3.symm))) (ninS (own_neY r11_1 (Nat.ne_of_lt (Nat.lt_of_lt_of_le (A1.ext E3).lt r5_1)) (((A1.ext E3).keep Kc5).ext E8).lt) nin0))).ext E15).keep Kc18 (ninS (Nat.ne_of_lt (Nat.lt_of_lt_of_le A1.lt (Nat.le_of_eq g3.symm))) (ninS (own_neY r13_1 (own_neY r11_1 (Nat.ne_of_lt (Nat.lt_of_lt_of_le (A1.ext E3).lt r5_1)) (((A1.ext E3).keep Kc5).ext E8).lt) ((((A1.ext E3).keep Kc5).ext E8).keep Kc11).lt) nin0))).keep Kc20 (ninS (Nat.ne_of_lt (Nat.lt_of_lt_of_le A1.lt (Nat.le_of_eq g3.symm))) (ninS (own_neY r18_1 (own_neY r13_1 (own_neY r11_1 (Nat.ne_of_lt (Nat.lt_of_lt_of_le (A1.ext E3).lt r5_1)) (((A1.ext E3).keep Kc5).ext E8).lt) ((((A1.ext E3).keep Kc5).ext E8).keep Kc11).lt) ((((((A1.ext E3).keep Kc5).ext E8).keep Kc11).keep Kc13).ext E15).lt) nin0))).keep Kc22 nin0) (((((((((F1_211.ext E3).keep Kc5 (ninS (Nat.ne_of_lt (Nat.lt_of_lt_of_le A1.lt (Nat.le_of_eq g3.symm))) nin0)).ext E8).keep Kc11 (ninS (Nat.ne_of_lt (Nat.lt_of_lt_of_le A1.lt (Nat.le_of_eq g3.symm))) (ninS (Nat.ne_of_lt (Nat.lt_of_lt_of_le (A1.ext E3).lt r5_1)) nin0))).keep Kc13 (ninS (Nat.ne_of_lt (Nat.lt_of_lt_of_le A1.lt (Nat.le_of_eq g3.symm))) (ninS (own_neY r11_1 (Nat.ne_of_lt (Nat.lt_of_lt_of_le (A1.ext E3).lt r5_1)) (((A1.ext E3).keep Kc5).ext E8).lt) nin0))).ext E15).keep Kc18 (ninS (Nat.ne_of_lt (Nat.lt_of_lt_of_le A1.lt (Nat.le_of_eq g3.symm))) (ninS (own_neY r13_1 (own_neY r11_1 (Nat.ne_of_lt (Nat.lt_of_lt_of_le (A1.ext E3).lt r5_1)) (((A1.ext E3).keep Kc5).ext E8).lt) ((((A1.ext E3).keep Kc5).ext E8).keep Kc11).lt) nin0))).keep Kc20 (ninS (Nat.ne_of_lt (Nat.lt_of_lt_of_le A1.lt (Nat.le_of_eq g3.symm))) (ninS (own_neY r18_1 (own_neY r13_1 (own_neY r11_1 (Nat.ne_of_lt (Nat.lt_of_lt_of_le (A1.ext E3).lt r5_1)) (((A1.ext E3).keep Kc5).ext E8).lt) ((((A1.ext E3).keep Kc5).ext E8).keep Kc11).lt) ((((((A1.ext E3).keep Kc5).ext E8).keep Kc11).keep Kc13).ext E15).lt) nin0))).keep Kc22 nin0) hp16 hp17 hus hse) hZ (hw _ w_160) (hw _ w_24) (by decide) (by decide) (Vm.MethodsKnown.alikeC hS.1.alike hTK) (Vm.FramesKnown.alikeC hS.1.alike hBelow)) (g := (mkF m 32 #[vR wa, vR ca] [(.ref a_22), (.ref b1), (.ref b1)])) rfl (by rw [hml]; rfl) (Steps.refl _) (a := b1) (argsL := [(.ref a_22)]) (rest := [(.ref b1)]) (lenOf pd__Ljava_lang_String__V rfl) rfl (by show 2 * 0 + _ ≤ _; exact Nat.le_of_eq rfl) (hb hby d4_32) (fun _ _ => ⟨rfl, rfl, (by decide : 17 + 1 ≤ _), (by decide : 2282 + 2752 ≤ _)⟩)
  dsimp only [Pt.U, Pt.locs, Pt.cells, Pt.slots] at X29 l29 y29 z29 st29 hQ29
  subst l29 y29 z29
  obtain ⟨rfl, N29q, Kc29, r29_1, r29_2⟩ := hQ29
  have N29 := Fr.app N22 N29q
  have O29 : Old Z n0 T29.heap := O22.keep Kc29 (allS gn1 all0)
  have K29 : Keep h0 T29.heap [] := K22.trans Kc29 (allS (Or.inr sz1) all0)
  have hk := Nat.le_trans hk Kc29.1
  have HC29 := CHv.keep Kc29 (allS (Safe.exa hZ15.alike (((((((((A1.ext E3).keep Kc5).ext E8).keep Kc11).keep Kc13).ext E15).keep Kc18).keep Kc20).keep Kc22) (by decide) (by decide)) all0) HC22
  have RC29 := RC22.trans (CHr.keep Kc29 (allS (Safe.exa hZ15.alike (((((((((A1.ext E3).keep Kc5).ext E8).keep Kc11).keep Kc13).ext E15).keep Kc18).keep Kc20).keep Kc22) (by decide) (by decide)) all0) HC22)
  obtain ⟨fs, hr, hrun, hended, hRE⟩ := X29.leaveW hS hk (v := some (.ref b1)) (fun h => by rw [Bd.returns] at h; cases h)
  refine ⟨_, _, pre0 _ ?_, hrun, hended, _, _, rfl, ?_, ?_, ⟨hRE.1, hRE.2.1, hRE.2.2.1, hRE.2.2.2.mono (by decide) (by decide)⟩⟩
  · refine st1 _ ?_
    refine XS.dup X1.here hx rfl (hb hby d4_3) rfl rfl ?_
    refine st3 _ ?_
    refine XS.dup X3.here hx rfl (hb hby d4_7) rfl rfl ?_
    refine st5.trans ?_
    refine st8 _ ?_
    refine st11.trans ?_
    refine XS.aloadN X11.here hx rfl (hb hby d4_16) rfl rfl ?_
    refine st13.trans ?_
    refine st15 _ ?_
    refine st18.trans ?_
    refine XS.aloadN X18.here hx rfl (hb hby d4_25) rfl rfl ?_
    show Steps _ _ _ (T18.setTop (mkF m 26 #[vR wa, vR ca] [(.ref ca), (.ref b3), (.ref b1), (.ref b1)])) _
    refine st20.trans ?_
    refine st22.trans ?_
    refine st29.trans ?_
    jvm_step X29.here [X29.here.top, hx, (hb hby d4_35), X29.method', Bd.returns, Value.isRef, FieldType.isReference]
    first | (intro acts; rw [hr _ acts rfl rfl rfl]) | rw [hr _ _ rfl rfl rfl]
    exact Steps.refl _
  · show Qunknown Z wa ca tw kw dw tc kc dc cz sf us se h0 n0 _ T29.heap _
    exact ⟨b1, a_22, t_22, kt_22, rfl, N29, K29, sz1, sz23, r29_1, r29_2, (r22_3.keep Kc29), (r22_4.keep Kc29 (ninS (Ne.symm (Nat.ne_of_lt (Nat.lt_of_lt_of_le ((((((((A1.ext E3).keep Kc5).ext E8).keep Kc11).keep Kc13).ext E15).keep Kc18).keep Kc20).lt r22_1))) nin0)), (Fr27.keep Kc29 (ninS (Ne.symm (Nat.ne_of_lt (Nat.lt_of_lt_of_le ((((((((A1.ext E3).keep Kc5).ext E8).keep Kc11).keep Kc13).ext E15).keep Kc18).keep Kc20).lt r22_1))) nin0)), (Fr28.keep Kc29 (ninS (Ne.symm (Nat.ne_of_lt (Nat.lt_of_lt_of_le ((((((((A1.ext E3).keep Kc5).ext E8).keep Kc11).keep Kc13).ext E15).keep Kc18).keep Kc20).lt r22_2))) nin0))⟩
  · rw [hh]
    show CHr Z own_EL s.vm h0 T29.vm T29.heap
    exact RC29.trans (CHv.at X29 hZ hEL HC29)
theorem own_l10 {w0 w1 c0 c1 : Int32} {i : Nat} (h : i < 35) : i < (own_xs [w0, w1] own_nil).length := h
abbrev c37_ := method_3_code
theorem d37_0 : decode c37_ 0 = .ok (.iload_n 0, 1) := by decide +kernel
theorem d37_1 : decode c37_ 1 = .ok (.ifCond .ne 10, 3) := by decide +kernel
theorem d37_11 : decode c37_ 11 = .ok (.iload_n 0, 1) := by decide +kernel
theorem d37_12 : decode c37_ 12 = .ok (.ifCond .eq 221, 3) := by decide +kernel
theorem d37_15 : decode c37_ 15 = .ok (.iload_n 1, 1) := by decide +kernel
theorem d37_16 : decode c37_ 16 = .ok (.ifCond .ne 217, 3) := by decide +kernel
theorem w_0 : (Cond.classLink "com/example/levy/levy/store/StoreExceptionUnknownPinLaw" (7 : Nat) "java/lang/String") ∈ tables_1 := List.mem_of_getElem? (i := 0) (by decide +kernel)
theorem d37_19 : decode c37_ 19 = .ok (.new 7, 3) := by decide +kernel
theorem d37_22 : decode c37_ 22 = .ok (.dup, 1) := by decide +kernel
theorem d37_23 : decode c37_ 23 = .ok (.bipush 35, 2) := by decide +kernel
theorem w_3 : (Cond.arrayClass FieldType.char) ∈ tables_1 := List.mem_of_getElem? (i := 3) (by decide +kernel)
theorem d37_25 : decode c37_ 25 = .ok (.newarray .char, 2) := by decide +kernel
theorem d37_27 : decode c37_ 27 = .ok (.dup, 1) := by decide +kernel
theorem d37_28 : decode c37_ 28 = .ok (.iconst 0, 1) := by decide +kernel
theorem d37_29 : decode c37_ 29 = .ok (.bipush 116, 2) := by decide +kernel
theorem d37_31 : decode c37_ 31 = .ok (.castore, 1) := by decide +kernel
theorem d37_32 : decode c37_ 32 = .ok (.dup, 1) := by decide +kernel
theorem d37_33 : decode c37_ 33 = .ok (.iconst 1, 1) := by decide +kernel
theorem d37_34 : decode c37_ 34 = .ok (.bipush 104, 2) := by decide +kernel
theorem d37_36 : decode c37_ 36 = .ok (.castore, 1) := by decide +kernel
theorem d37_37 : decode c37_ 37 = .ok (.dup, 1) := by decide +kernel
theorem d37_38 : decode c37_ 38 = .ok (.iconst 2, 1) := by decide +kernel
theorem d37_39 : decode c37_ 39 = .ok (.bipush 101, 2) := by decide +kernel
theorem d37_41 : decode c37_ 41 = .ok (.castore, 1) := by decide +kernel
theorem d37_42 : decode c37_ 42 = .ok (.dup, 1) := by decide +kernel
theorem d37_43 : decode c37_ 43 = .ok (.iconst 3, 1) := by decide +kernel
theorem d37_44 : decode c37_ 44 = .ok (.bipush 32, 2) := by decide +kernel
theorem d37_46 : decode c37_ 46 = .ok (.castore, 1) := by decide +kernel
theorem d37_47 : decode c37_ 47 = .ok (.dup, 1) := by decide +kernel
theorem d37_48 : decode c37_ 48 = .ok (.iconst 4, 1) := by decide +kernel
theorem d37_49 : decode c37_ 49 = .ok (.bipush 100, 2) := by decide +kernel
theorem d37_51 : decode c37_ 51 = .ok (.castore, 1) := by decide +kernel
theorem d37_52 : decode c37_ 52 = .ok (.dup, 1) := by decide +kernel
theorem d37_53 : decode c37_ 53 = .ok (.iconst 5, 1) := by decide +kernel
theorem d37_54 : decode c37_ 54 = .ok (.bipush 97, 2) := by decide +kernel
theorem d37_56 : decode c37_ 56 = .ok (.castore, 1) := by decide +kernel
theorem d37_57 : decode c37_ 57 = .ok (.dup, 1) := by decide +kernel
theorem d37_58 : decode c37_ 58 = .ok (.bipush 6, 2) := by decide +kernel
theorem d37_60 : decode c37_ 60 = .ok (.bipush 116, 2) := by decide +kernel
theorem d37_62 : decode c37_ 62 = .ok (.castore, 1) := by decide +kernel
theorem d37_63 : decode c37_ 63 = .ok (.dup, 1) := by decide +kernel
theorem d37_64 : decode c37_ 64 = .ok (.bipush 7, 2) := by decide +kernel
theorem d37_66 : decode c37_ 66 = .ok (.bipush 97, 2) := by decide +kernel
theorem d37_68 : decode c37_ 68 = .ok (.castore, 1) := by decide +kernel
theorem d37_69 : decode c37_ 69 = .ok (.dup, 1) := by decide +kernel
theorem d37_70 : decode c37_ 70 = .ok (.bipush 8, 2) := by decide +kernel
theorem d37_72 : decode c37_ 72 = .ok (.bipush 32, 2) := by decide +kernel
theorem d37_74 : decode c37_ 74 = .ok (.castore, 1) := by decide +kernel
theorem d37_75 : decode c37_ 75 = .ok (.dup, 1) := by decide +kernel
theorem d37_76 : decode c37_ 76 = .ok (.bipush 9, 2) := by decide +kernel
theorem d37_78 : decode c37_ 78 = .ok (.bipush 102, 2) := by decide +kernel
theorem d37_80 : decode c37_ 80 = .ok (.castore, 1) := by decide +kernel
theorem d37_81 : decode c37_ 81 = .ok (.dup, 1) := by decide +kernel
theorem d37_82 : decode c37_ 82 = .ok (.bipush 10, 2) := by decide +kernel
theorem d37_84 : decode c37_ 84 = .ok (.bipush 105, 2) := by decide +kernel
theorem d37_86 : decode c37_ 86 = .ok (.castore, 1) := by decide +kernel
theorem d37_87 : decode c37_ 87 = .ok (.dup, 1) := by decide +kernel
theorem d37_88 : decode c37_ 88 = .ok (.bipush 11, 2) := by decide +kernel
theorem d37_90 : decode c37_ 90 = .ok (.bipush 108, 2) := by decide +kernel
theorem d37_92 : decode c37_ 92 = .ok (.castore, 1) := by decide +kernel
theorem d37_93 : decode c37_ 93 = .ok (.dup, 1) := by decide +kernel
theorem d37_94 : decode c37_ 94 = .ok (.bipush 12, 2) := by decide +kernel
theorem d37_96 : decode c37_ 96 = .ok (.bipush 101, 2) := by decide +kernel
theorem d37_98 : decode c37_ 98 = .ok (.castore, 1) := by decide +kernel
theorem d37_99 : decode c37_ 99 = .ok (.dup, 1) := by decide +kernel
theorem d37_100 : decode c37_ 100 = .ok (.bipush 13, 2) := by decide +kernel
theorem d37_102 : decode c37_ 102 = .ok (.bipush 32, 2) := by decide +kernel
theorem d37_104 : decode c37_ 104 = .ok (.castore, 1) := by decide +kernel
theorem d37_105 : decode c37_ 105 = .ok (.dup, 1) := by decide +kernel
theorem d37_106 : decode c37_ 106 = .ok (.bipush 14, 2) := by decide +kernel
theorem d37_108 : decode c37_ 108 = .ok (.bipush 104, 2) := by decide +kernel
theorem d37_110 : decode c37_ 110 = .ok (.castore, 1) := by decide +kernel
theorem d37_111 : decode c37_ 111 = .ok (.dup, 1) := by decide +kernel
theorem d37_112 : decode c37_ 112 = .ok (.bipush 15, 2) := by decide +kernel
theorem d37_114 : decode c37_ 114 = .ok (.bipush 111, 2) := by decide +kernel
theorem d37_116 : decode c37_ 116 = .ok (.castore, 1) := by decide +kernel
theorem d37_117 : decode c37_ 117 = .ok (.dup, 1) := by decide +kernel
theorem d37_118 : decode c37_ 118 = .ok (.bipush 16, 2) := by decide +kernel
theorem d37_120 : decode c37_ 120 = .ok (.bipush 108, 2) := by decide +kernel
theorem d37_122 : decode c37_ 122 = .ok (.castore, 1) := by decide +kernel
theorem d37_123 : decode c37_ 123 = .ok (.dup, 1) := by decide +kernel
theorem d37_124 : decode c37_ 124 = .ok (.bipush 17, 2) := by decide +kernel
theorem d37_126 : decode c37_ 126 = .ok (.bipush 100, 2) := by decide +kernel
theorem d37_128 : decode c37_ 128 = .ok (.castore, 1) := by decide +kernel
theorem d37_129 : decode c37_ 129 = .ok (.dup, 1) := by decide +kernel
theorem d37_130 : decode c37_ 130 = .ok (.bipush 18, 2) := by decide +kernel
theorem d37_132 : decode c37_ 132 = .ok (.bipush 115, 2) := by decide +kernel
theorem d37_134 : decode c37_ 134 = .ok (.castore, 1) := by decide +kernel
theorem d37_135 : decode c37_ 135 = .ok (.dup, 1) := by decide +kernel
theorem d37_136 : decode c37_ 136 = .ok (.bipush 19, 2) := by decide +kernel
theorem d37_138 : decode c37_ 138 = .ok (.bipush 32, 2) := by decide +kernel
theorem d37_140 : decode c37_ 140 = .ok (.castore, 1) := by decide +kernel
theorem d37_141 : decode c37_ 141 = .ok (.dup, 1) := by decide +kernel
theorem d37_142 : decode c37_ 142 = .ok (.bipush 20, 2) := by decide +kernel
theorem d37_144 : decode c37_ 144 = .ok (.bipush 97, 2) := by decide +kernel
theorem d37_146 : decode c37_ 146 = .ok (.castore, 1) := by decide +kernel
theorem d37_147 : decode c37_ 147 = .ok (.dup, 1) := by decide +kernel
theorem d37_148 : decode c37_ 148 = .ok (.bipush 21, 2) := by decide +kernel
theorem d37_150 : decode c37_ 150 = .ok (.bipush 110, 2) := by decide +kernel
theorem d37_152 : decode c37_ 152 = .ok (.castore, 1) := by decide +kernel
theorem d37_153 : decode c37_ 153 = .ok (.dup, 1) := by decide +kernel
theorem d37_154 : decode c37_ 154 = .ok (.bipush 22, 2) := by decide +kernel
theorem d37_156 : decode c37_ 156 = .ok (.bipush 32, 2) := by decide +kernel
theorem d37_158 : decode c37_ 158 = .ok (.castore, 1) := by decide +kernel
theorem d37_159 : decode c37_ 159 = .ok (.dup, 1) := by decide +kernel
theorem d37_160 : decode c37_ 160 = .ok (.bipush 23, 2) := by decide +kernel
theorem d37_162 : decode c37_ 162 = .ok (.bipush 117, 2) := by decide +kernel
theorem d37_164 : decode c37_ 164 = .ok (.castore, 1) := by decide +kernel
theorem d37_165 : decode c37_ 165 = .ok (.dup, 1) := by decide +kernel
theorem d37_166 : decode c37_ 166 = .ok (.bipush 24, 2) := by decide +kernel
theorem d37_168 : decode c37_ 168 = .ok (.bipush 110, 2) := by decide +kernel
theorem d37_170 : decode c37_ 170 = .ok (.castore, 1) := by decide +kernel
theorem d37_171 : decode c37_ 171 = .ok (.dup, 1) := by decide +kernel
theorem d37_172 : decode c37_ 172 = .ok (.bipush 25, 2) := by decide +kernel
theorem d37_174 : decode c37_ 174 = .ok (.bipush 107, 2) := by decide +kernel
theorem d37_176 : decode c37_ 176 = .ok (.castore, 1) := by decide +kernel
theorem d37_177 : decode c37_ 177 = .ok (.dup, 1) := by decide +kernel
theorem d37_178 : decode c37_ 178 = .ok (.bipush 26, 2) := by decide +kernel
theorem d37_180 : decode c37_ 180 = .ok (.bipush 110, 2) := by decide +kernel
theorem d37_182 : decode c37_ 182 = .ok (.castore, 1) := by decide +kernel
theorem d37_183 : decode c37_ 183 = .ok (.dup, 1) := by decide +kernel
theorem d37_184 : decode c37_ 184 = .ok (.bipush 27, 2) := by decide +kernel
theorem d37_186 : decode c37_ 186 = .ok (.bipush 111, 2) := by decide +kernel
theorem d37_188 : decode c37_ 188 = .ok (.castore, 1) := by decide +kernel
theorem d37_189 : decode c37_ 189 = .ok (.dup, 1) := by decide +kernel
theorem d37_190 : decode c37_ 190 = .ok (.bipush 28, 2) := by decide +kernel
theorem d37_192 : decode c37_ 192 = .ok (.bipush 119, 2) := by decide +kernel
theorem d37_194 : decode c37_ 194 = .ok (.castore, 1) := by decide +kernel
theorem d37_195 : decode c37_ 195 = .ok (.dup, 1) := by decide +kernel
theorem d37_196 : decode c37_ 196 = .ok (.bipush 29, 2) := by decide +kernel
theorem d37_198 : decode c37_ 198 = .ok (.bipush 110, 2) := by decide +kernel
theorem d37_200 : decode c37_ 200 = .ok (.castore, 1) := by decide +kernel
theorem d37_201 : decode c37_ 201 = .ok (.dup, 1) := by decide +kernel
theorem d37_202 : decode c37_ 202 = .ok (.bipush 30, 2) := by decide +kernel
theorem d37_204 : decode c37_ 204 = .ok (.bipush 32, 2) := by decide +kernel
theorem d37_206 : decode c37_ 206 = .ok (.castore, 1) := by decide +kernel
theorem d37_207 : decode c37_ 207 = .ok (.dup, 1) := by decide +kernel
theorem d37_208 : decode c37_ 208 = .ok (.bipush 31, 2) := by decide +kernel
theorem d37_210 : decode c37_ 210 = .ok (.iload_n 2, 1) := by decide +kernel
theorem d37_211 : decode c37_ 211 = .ok (.castore, 1) := by decide +kernel
theorem d37_212 : decode c37_ 212 = .ok (.dup, 1) := by decide +kernel
theorem d37_213 : decode c37_ 213 = .ok (.bipush 32, 2) := by decide +kernel
theorem d37_215 : decode c37_ 215 = .ok (.iload_n 3, 1) := by decide +kernel
theorem d37_216 : decode c37_ 216 = .ok (.castore, 1) := by decide +kernel
theorem d37_217 : decode c37_ 217 = .ok (.dup, 1) := by decide +kernel
theorem d37_218 : decode c37_ 218 = .ok (.bipush 33, 2) := by decide +kernel
theorem d37_220 : decode c37_ 220 = .ok (.bipush 58, 2) := by decide +kernel
theorem d37_222 : decode c37_ 222 = .ok (.castore, 1) := by decide +kernel
theorem d37_223 : decode c37_ 223 = .ok (.dup, 1) := by decide +kernel
theorem d37_224 : decode c37_ 224 = .ok (.bipush 34, 2) := by decide +kernel
theorem d37_226 : decode c37_ 226 = .ok (.bipush 32, 2) := by decide +kernel
theorem d37_228 : decode c37_ 228 = .ok (.castore, 1) := by decide +kernel
theorem w_4 : (Cond.methodLink "com/example/levy/levy/store/StoreExceptionUnknownPinLaw" (9 : Nat) mN13) ∈ tables_1 := List.mem_of_getElem? (i := 4) (by decide +kernel)
theorem w_6 : (Cond.code mN13 jdk_42_method_3_code (2 : Nat) (Option.none : Option Jvm.ClassFile.FieldType)) ∈ tables_1 := List.mem_of_getElem? (i := 6) (by decide +kernel)
theorem pd__AC_V : parseMethodDescriptor "([C)V" = some ⟨[(.array .char)], none⟩ := by decide +kernel
theorem d37_229 : decode c37_ 229 = .ok (.invokespecial 9, 3) := by decide +kernel
theorem w_5 : (Cond.instanceMethod mN13) ∈ tables_1 := List.mem_of_getElem? (i := 5) (by decide +kernel)
theorem d37_232 : decode c37_ 232 = .ok (.areturn, 1) := by decide +kernel
abbrev mN53 : MethodName := ⟨"com/example/levy/levy/store/StoreExceptionUnknownPinLaw", "expected", "(ZZCCCC)Ljava/lang/String;"⟩
theorem ef_expd10 (m : MethodId) (x0 : Int32) (x1 : Int32) (x2 : Int32) (x3 : Int32) (x4 : Int32) (x5 : Int32) : entryFrame m #[(.int x0), (.int x1), (.int x2), (.int x3), (.int x4), (.int x5)] 6 = mkF m 0 #[vI x0, vI x1, vI x2, vI x3, vI x4, vI x5] [] := by first | (simp [entryFrame, mkF, argsToLocals, Value.category]; done) | rfl
def Qexpd10 (Z : State) (w0 : Int32) (w1 : Int32) (c0 : Int32) (c1 : Int32) (cz : Int32) (h0 : Heap) (n0 : Nat) (v : Option Value) (h : Heap) (L : List Loc) : Prop := ∃ (r : Addr), ∃ (t : Addr), ∃ (kt : ClassId), v = some (.ref r) ∧ Fr n0 L ∧ Keep h0 h [] ∧ h0.size ≤ r ∧ Exa Z h r "java/lang/String" ∧ Fld Z h r "java/lang/String" "value" "[B" (.ref t) ∧ Fld Z h r "java/lang/String" "coder" "B" (.int (own_i (own_cd (own_xs [w0, w1] own_nil)))) ∧ Arv Z h t kt .byte (own_i (own_wd (own_cd (own_xs [w0, w1] own_nil)) (own_xs [w0, w1] own_nil).length)) ((own_enc (own_cd (own_xs [w0, w1] own_nil)) (own_xs [w0, w1] own_nil)).map Value.int) (.int 0)
theorem pn_com_example_levy_levy_store_StoreExceptionUnknownPinLaw : plainName "com/example/levy/levy/store/StoreExceptionUnknownPinLaw" = true := by first | (simp [plainName, overriddenIn]; done) | decide +kernel
set_option maxRecDepth 65536 in
set_option maxHeartbeats 40000000 in
theorem rmexpd10 (l : Launch) (Z : State) (a0 : Array Value) (hw : ∀ d ∈ tables_1, d.before a0 Z = true) (ws : List Jvm.Cond) (w0 : Int32) (w1 : Int32) (c0 : Int32) (c1 : Int32) (cz : Int32) (h0 : Heap) (n0 : Nat) (O0 : Old Z n0 h0) (hp0 : Sta Z Z.heap "java/lang/StringUTF16" "$assertionsDisabled" "Z" (.int 1)) (hp1 : Sta Z Z.heap "java/lang/StringUTF16" "HI_BYTE_SHIFT" "I" (.int 0)) (hp2 : Sta Z Z.heap "java/lang/StringUTF16" "LO_BYTE_SHIFT" "I" (.int 8)) (hp3 : Sta Z Z.heap "java/lang/String" "COMPACT_STRINGS" "Z" (.int cz)) (hcz : (¬ (cz = (0 : Int32)))) (r_w0 : (¬ w0 < (0 : Int32) ∧ ¬ (65535 : Int32) < w0)) (r_w1 : (¬ w1 < (0 : Int32) ∧ ¬ (65535 : Int32) < w1)) (r_c0 : (¬ c0 < (0 : Int32) ∧ ¬ (65535 : Int32) < c0)) (r_c1 : (¬ c1 < (0 : Int32) ∧ ¬ (65535 : Int32) < c1)) :
    MetFree l mN53 (head1 (Jvm.Cond.code mN53 method_3_code 6 (some (.object "java/lang/String")) :: ws) ({ frames := 6, cells := 4, slots := 239, locals := 88 } : Room)) (fun as_ U => as_ = #[(.int 1), (.int 0), (.int w0), (.int w1), (.int c0), (.int c1)] ∧ Z.Warmed39 U.vm ∧ U.heap = h0) (fun _ _ _ _ _ => True) (fun _ U o U' => ∃ v L, o = .returned v ∧ Qexpd10 Z w0 w1 c0 c1 cz h0 n0 v U'.heap L ∧ FrameEnd U o U' L ({ frames := 6, cells := 4, slots := 239, locals := 88 } : Room).cells ({ frames := 6, cells := 4, slots := 239, locals := 88 } : Room).slots) := by
  refine MetFree.of_bodySF (plainFor_of_name pn_com_example_levy_levy_store_StoreExceptionUnknownPinLaw) hisR ?_
  intro p e s m args below meth c s₁ Bd hml0 hP hK
  obtain ⟨rfl, hZ, hh⟩ := hP
  have hx := Bd.exec
  have hby := Bd.bytes
  have hml : c.maxLocals = 6 := hml0
  have hown : s.vm.findClass "com/example/levy/levy/store/StoreExceptionUnknownPinLaw" = some m.cls := findClass_of_methodNamed Bd.named
  have hnm := (name_of_methodNamed Bd.named Bd.method).1
  have X0 : Stand p l e ({ frames := 6, cells := 4, slots := 239, locals := 88 } : Room) s m #[(.int 1), (.int 0), (.int w0), (.int w1), (.int c0), (.int c1)] below meth c s₁ [] 0 0 := Stand.of_body Bd
  have e0 : s₁.heap = h0 := by rw [← hh, Bd.state]; rfl
  have N0 := Fr.nil n0
  have Z0 := own_z0 O0
  have pre0 : ∀ tg_, Steps p.tables e below (s₁.setTop (mkF m 0 #[vI 1, vI 0, vI w0, vI w1, vI c0, vI c1] [])) tg_ → Steps p.tables e below (s₁.setTop (entryFrame m #[(.int 1), (.int 0), (.int w0), (.int w1), (.int c0), (.int c1)] 6)) tg_ := fun tg_ kt_ => castTop (ef_expd10 m (1 : Int32) (0 : Int32) w0 w1 c0 c1) kt_
  obtain ⟨T1, h1, X1, e1, E1, A1, D1, U1, st1⟩ := newO X0 hx hZ hown (hw _ w_0) (hw _ w_1) (hw _ w_2) e0 (g := (mkF m 19 #[vI 1, vI 0, vI w0, vI w1, vI c0, vI c1] [])) rfl (hb hby d37_19) (by decide) (by decide)
  obtain ⟨b1, g1⟩ : ∃ z, z = h0.size := ⟨_, rfl⟩
  rw [← g1] at A1 D1 U1 st1
  have Un1 : Unt h1 b1 := U1
  have sz1 : h0.size ≤ b1 := Nat.le_trans (Keep.refl h0 []).1 (Nat.le_of_eq g1.symm)
  have gn1 : n0 ≤ b1 := Nat.le_trans Z0 sz1
  have O1 : Old Z n0 h1 := O0.ext E1
  have K1 : Keep h0 h1 [] := (Keep.refl h0 []).ext E1
  have F1_16 : Fld Z h1 b1 "java/lang/String" "value" "[B" .null := D1 (Or.inr (hw _ w_16)) (ty := (.array .byte)) (by decide)
  have F1_17 : Fld Z h1 b1 "java/lang/String" "coder" "B" (.int 0) := D1 (Or.inr (hw _ w_17)) (ty := .byte) (by decide)
  obtain ⟨T3, h3, k3, X3, e3, E3, A3, st3⟩ := newP X1 hx hZ (hw (Jvm.Cond.arrayClass (newarray.typeOf .char)) w_3) e1 (g := (mkF m 25 #[vI 1, vI 0, vI w0, vI w1, vI c0, vI c1] [(.int 35), (.ref b1), (.ref b1)])) rfl (hb hby d37_25) rfl (by decide) (cap := 35) (by decide) (by decide) (by decide) (by decide)
  obtain ⟨b3, g3⟩ : ∃ z, z = h1.size := ⟨_, rfl⟩
  rw [← g3] at A3 st3
  have sz3 : h0.size ≤ b3 := Nat.le_trans K1.1 (Nat.le_of_eq g3.symm)
  have gn3 : n0 ≤ b3 := Nat.le_trans Z0 sz3
  have O3 : Old Z n0 h3 := O1.ext E3
  have K3 : Keep h0 h3 [] := K1.ext E3
  have V3 : Arv Z h3 b3 k3 .char (35 : Int32) [(.int 0), (.int 0), (.int 0), (.int 0), (.int 0), (.int 0), (.int 0), (.int 0), (.int 0), (.int 0), (.int 0), (.int 0), (.int 0), (.int 0), (.int 0), (.int 0), (.int 0), (.int 0), (.int 0), (.int 0), (.int 0), (.int 0), (.int 0), (.int 0), (.int 0), (.int 0), (.int 0), (.int 0), (.int 0), (.int 0), (.int 0), (.int 0), (.int 0), (.int 0), (.int 0)] (.int 0) := (Arv.new A3 (by decide)).pad (pad_rep [] (.int 0) 35)
  have Vr5 : Arv Z h3 b3 k3 .char (35 : Int32) (((own_xs [w0, w1] own_nil).take 0).map Value.int) (.int 0) := by
    have q := V3
    exact q.pad (fun i => (pad_rep [] _ 35 i).symm)
  obtain ⟨T6, h6, L6, X6, e6, W6, N6, O6, K6, V6, st6⟩ := own_stx (i := 0) X3 hx hZ e3 Vr5 N0 O3 K3 sz3 Z0 rfl ⟨by decide, by decide⟩ (own_l10 (w0 := w0) (w1 := w1) (c0 := c0) (c1 := c1) (by decide)) (by decide : nar .char (116 : Int32) = (116 : Int32)) (g := (mkF m 31 #[vI 1, vI 0, vI w0, vI w1, vI c0, vI c1] [(.int 116), (.int 0), (.ref b3), (.ref b3), (.ref b1), (.ref b1)])) rfl rfl (hb hby d37_31)
  obtain ⟨T7, h7, L7, X7, e7, W7, N7, O7, K7, V7, st7⟩ := own_stx (i := 1) X6 hx hZ e6 V6 N6 O6 K6 sz3 Z0 rfl ⟨by decide, by decide⟩ (own_l10 (w0 := w0) (w1 := w1) (c0 := c0) (c1 := c1) (by decide)) (by decide : nar .char (104 : Int32) = (104 : Int32)) (g := (mkF m 36 #[vI 1, vI 0, vI w0, vI w1, vI c0, vI c1] [(.int 104), (.int 1), (.ref b3), (.ref b3), (.ref b1), (.ref b1)])) rfl rfl (hb hby d37_36)
  obtain ⟨T8, h8, L8, X8, e8, W8, N8, O8, K8, V8, st8⟩ := own_stx (i := 2) X7 hx hZ e7 V7 N7 O7 K7 sz3 Z0 rfl ⟨by decide, by decide⟩ (own_l10 (w0 := w0) (w1 := w1) (c0 := c0) (c1 := c1) (by decide)) (by decide : nar .char (101 : Int32) = (101 : Int32)) (g := (mkF m 41 #[vI 1, vI 0, vI w0, vI w1, vI c0, vI c1] [(.int 101), (.int 2), (.ref b3), (.ref b3), (.ref b1), (.ref b1)])) rfl rfl (hb hby d37_41)
  obtain ⟨T9, h9, L9, X9, e9, W9, N9, O9, K9, V9, st9⟩ := own_stx (i := 3) X8 hx hZ e8 V8 N8 O8 K8 sz3 Z0 rfl ⟨by decide, by decide⟩ (own_l10 (w0 := w0) (w1 := w1) (c0 := c0) (c1 := c1) (by decide)) (by decide : nar .char (32 : Int32) = (32 : Int32)) (g := (mkF m 46 #[vI 1, vI 0, vI w0, vI w1, vI c0, vI c1] [(.int 32), (.int 3), (.ref b3), (.ref b3), (.ref b1), (.ref b1)])) rfl rfl (hb hby d37_46)
  obtain ⟨T10, h10, L10, X10, e10, W10, N10, O10, K10, V10, st10⟩ := own_stx (i := 4) X9 hx hZ e9 V9 N9 O9 K9 sz3 Z0 rfl ⟨by decide, by decide⟩ (own_l10 (w0 := w0) (w1 := w1) (c0 := c0) (c1 := c1) (by decide)) (by decide : nar .char (100 : Int32) = (100 : Int32)) (g := (mkF m 51 #[vI 1, vI 0, vI w0, vI w1, vI c0, vI c1] [(.int 100), (.int 4), (.ref b3), (.ref b3), (.ref b1), (.ref b1)])) rfl rfl (hb hby d37_51)
  obtain ⟨T11, h11, L11, X11, e11, W11, N11, O11, K11, V11, st11⟩ := own_stx (i := 5) X10 hx hZ e10 V10 N10 O10 K10 sz3 Z0 rfl ⟨by decide, by decide⟩ (own_l10 (w0 := w0) (w1 := w1) (c0 := c0) (c1 := c1) (by decide)) (by decide : nar .char (97 : Int32) = (97 : Int32)) (g := (mkF m 56 #[vI 1, vI 0, vI w0, vI w1, vI c0, vI c1] [(.int 97), (.int 5), (.ref b3), (.ref b3), (.ref b1), (.ref b1)])) rfl rfl (hb hby d37_56)
  obtain ⟨T12, h12, L12, X12, e12, W12, N12, O12, K12, V12, st12⟩ := own_stx (i := 6) X11 hx hZ e11 V11 N11 O11 K11 sz3 Z0 rfl ⟨by decide, by decide⟩ (own_l10 (w0 := w0) (w1 := w1) (c0 := c0) (c1 := c1) (by decide)) (by decide : nar .char (116 : Int32) = (116 : Int32)) (g := (mkF m 62 #[vI 1, vI 0, vI w0, vI w1, vI c0, vI c1] [(.int 116), (.int 6), (.ref b3), (.ref b3), (.ref b1), (.ref b1)])) rfl rfl (hb hby d37_62)
  obtain ⟨T13, h13, L13, X13, e13, W13, N13, O13, K13, V13, st13⟩ := own_stx (i := 7) X12 hx hZ e12 V12 N12 O12 K12 sz3 Z0 rfl ⟨by decide, by decide⟩ (own_l10 (w0 := w0) (w1 := w1) (c0 := c0) (c1 := c1) (by decide)) (by decide : nar .char (97 : Int32) = (97 : Int32)) (g := (mkF m 68 #[vI 1, vI 0, vI w0, vI w1, vI c0, vI c1] [(.int 97), (.int 7), (.ref b3), (.ref b3), (.ref b1), (.ref b1)])) rfl rfl (hb hby d37_68)
  obtain ⟨T14, h14, L14, X14, e14, W14, N14, O14, K14, V14, st14⟩ := own_stx (i := 8) X13 hx hZ e13 V13 N13 O13 K13 sz3 Z0 rfl ⟨by decide, by decide⟩ (own_l10 (w0 := w0) (w1 := w1) (c0 := c0) (c1 := c1) (by decide)) (by decide : nar .char (32 : Int32) = (32 : Int32)) (g := (mkF m 74 #[vI 1, vI 0, vI w0, vI w1, vI c0, vI c1] [(.int 32), (.int 8), (.ref b3), (.ref b3), (.ref b1), (.ref b1)])) rfl rfl (hb hby d37_74)
  obtain ⟨T15, h15, L15, X15, e15, W15, N15, O15, K15, V15, st15⟩ := own_stx (i := 9) X14 hx hZ e14 V14 N14 O14 K14 sz3 Z0 rfl ⟨by decide, by decide⟩ (own_l10 (w0 := w0) (w1 := w1) (c0 := c0) (c1 := c1) (by decide)) (by decide : nar .char (102 : Int32) = (102 : Int32)) (g := (mkF m 80 #[vI 1, vI 0, vI w0, vI w1, vI c0, vI c1] [(.int 102), (.int 9), (.ref b3), (.ref b3), (.ref b1), (.ref b1)])) rfl rfl (hb hby d37_80)
  obtain ⟨T16, h16, L16, X16, e16, W16, N16, O16, K16, V16, st16⟩ := own_stx (i := 10) X15 hx hZ e15 V15 N15 O15 K15 sz3 Z0 rfl ⟨by decide, by decide⟩ (own_l10 (w0 := w0) (w1 := w1) (c0 := c0) (c1 := c1) (by decide)) (by decide : nar .char (105 : Int32) = (105 : Int32)) (g := (mkF m 86 #[vI 1, vI 0, vI w0, vI w1, vI c0, vI c1] [(.int 105), (.int 10), (.ref b3), (.ref b3), (.ref b1), (.ref b1)])) rfl rfl (hb hby d37_86)
  obtain ⟨T17, h17, L17, X17, e17, W17, N17, O17, K17, V17, st17⟩ := own_stx (i := 11) X16 hx hZ e16 V16 N16 O16 K16 sz3 Z0 rfl ⟨by decide, by decide⟩ (own_l10 (w0 := w0) (w1 := w1) (c0 := c0) (c1 := c1) (by decide)) (by decide : nar .char (108 : Int32) = (108 : Int32)) (g := (mkF m 92 #[vI 1, vI 0, vI w0, vI w1, vI c0, vI c1] [(.int 108), (.int 11), (.ref b3), (.ref b3), (.ref b1), (.ref b1)])) rfl rfl (hb hby d37_92)
  obtain ⟨T18, h18, L18, X18, e18, W18, N18, O18, K18, V18, st18⟩ := own_stx (i := 12) X17 hx hZ e17 V17 N17 O17 K17 sz3 Z0 rfl ⟨by decide, by decide⟩ (own_l10 (w0 := w0) (w1 := w1) (c0 := c0) (c1 := c1) (by decide)) (by decide : nar .char (101 : Int32) = (101 : Int32)) (g := (mkF m 98 #[vI 1, vI 0, vI w0, vI w1, vI c0, vI c1] [(.int 101), (.int 12), (.ref b3), (.ref b3), (.ref b1), (.ref b1)])) rfl rfl (hb hby d37_98)
  obtain ⟨T19, h19, L19, X19, e19, W19, N19, O19, K19, V19, st19⟩ := own_stx (i := 13) X18 hx hZ e18 V18 N18 O18 K18 sz3 Z0 rfl ⟨by decide, by decide⟩ (own_l10 (w0 := w0) (w1 := w1) (c0 := c0) (c1 := c1) (by decide)) (by decide : nar .char (32 : Int32) = (32 : Int32)) (g := (mkF m 104 #[vI 1, vI 0, vI w0, vI w1, vI c0, vI c1] [(.int 32), (.int 13), (.ref b3), (.ref b3), (.ref b1), (.ref b1)])) rfl rfl (hb hby d37_104)
  obtain ⟨T20, h20, L20, X20, e20, W20, N20, O20, K20, V20, st20⟩ := own_stx (i := 14) X19 hx hZ e19 V19 N19 O19 K19 sz3 Z0 rfl ⟨by decide, by decide⟩ (own_l10 (w0 := w0) (w1 := w1) (c0 := c0) (c1 := c1) (by decide)) (by decide : nar .char (104 : Int32) = (104 : Int32)) (g := (mkF m 110 #[vI 1, vI 0, vI w0, vI w1, vI c0, vI c1] [(.int 104), (.int 14), (.ref b3), (.ref b3), (.ref b1), (.ref b1)])) rfl rfl (hb hby d37_110)
  obtain ⟨T21, h21, L21, X21, e21, W21, N21, O21, K21, V21, st21⟩ := own_stx (i := 15) X20 hx hZ e20 V20 N20 O20 K20 sz3 Z0 rfl ⟨by decide, by decide⟩ (own_l10 (w0 := w0) (w1 := w1) (c0 := c0) (c1 := c1) (by decide)) (by decide : nar .char (111 : Int32) = (111 : Int32)) (g := (mkF m 116 #[vI 1, vI 0, vI w0, vI w1, vI c0, vI c1] [(.int 111), (.int 15), (.ref b3), (.ref b3), (.ref b1), (.ref b1)])) rfl rfl (hb hby d37_116)
  obtain ⟨T22, h22, L22, X22, e22, W22, N22, O22, K22, V22, st22⟩ := own_stx (i := 16) X21 hx hZ e21 V21 N21 O21 K21 sz3 Z0 rfl ⟨by decide, by decide⟩ (own_l10 (w0 := w0) (w1 := w1) (c0 := c0) (c1 := c1) (by decide)) (by decide : nar .char (108 : Int32) = (108 : Int32)) (g := (mkF m 122 #[vI 1, vI 0, vI w0, vI w1, vI c0, vI c1] [(.int 108), (.int 16), (.ref b3), (.ref b3), (.ref b1), (.ref b1)])) rfl rfl (hb hby d37_122)
  obtain ⟨T23, h23, L23, X23, e23, W23, N23, O23, K23, V23, st23⟩ := own_stx (i := 17) X22 hx hZ e22 V22 N22 O22 K22 sz3 Z0 rfl ⟨by decide, by decide⟩ (own_l10 (w0 := w0) (w1 := w1) (c0 := c0) (c1 := c1) (by decide)) (by decide : nar .char (100 : Int32) = (100 : Int32)) (g := (mkF m 128 #[vI 1, vI 0, vI w0, vI w1, vI c0, vI c1] [(.int 100), (.int 17), (.ref b3), (.ref b3), (.ref b1), (.ref b1)])) rfl rfl (hb hby d37_128)
  obtain ⟨T24, h24, L24, X24, e24, W24, N24, O24, K24, V24, st24⟩ := own_stx (i := 18) X23 hx hZ e23 V23 N23 O23 K23 sz3 Z0 rfl ⟨by decide, by decide⟩ (own_l10 (w0 := w0) (w1 := w1) (c0 := c0) (c1 := c1) (by decide)) (by decide : nar .char (115 : Int32) = (115 : Int32)) (g := (mkF m 134 #[vI 1, vI 0, vI w0, vI w1, vI c0, vI c1] [(.int 115), (.int 18), (.ref b3), (.ref b3), (.ref b1), (.ref b1)])) rfl rfl (hb hby d37_134)
  obtain ⟨T25, h25, L25, X25, e25, W25, N25, O25, K25, V25, st25⟩ := own_stx (i := 19) X24 hx hZ e24 V24 N24 O24 K24 sz3 Z0 rfl ⟨by decide, by decide⟩ (own_l10 (w0 := w0) (w1 := w1) (c0 := c0) (c1 := c1) (by decide)) (by decide : nar .char (32 : Int32) = (32 : Int32)) (g := (mkF m 140 #[vI 1, vI 0, vI w0, vI w1, vI c0, vI c1] [(.int 32), (.int 19), (.ref b3), (.ref b3), (.ref b1), (.ref b1)])) rfl rfl (hb hby d37_140)
  obtain ⟨T26, h26, L26, X26, e26, W26, N26, O26, K26, V26, st26⟩ := own_stx (i := 20) X25 hx hZ e25 V25 N25 O25 K25 sz3 Z0 rfl ⟨by decide, by decide⟩ (own_l10 (w0 := w0) (w1 := w1) (c0 := c0) (c1 := c1) (by decide)) (by decide : nar .char (97 : Int32) = (97 : Int32)) (g := (mkF m 146 #[vI 1, vI 0, vI w0, vI w1, vI c0, vI c1] [(.int 97), (.int 20), (.ref b3), (.ref b3), (.ref b1), (.ref b1)])) rfl rfl (hb hby d37_146)
  obtain ⟨T27, h27, L27, X27, e27, W27, N27, O27, K27, V27, st27⟩ := own_stx (i := 21) X26 hx hZ e26 V26 N26 O26 K26 sz3 Z0 rfl ⟨by decide, by decide⟩ (own_l10 (w0 := w0) (w1 := w1) (c0 := c0) (c1 := c1) (by decide)) (by decide : nar .char (110 : Int32) = (110 : Int32)) (g := (mkF m 152 #[vI 1, vI 0, vI w0, vI w1, vI c0, vI c1] [(.int 110), (.int 21), (.ref b3), (.ref b3), (.ref b1), (.ref b1)])) rfl rfl (hb hby d37_152)
  obtain ⟨T28, h28, L28, X28, e28, W28, N28, O28, K28, V28, st28⟩ := own_stx (i := 22) X27 hx hZ e27 V27 N27 O27 K27 sz3 Z0 rfl ⟨by decide, by decide⟩ (own_l10 (w0 := w0) (w1 := w1) (c0 := c0) (c1 := c1) (by decide)) (by decide : nar .char (32 : Int32) = (32 : Int32)) (g := (mkF m 158 #[vI 1, vI 0, vI w0, vI w1, vI c0, vI c1] [(.int 32), (.int 22), (.ref b3), (.ref b3), (.ref b1), (.ref b1)])) rfl rfl (hb hby d37_158)
  obtain ⟨T29, h29, L29, X29, e29, W29, N29, O29, K29, V29, st29⟩ := own_stx (i := 23) X28 hx hZ e28 V28 N28 O28 K28 sz3 Z0 rfl ⟨by decide, by decide⟩ (own_l10 (w0 := w0) (w1 := w1) (c0 := c0) (c1 := c1) (by decide)) (by decide : nar .char (117 : Int32) = (117 : Int32)) (g := (mkF m 164 #[vI 1, vI 0, vI w0, vI w1, vI c0, vI c1] [(.int 117), (.int 23), (.ref b3), (.ref b3), (.ref b1), (.ref b1)])) rfl rfl (hb hby d37_164)
  obtain ⟨T30, h30, L30, X30, e30, W30, N30, O30, K30, V30, st30⟩ := own_stx (i := 24) X29 hx hZ e29 V29 N29 O29 K29 sz3 Z0 rfl ⟨by decide, by decide⟩ (own_l10 (w0 := w0) (w1 := w1) (c0 := c0) (c1 := c1) (by decide)) (by decide : nar .char (110 : Int32) = (110 : Int32)) (g := (mkF m 170 #[vI 1, vI 0, vI w0, vI w1, vI c0, vI c1] [(.int 110), (.int 24), (.ref b3), (.ref b3), (.ref b1), (.ref b1)])) rfl rfl (hb hby d37_170)
  obtain ⟨T31, h31, L31, X31, e31, W31, N31, O31, K31, V31, st31⟩ := own_stx (i := 25) X30 hx hZ e30 V30 N30 O30 K30 sz3 Z0 rfl ⟨by decide, by decide⟩ (own_l10 (w0 := w0) (w1 := w1) (c0 := c0) (c1 := c1) (by decide)) (by decide : nar .char (107 : Int32) = (107 : Int32)) (g := (mkF m 176 #[vI 1, vI 0, vI w0, vI w1, vI c0, vI c1] [(.int 107), (.int 25), (.ref b3), (.ref b3), (.ref b1), (.ref b1)])) rfl rfl (hb hby d37_176)
  obtain ⟨T32, h32, L32, X32, e32, W32, N32, O32, K32, V32, st32⟩ := own_stx (i := 26) X31 hx hZ e31 V31 N31 O31 K31 sz3 Z0 rfl ⟨by decide, by decide⟩ (own_l10 (w0 := w0) (w1 := w1) (c0 := c0) (c1 := c1) (by decide)) (by decide : nar .char (110 : Int32) = (110 : Int32)) (g := (mkF m 182 #[vI 1, vI 0, vI w0, vI w1, vI c0, vI c1] [(.int 110), (.int 26), (.ref b3), (.ref b3), (.ref b1), (.ref b1)])) rfl rfl (hb hby d37_182)
  obtain ⟨T33, h33, L33, X33, e33, W33, N33, O33, K33, V33, st33⟩ := own_stx (i := 27) X32 hx hZ e32 V32 N32 O32 K32 sz3 Z0 rfl ⟨by decide, by decide⟩ (own_l10 (w0 := w0) (w1 := w1) (c0 := c0) (c1 := c1) (by decide)) (by decide : nar .char (111 : Int32) = (111 : Int32)) (g := (mkF m 188 #[vI 1, vI 0, vI w0, vI w1, vI c0, vI c1] [(.int 111), (.int 27), (.ref b3), (.ref b3), (.ref b1), (.ref b1)])) rfl rfl (hb hby d37_188)
  obtain ⟨T34, h34, L34, X34, e34, W34, N34, O34, K34, V34, st34⟩ := own_stx (i := 28) X33 hx hZ e33 V33 N33 O33 K33 sz3 Z0 rfl ⟨by decide, by decide⟩ (own_l10 (w0 := w0) (w1 := w1) (c0 := c0) (c1 := c1) (by decide)) (by decide : nar .char (119 : Int32) = (119 : Int32)) (g := (mkF m 194 #[vI 1, vI 0, vI w0, vI w1, vI c0, vI c1] [(.int 119), (.int 28), (.ref b3), (.ref b3), (.ref b1), (.ref b1)])) rfl rfl (hb hby d37_194)
  obtain ⟨T35, h35, L35, X35, e35, W35, N35, O35, K35, V35, st35⟩ := own_stx (i := 29) X34 hx hZ e34 V34 N34 O34 K34 sz3 Z0 rfl ⟨by decide, by decide⟩ (own_l10 (w0 := w0) (w1 := w1) (c0 := c0) (c1 := c1) (by decide)) (by decide : nar .char (110 : Int32) = (110 : Int32)) (g := (mkF m 200 #[vI 1, vI 0, vI w0, vI w1, vI c0, vI c1] [(.int 110), (.int 29), (.ref b3), (.ref b3), (.ref b1), (.ref b1)])) rfl rfl (hb hby d37_200)
  obtain ⟨T36, h36, L36, X36, e36, W36, N36, O36, K36, V36, st36⟩ := own_stx (i := 30) X35 hx hZ e35 V35 N35 O35 K35 sz3 Z0 rfl ⟨by decide, by decide⟩ (own_l10 (w0 := w0) (w1 := w1) (c0 := c0) (c1 := c1) (by decide)) (by decide : nar .char (32 : Int32) = (32 : Int32)) (g := (mkF m 206 #[vI 1, vI 0, vI w0, vI w1, vI c0, vI c1] [(.int 32), (.int 30), (.ref b3), (.ref b3), (.ref b1), (.ref b1)])) rfl rfl (hb hby d37_206)
  obtain ⟨T37, h37, L37, X37, e37, W37, N37, O37, K37, V37, st37⟩ := own_stx (i := 31) X36 hx hZ e36 V36 N36 O36 K36 sz3 Z0 rfl ⟨by decide, by decide⟩ (own_l10 (w0 := w0) (w1 := w1) (c0 := c0) (c1 := c1) (by decide)) (own_narc r_w0) (g := (mkF m 211 #[vI 1, vI 0, vI w0, vI w1, vI c0, vI c1] [(.int w0), (.int 31), (.ref b3), (.ref b3), (.ref b1), (.ref b1)])) rfl rfl (hb hby d37_211)
  obtain ⟨T38, h38, L38, X38, e38, W38, N38, O38, K38, V38, st38⟩ := own_stx (i := 32) X37 hx hZ e37 V37 N37 O37 K37 sz3 Z0 rfl ⟨by decide, by decide⟩ (own_l10 (w0 := w0) (w1 := w1) (c0 := c0) (c1 := c1) (by decide)) (own_narc r_w1) (g := (mkF m 216 #[vI 1, vI 0, vI w0, vI w1, vI c0, vI c1] [(.int w1), (.int 32), (.ref b3), (.ref b3), (.ref b1), (.ref b1)])) rfl rfl (hb hby d37_216)
  obtain ⟨T39, h39, L39, X39, e39, W39, N39, O39, K39, V39, st39⟩ := own_stx (i := 33) X38 hx hZ e38 V38 N38 O38 K38 sz3 Z0 rfl ⟨by decide, by decide⟩ (own_l10 (w0 := w0) (w1 := w1) (c0 := c0) (c1 := c1) (by decide)) (by decide : nar .char (58 : Int32) = (58 : Int32)) (g := (mkF m 222 #[vI 1, vI 0, vI w0, vI w1, vI c0, vI c1] [(.int 58), (.int 33), (.ref b3), (.ref b3), (.ref b1), (.ref b1)])) rfl rfl (hb hby d37_222)
  obtain ⟨T40, h40, L40, X40, e40, W40, N40, O40, K40, V40, st40⟩ := own_stx (i := 34) X39 hx hZ e39 V39 N39 O39 K39 sz3 Z0 rfl ⟨by decide, by decide⟩ (own_l10 (w0 := w0) (w1 := w1) (c0 := c0) (c1 := c1) (by decide)) (by decide : nar .char (32 : Int32) = (32 : Int32)) (g := (mkF m 228 #[vI 1, vI 0, vI w0, vI w1, vI c0, vI c1] [(.int 32), (.int 34), (.ref b3), (.ref b3), (.ref b1), (.ref b1)])) rfl rfl (hb hby d37_228)
  have Vr41 : Arv Z h40 b3 k3 .char (35 : Int32) ((own_xs [w0, w1] own_nil).map Value.int) (.int 0) := by
    have q := V40
    rw [show (own_xs [w0, w1] own_nil).take (34 + 1) = (own_xs [w0, w1] own_nil) from List.take_of_length_le (by show 35 ≤ 35; decide)] at q; exact q
  obtain ⟨_, _, ⟨T42, L42, k42, n42⟩, -, X42, ⟨Lc42, hQ42, l42, y42, z42⟩, st42⟩ := X40.specialBack hx (y := mN13) rfl hown (mvT hZ (hw _ w_4)) (mvT hZ (hw _ w_5)) (mvT hZ (hw _ w_6)) (by decide) (backOf (W := 1) (rmstrC1 l Z a0 hw [] b1 b3 .null (.int 0) 35 k3 (own_xs [w0, w1] own_nil) cz h40 n0 O40 ((((((((((((((((((((((((((((((((((((A1.ext E3).wr W6).wr W7).wr W8).wr W9).wr W10).wr W11).wr W12).wr W13).wr W14).wr W15).wr W16).wr W17).wr W18).wr W19).wr W20).wr W21).wr W22).wr W23).wr W24).wr W25).wr W26).wr W27).wr W28).wr W29).wr W30).wr W31).wr W32).wr W33).wr W34).wr W35).wr W36).wr W37).wr W38).wr W39).wr W40) gn1 ((((((((((((((((((((((((((((((((((((F1_16.ext E3).other W6 (Or.inl (Nat.ne_of_lt (Nat.lt_of_lt_of_le A1.lt (Nat.le_of_eq g3.symm))))).other W7 (Or.inl (Nat.ne_of_lt (Nat.lt_of_lt_of_le A1.lt (Nat.le_of_eq g3.symm))))).other W8 (Or.inl (Nat.ne_of_lt (Nat.lt_of_lt_of_le A1.lt (Nat.le_of_eq g3.symm))))).other W9 (Or.inl (Nat.ne_of_lt (Nat.lt_of_lt_of_le A1.lt (Nat.le_of_eq g3.symm))))).other W10 (Or.inl (Nat.ne_of_lt (Nat.lt_of_lt_of_le A1.lt (Nat.le_of_eq g3.symm))))).other W11 (Or.inl (Nat.ne_of_lt (Nat.lt_of_lt_of_le A1.lt (Nat.le_of_eq g3.symm))))).other W12 (Or.inl (Nat.ne_of_lt (Nat.lt_of_lt_of_le A1.lt (Nat.le_of_eq g3.symm))))).other W13 (Or.inl (Nat.ne_of_lt (Nat.lt_of_lt_of_le A1.lt (Nat.le_of_eq g3.symm))))).other W14 (Or.inl (Nat.ne_of_lt (Nat.lt_of_lt_of_le A1.lt (Nat.le_of_eq g3.symm))))).other W15 (Or.inl (Nat.ne_of_lt (Nat.lt_of_lt_of_le A1.lt (Nat.le_of_eq g3.symm))))).other W16 (Or.inl (Nat.ne_of_lt (Nat.lt_of_lt_of_le A1.lt (Nat.le_of_eq g3.symm))))).other W17 (Or.inl (Nat.ne_of_lt (Nat.lt_of_lt_of_le A1.lt (Nat.le_of_eq g3.symm))))).other W18 (Or.inl (Nat.ne_of_lt (Nat.lt_of_lt_of_le A1.lt (Nat.le_of_eq g3.symm))))).other W19 (Or.inl (Nat.ne_of_lt (Nat.lt_of_lt_of_le A1.lt (Nat.le_of_eq g3.symm))))).other W20 (Or.inl (Nat.ne_of_lt (Nat.lt_of_lt_of_le A1.lt (Nat.le_of_eq g3.symm))))).other W21 (Or.inl (Nat.ne_of_lt (Nat.lt_of_lt_of_le A1.lt (Nat.le_of_eq g3.symm))))).other W22 (Or.inl (Nat.ne_of_lt (Nat.lt_of_lt_of_le A1.lt (Nat.le_of_eq g3.symm))))).other W23 (Or.inl (Nat.ne_of_lt (Nat.lt_of_lt_of_le A1.lt (Nat.le_of_eq g3.symm))))).other W24 (Or.inl (Nat.ne_of_lt (Nat.lt_of_lt_of_le A1.lt (Nat.le_of_eq g3.symm))))).other W25 (Or.inl (Nat.ne_of_lt (Nat.lt_of_lt_of_le A1.lt (Nat.le_of_eq g3.symm))))).other W26 (Or.inl (Nat.ne_of_lt (Nat.lt_of_lt_of_le A1.lt (Nat.le_of_eq g3.symm))))).other W27 (Or.inl (Nat.ne_of_lt (Nat.lt_of_lt_of_le A1.lt (Nat.le_of_eq g3.symm))))).other W28 (Or.inl (Nat.ne_of_lt (Nat.lt_of_lt_of_le A1.lt (Nat.le_of_eq g3.symm))))).other W29 (Or.inl (Nat.ne_of_lt (Nat.lt_of_lt_of_le A1.lt (Nat.le_of_eq g3.symm))))).other W30 (Or.inl (Nat.ne_of_lt (Nat.lt_of_lt_of_le A1.lt (Nat.le_of_eq g3.symm))))).other W31 (Or.inl (Nat.ne_of_lt (Nat.lt_of_lt_of_le A1.lt (Nat.le_of_eq g3.symm))))).other W32 (Or.inl (Nat.ne_of_lt (Nat.lt_of_lt_of_le A1.lt (Nat.le_of_eq g3.symm))))).other W33 (Or.inl (Nat.ne_of_lt (Nat.lt_of_lt_of_le A1.lt (Nat.le_of_eq g3.symm))))).other W34 (Or.inl (Nat.ne_of_lt (Nat.lt_of_lt_of_le A1.lt (Nat.le_of_eq g3.symm))))).other W35 (Or.inl (Nat.ne_of_lt (Nat.lt_of_lt_of_le A1.lt (Nat.le_of_eq g3.symm))))).other W36 (Or.inl (Nat.ne_of_lt (Nat.lt_of_lt_of_le A1.lt (Nat.le_of_eq g3.symm))))).other W37 (Or.inl (Nat.ne_of_lt (Nat.lt_of_lt_of_le A1.lt (Nat.le_of_eq g3.symm))))).other W38 (Or.inl (Nat.ne_of_lt (Nat.lt_of_lt_of_le A1.lt (Nat.le_of_eq g3.symm))))).other W39 (Or.inl (Nat.ne_of_lt (Nat.lt_of_lt_of_le A1.lt (Nat.le_of_eq g3.symm))))).other W40 (Or.inl (Nat.ne_of_lt (Nat.lt_of_lt_of_le A1.lt (Nat.le_of_eq g3.symm))))) ((((((((((((((((((((((((((((((((((((F1_17.ext E3).other W6 (Or.inl (Nat.ne_of_lt (Nat.lt_of_lt_of_le A1.lt (Nat.le_of_eq g3.symm))))).other W7 (Or.inl (Nat.ne_of_lt (Nat.lt_of_lt_of_le A1.lt (Nat.le_of_eq g3.symm))))).other W8 (Or.inl (Nat.ne_of_lt (Nat.lt_of_lt_of_le A1.lt (Nat.le_of_eq g3.symm))))).other W9 (Or.inl (Nat.ne_of_lt (Nat.lt_of_lt_of_le A1.lt (Nat.le_of_eq g3.symm))))).other W10 (Or.inl (Nat.ne_of_lt (Nat.lt_of_lt_of_le A1.lt (Nat.le_of_eq g3.symm))))).other W11 (Or.inl (Nat.ne_of_lt (Nat.lt_of_lt_of_le A1.lt (Nat.le_of_eq g3.symm))))).other W12 (Or.inl (Nat.ne_of_lt (Nat.lt_of_lt_of_le A1.lt (Nat.le_of_eq g3.symm))))).other W13 (Or.inl (Nat.ne_of_lt (Nat.lt_of_lt_of_le A1.lt (Nat.le_of_eq g3.symm))))).other W14 (Or.inl (Nat.ne_of_lt (Nat.lt_of_lt_of_le A1.lt (Nat.le_of_eq g3.symm))))).other W15 (Or.inl (Nat.ne_of_lt (Nat.lt_of_lt_of_le A1.lt (Nat.le_of_eq g3.symm))))).other W16 (Or.inl (Nat.ne_of_lt (Nat.lt_of_lt_of_le A1.lt (Nat.le_of_eq g3.symm))))).other W17 (Or.inl (Nat.ne_of_lt (Nat.lt_of_lt_of_le A1.lt (Nat.le_of_eq g3.symm))))).other W18 (Or.inl (Nat.ne_of_lt (Nat.lt_of_lt_of_le A1.lt (Nat.le_of_eq g3.symm))))).other W19 (Or.inl (Nat.ne_of_lt (Nat.lt_of_lt_of_le A1.lt (Nat.le_of_eq g3.symm))))).other W20 (Or.inl (Nat.ne_of_lt (Nat.lt_of_lt_of_le A1.lt (Nat.le_of_eq g3.symm))))).other W21 (Or.inl (Nat.ne_of_lt (Nat.lt_of_lt_of_le A1.lt (Nat.le_of_eq g3.symm))))).other W22 (Or.inl (Nat.ne_of_lt (Nat.lt_of_lt_of_le A1.lt (Nat.le_of_eq g3.symm))))).other W23 (Or.inl (Nat.ne_of_lt (Nat.lt_of_lt_of_le A1.lt (Nat.le_of_eq g3.symm))))).other W24 (Or.inl (Nat.ne_of_lt (Nat.lt_of_lt_of_le A1.lt (Nat.le_of_eq g3.symm))))).other W25 (Or.inl (Nat.ne_of_lt (Nat.lt_of_lt_of_le A1.lt (Nat.le_of_eq g3.symm))))).other W26 (Or.inl (Nat.ne_of_lt (Nat.lt_of_lt_of_le A1.lt (Nat.le_of_eq g3.symm))))).other W27 (Or.inl (Nat.ne_of_lt (Nat.lt_of_lt_of_le A1.lt (Nat.le_of_eq g3.symm))))).other W28 (Or.inl (Nat.ne_of_lt (Nat.lt_of_lt_of_le A1.lt (Nat.le_of_eq g3.symm))))).other W29 (Or.inl (Nat.ne_of_lt (Nat.lt_of_lt_of_le A1.lt (Nat.le_of_eq g3.symm))))).other W30 (Or.inl (Nat.ne_of_lt (Nat.lt_of_lt_of_le A1.lt (Nat.le_of_eq g3.symm))))).other W31 (Or.inl (Nat.ne_of_lt (Nat.lt_of_lt_of_le A1.lt (Nat.le_of_eq g3.symm))))).other W32 (Or.inl (Nat.ne_of_lt (Nat.lt_of_lt_of_le A1.lt (Nat.le_of_eq g3.symm))))).other W33 (Or.inl (Nat.ne_of_lt (Nat.lt_of_lt_of_le A1.lt (Nat.le_of_eq g3.symm))))).other W34 (Or.inl (Nat.ne_of_lt (Nat.lt_of_lt_of_le A1.lt (Nat.le_of_eq g3.symm))))).other W35 (Or.inl (Nat.ne_of_lt (Nat.lt_of_lt_of_le A1.lt (Nat.le_of_eq g3.symm))))).other W36 (Or.inl (Nat.ne_of_lt (Nat.lt_of_lt_of_le A1.lt (Nat.le_of_eq g3.symm))))).other W37 (Or.inl (Nat.ne_of_lt (Nat.lt_of_lt_of_le A1.lt (Nat.le_of_eq g3.symm))))).other W38 (Or.inl (Nat.ne_of_lt (Nat.lt_of_lt_of_le A1.lt (Nat.le_of_eq g3.symm))))).other W39 (Or.inl (Nat.ne_of_lt (Nat.lt_of_lt_of_le A1.lt (Nat.le_of_eq g3.symm))))).other W40 (Or.inl (Nat.ne_of_lt (Nat.lt_of_lt_of_le A1.lt (Nat.le_of_eq g3.symm))))) Vr41 (by decide) (by decide) rfl (own_chx (own_ch2 r_w0 r_w1) own_chn) hp0 hp1 hp2 hp3 hcz) hZ (hw _ w_6) (hw _ w_2) (by decide) (by decide)) (g := (mkF m 229 #[vI 1, vI 0, vI w0, vI w1, vI c0, vI c1] [(.ref b3), (.ref b1), (.ref b1)])) rfl (by rw [hml]; rfl) (Steps.refl _) (a := b1) (argsL := [(.ref b3)]) (rest := [(.ref b1)]) (lenOf pd__AC_V rfl) rfl (by show 2 * 0 + _ ≤ _; exact Nat.le_of_eq rfl) (hb hby d37_229) (fun _ _ => ⟨rfl, e40, (by decide : 2 + 2 ≤ _), (by decide : 39 + 200 ≤ _)⟩)
  dsimp only [Pt.U, Pt.locs, Pt.cells, Pt.slots] at X42 l42 y42 z42 st42 hQ42
  subst l42 y42 z42
  obtain ⟨t_42, kt_42, rfl, N42q, Kc42, r42_1, r42_2, r42_3, r42_4, r42_5⟩ := hQ42
  have N42 := Fr.app N40 N42q
  have sz43 : h0.size ≤ t_42 := Nat.le_trans K40.1 r42_1
  have gn43 : n0 ≤ t_42 := Nat.le_trans Z0 sz43
  have O42 : Old Z n0 T42.heap := O40.keep Kc42 (allS gn1 all0)
  have K42 : Keep h0 T42.heap [] := K40.trans Kc42 (allS (Or.inr sz1) all0)
  obtain ⟨fs, hr, hrun, hended, hW, hsame⟩ := X42.leave (v := some (.ref b1)) (fun h => by rw [Bd.returns] at h; cases h)
  refine ⟨_, _, pre0 _ ?_, hrun, hended, _, _, rfl, ?_, ⟨_, rfl⟩, hW, hsame.mono (by decide) (by decide)⟩
  · refine XS.iloadN X0.here hx rfl (hb hby d37_0) rfl ?_
    refine XS.ifYes X0.here hx rfl (pc0 := 1) (pc' := 11) rfl (hb hby d37_1) rfl ((if0 _ _).trans (feq (by decide : ¬ ((1 : Int32) = (0 : Int32)))).2) (by decide) (by decide) ?_
    refine XS.iloadN X0.here hx rfl (hb hby d37_11) rfl ?_
    refine XS.ifNo X0.here hx rfl (hb hby d37_12) rfl ((if0 _ _).trans (feq (by decide : ¬ ((1 : Int32) = (0 : Int32)))).1) ?_
    refine XS.iloadN X0.here hx rfl (hb hby d37_15) rfl ?_
    refine XS.ifNo X0.here hx rfl (hb hby d37_16) rfl ((if0 _ _).trans (teq (by decide : (0 : Int32) = (0 : Int32))).2) ?_
    refine st1 _ ?_
    refine XS.dup X1.here hx rfl (hb hby d37_22) rfl rfl ?_
    refine XS.bipush X1.here hx rfl (hb hby d37_23) ?_
    refine st3 _ ?_
    refine XS.dup X3.here hx rfl (hb hby d37_27) rfl rfl ?_
    refine XS.iconst X3.here hx rfl (hb hby d37_28) ?_
    refine XS.bipush X3.here hx rfl (hb hby d37_29) ?_
    show Steps _ _ _ (T3.setTop (mkF m 31 #[vI 1, vI 0, vI w0, vI w1, vI c0, vI c1] [(.int 116), (.int 0), (.ref b3), (.ref b3), (.ref b1), (.ref b1)])) _
    refine st6 _ ?_
    refine XS.dup X6.here hx rfl (hb hby d37_32) rfl rfl ?_
    refine XS.iconst X6.here hx rfl (hb hby d37_33) ?_
    refine XS.bipush X6.here hx rfl (hb hby d37_34) ?_
    refine st7 _ ?_
    refine XS.dup X7.here hx rfl (hb hby d37_37) rfl rfl ?_
    refine XS.iconst X7.here hx rfl (hb hby d37_38) ?_
    refine XS.bipush X7.here hx rfl (hb hby d37_39) ?_
    refine st8 _ ?_
    refine XS.dup X8.here hx rfl (hb hby d37_42) rfl rfl ?_
    refine XS.iconst X8.here hx rfl (hb hby d37_43) ?_
    refine XS.bipush X8.here hx rfl (hb hby d37_44) ?_
    refine st9 _ ?_
    refine XS.dup X9.here hx rfl (hb hby d37_47) rfl rfl ?_
    refine XS.iconst X9.here hx rfl (hb hby d37_48) ?_
    refine XS.bipush X9.here hx rfl (hb hby d37_49) ?_
    refine st10 _ ?_
    refine XS.dup X10.here hx rfl (hb hby d37_52) rfl rfl ?_
    refine XS.iconst X10.here hx rfl (hb hby d37_53) ?_
    refine XS.bipush X10.here hx rfl (hb hby d37_54) ?_
    refine st11 _ ?_
    refine XS.dup X11.here hx rfl (hb hby d37_57) rfl rfl ?_
    refine XS.bipush X11.here hx rfl (hb hby d37_58) ?_
    refine XS.bipush X11.here hx rfl (hb hby d37_60) ?_
    show Steps _ _ _ (T11.setTop (mkF m 62 #[vI 1, vI 0, vI w0, vI w1, vI c0, vI c1] [(.int 116), (.int 6), (.ref b3), (.ref b3), (.ref b1), (.ref b1)])) _
    refine st12 _ ?_
    refine XS.dup X12.here hx rfl (hb hby d37_63) rfl rfl ?_
    refine XS.bipush X12.here hx rfl (hb hby d37_64) ?_
    refine XS.bipush X12.here hx rfl (hb hby d37_66) ?_
    refine st13 _ ?_
    refine XS.dup X13.here hx rfl (hb hby d37_69) rfl rfl ?_
    refine XS.bipush X13.here hx rfl (hb hby d37_70) ?_
    refine XS.bipush X13.here hx rfl (hb hby d37_72) ?_
    refine st14 _ ?_
    refine XS.dup X14.here hx rfl (hb hby d37_75) rfl rfl ?_
    refine XS.bipush X14.here hx rfl (hb hby d37_76) ?_
    refine XS.bipush X14.here hx rfl (hb hby d37_78) ?_
    refine st15 _ ?_
    refine XS.dup X15.here hx rfl (hb hby d37_81) rfl rfl ?_
    refine XS.bipush X15.here hx rfl (hb hby d37_82) ?_
    refine XS.bipush X15.here hx rfl (hb hby d37_84) ?_
    refine st16 _ ?_
    refine XS.dup X16.here hx rfl (hb hby d37_87) rfl rfl ?_
    refine XS.bipush X16.here hx rfl (hb hby d37_88) ?_
    refine XS.bipush X16.here hx rfl (hb hby d37_90) ?_
    refine st17 _ ?_
    refine XS.dup X17.here hx rfl (hb hby d37_93) rfl rfl ?_
    refine XS.bipush X17.here hx rfl (hb hby d37_94) ?_
    refine XS.bipush X17.here hx rfl (hb hby d37_96) ?_
    show Steps _ _ _ (T17.setTop (mkF m 98 #[vI 1, vI 0, vI w0, vI w1, vI c0, vI c1] [(.int 101), (.int 12), (.ref b3), (.ref b3), (.ref b1), (.ref b1)])) _
    refine st18 _ ?_
    refine XS.dup X18.here hx rfl (hb hby d37_99) rfl rfl ?_
    refine XS.bipush X18.here hx rfl (hb hby d37_100) ?_
    refine XS.bipush X18.here hx rfl (hb hby d37_102) ?_
    refine st19 _ ?_
    refine XS.dup X19.here hx rfl (hb hby d37_105) rfl rfl ?_
    refine XS.bipush X19.here hx rfl (hb hby d37_106) ?_
    refine XS.bipush X19.here hx rfl (hb hby d37_108) ?_
    refine st20 _ ?_
    refine XS.dup X20.here hx rfl (hb hby d37_111) rfl rfl ?_
    refine XS.bipush X20.here hx rfl (hb hby d37_112) ?_
    refine XS.bipush X20.here hx rfl (hb hby d37_114) ?_
    refine st21 _ ?_
    refine XS.dup X21.here hx rfl (hb hby d37_117) rfl rfl ?_
    refine XS.bipush X21.here hx rfl (hb hby d37_118) ?_
    refine XS.bipush X21.here hx rfl (hb hby d37_120) ?_
    refine st22 _ ?_
    refine XS.dup X22.here hx rfl (hb hby d37_123) rfl rfl ?_
    refine XS.bipush X22.here hx rfl (hb hby d37_124) ?_
    refine XS.bipush X22.here hx rfl (hb hby d37_126) ?_
    refine st23 _ ?_
    refine XS.dup X23.here hx rfl (hb hby d37_129) rfl rfl ?_
    refine XS.bipush X23.here hx rfl (hb hby d37_130) ?_
    refine XS.bipush X23.here hx rfl (hb hby d37_132) ?_
    show Steps _ _ _ (T23.setTop (mkF m 134 #[vI 1, vI 0, vI w0, vI w1, vI c0, vI c1] [(.int 115), (.int 18), (.ref b3), (.ref b3), (.ref b1), (.ref b1)])) _
    refine st24 _ ?_
    refine XS.dup X24.here hx rfl (hb hby d37_135) rfl rfl ?_
    refine XS.bipush X24.here hx rfl (hb hby d37_136) ?_
    refine XS.bipush X24.here hx rfl (hb hby d37_138) ?_
    refine st25 _ ?_
    refine XS.dup X25.here hx rfl (hb hby d37_141) rfl rfl ?_
    refine XS.bipush X25.here hx rfl (hb hby d37_142) ?_
    refine XS.bipush X25.here hx rfl (hb hby d37_144) ?_
    refine st26 _ ?_
    refine XS.dup X26.here hx rfl (hb hby d37_147) rfl rfl ?_
    refine XS.bipush X26.here hx rfl (hb hby d37_148) ?_
    refine XS.bipush X26.here hx rfl (hb hby d37_150) ?_
    refine st27 _ ?_
    refine XS.dup X27.here hx rfl (hb hby d37_153) rfl rfl ?_
    refine XS.bipush X27.here hx rfl (hb hby d37_154) ?_
    refine XS.bipush X27.here hx rfl (hb hby d37_156) ?_
    refine st28 _ ?_
    refine XS.dup X28.here hx rfl (hb hby d37_159) rfl rfl ?_
    refine XS.bipush X28.here hx rfl (hb hby d37_160) ?_
    refine XS.bipush X28.here hx rfl (hb hby d37_162) ?_
    refine st29 _ ?_
    refine XS.dup X29.here hx rfl (hb hby d37_165) rfl rfl ?_
    refine XS.bipush X29.here hx rfl (hb hby d37_166) ?_
    refine XS.bipush X29.here hx rfl (hb hby d37_168) ?_
    show Steps _ _ _ (T29.setTop (mkF m 170 #[vI 1, vI 0, vI w0, vI w1, vI c0, vI c1] [(.int 110), (.int 24), (.ref b3), (.ref b3), (.ref b1), (.ref b1)])) _
    refine st30 _ ?_
    refine XS.dup X30.here hx rfl (hb hby d37_171) rfl rfl ?_
    refine XS.bipush X30.here hx rfl (hb hby d37_172) ?_
    refine XS.bipush X30.here hx rfl (hb hby d37_174) ?_
    refine st31 _ ?_
    refine XS.dup X31.here hx rfl (hb hby d37_177) rfl rfl ?_
    refine XS.bipush X31.here hx rfl (hb hby d37_178) ?_
    refine XS.bipush X31.here hx rfl (hb hby d37_180) ?_
    refine st32 _ ?_
    refine XS.dup X32.here hx rfl (hb hby d37_183) rfl rfl ?_
    refine XS.bipush X32.here hx rfl (hb hby d37_184) ?_
    refine XS.bipush X32.here hx rfl (hb hby d37_186) ?_
    refine st33 _ ?_
    refine XS.dup X33.here hx rfl (hb hby d37_189) rfl rfl ?_
    refine XS.bipush X33.here hx rfl (hb hby d37_190) ?_
    refine XS.bipush X33.here hx rfl (hb hby d37_192) ?_
    refine st34 _ ?_
    refine XS.dup X34.here hx rfl (hb hby d37_195) rfl rfl ?_
    refine XS.bipush X34.here hx rfl (hb hby d37_196) ?_
    refine XS.bipush X34.here hx rfl (hb hby d37_198) ?_
    refine st35 _ ?_
    refine XS.dup X35.here hx rfl (hb hby d37_201) rfl rfl ?_
    refine XS.bipush X35.here hx rfl (hb hby d37_202) ?_
    refine XS.bipush X35.here hx rfl (hb hby d37_204) ?_
    show Steps _ _ _ (T35.setTop (mkF m 206 #[vI 1, vI 0, vI w0, vI w1, vI c0, vI c1] [(.int 32), (.int 30), (.ref b3), (.ref b3), (.ref b1), (.ref b1)])) _
    refine st36 _ ?_
    refine XS.dup X36.here hx rfl (hb hby d37_207) rfl rfl ?_
    refine XS.bipush X36.here hx rfl (hb hby d37_208) ?_
    refine XS.iloadN X36.here hx rfl (hb hby d37_210) rfl ?_
    refine st37 _ ?_
    refine XS.dup X37.here hx rfl (hb hby d37_212) rfl rfl ?_
    refine XS.bipush X37.here hx rfl (hb hby d37_213) ?_
    refine XS.iloadN X37.here hx rfl (hb hby d37_215) rfl ?_
    refine st38 _ ?_
    refine XS.dup X38.here hx rfl (hb hby d37_217) rfl rfl ?_
    refine XS.bipush X38.here hx rfl (hb hby d37_218) ?_
    refine XS.bipush X38.here hx rfl (hb hby d37_220) ?_
    refine st39 _ ?_
    refine XS.dup X39.here hx rfl (hb hby d37_223) rfl rfl ?_
    refine XS.bipush X39.here hx rfl (hb hby d37_224) ?_
    refine XS.bipush X39.here hx rfl (hb hby d37_226) ?_
    refine st40 _ ?_
    show Steps _ _ _ (T40.setTop (mkF m 229 #[vI 1, vI 0, vI w0, vI w1, vI c0, vI c1] [(.ref b3), (.ref b1), (.ref b1)])) _
    refine st42.trans ?_
    jvm_step X42.here [X42.here.top, hx, (hb hby d37_232), X42.method', Bd.returns, Value.isRef, FieldType.isReference]
    first | (intro acts; rw [hr _ acts rfl rfl rfl]) | rw [hr _ _ rfl rfl rfl]
    exact Steps.refl _
  · show Qexpd10 Z w0 w1 c0 c1 cz h0 n0 _ T42.heap _
    exact ⟨b1, t_42, kt_42, rfl, N42, K42, sz1, r42_2, r42_3, r42_4, r42_5⟩
theorem own_l01 {w0 w1 c0 c1 : Int32} {i : Nat} (h : i < 35) : i < (own_xs own_nil [c0, c1]).length := h
theorem d37_4 : decode c37_ 4 = .ok (.iload_n 1, 1) := by decide +kernel
theorem d37_5 : decode c37_ 5 = .ok (.ifCond .ne 6, 3) := by decide +kernel
theorem d37_233 : decode c37_ 233 = .ok (.iload_n 0, 1) := by decide +kernel
theorem d37_234 : decode c37_ 234 = .ok (.ifCond .ne 223, 3) := by decide +kernel
theorem d37_237 : decode c37_ 237 = .ok (.iload_n 1, 1) := by decide +kernel
theorem d37_238 : decode c37_ 238 = .ok (.ifCond .eq 219, 3) := by decide +kernel
theorem d37_241 : decode c37_ 241 = .ok (.new 7, 3) := by decide +kernel
theorem d37_244 : decode c37_ 244 = .ok (.dup, 1) := by decide +kernel
theorem d37_245 : decode c37_ 245 = .ok (.bipush 35, 2) := by decide +kernel
theorem d37_247 : decode c37_ 247 = .ok (.newarray .char, 2) := by decide +kernel
theorem d37_249 : decode c37_ 249 = .ok (.dup, 1) := by decide +kernel
theorem d37_250 : decode c37_ 250 = .ok (.iconst 0, 1) := by decide +kernel
theorem d37_251 : decode c37_ 251 = .ok (.bipush 116, 2) := by decide +kernel
theorem d37_253 : decode c37_ 253 = .ok (.castore, 1) := by decide +kernel
theorem d37_254 : decode c37_ 254 = .ok (.dup, 1) := by decide +kernel
theorem d37_255 : decode c37_ 255 = .ok (.iconst 1, 1) := by decide +kernel
theorem d37_256 : decode c37_ 256 = .ok (.bipush 104, 2) := by decide +kernel
theorem d37_258 : decode c37_ 258 = .ok (.castore, 1) := by decide +kernel
theorem d37_259 : decode c37_ 259 = .ok (.dup, 1) := by decide +kernel
theorem d37_260 : decode c37_ 260 = .ok (.iconst 2, 1) := by decide +kernel
theorem d37_261 : decode c37_ 261 = .ok (.bipush 101, 2) := by decide +kernel
theorem d37_263 : decode c37_ 263 = .ok (.castore, 1) := by decide +kernel
theorem d37_264 : decode c37_ 264 = .ok (.dup, 1) := by decide +kernel
theorem d37_265 : decode c37_ 265 = .ok (.iconst 3, 1) := by decide +kernel
theorem d37_266 : decode c37_ 266 = .ok (.bipush 32, 2) := by decide +kernel
theorem d37_268 : decode c37_ 268 = .ok (.castore, 1) := by decide +kernel
theorem d37_269 : decode c37_ 269 = .ok (.dup, 1) := by decide +kernel
theorem d37_270 : decode c37_ 270 = .ok (.iconst 4, 1) := by decide +kernel
theorem d37_271 : decode c37_ 271 = .ok (.bipush 100, 2) := by decide +kernel
theorem d37_273 : decode c37_ 273 = .ok (.castore, 1) := by decide +kernel
theorem d37_274 : decode c37_ 274 = .ok (.dup, 1) := by decide +kernel
theorem d37_275 : decode c37_ 275 = .ok (.iconst 5, 1) := by decide +kernel
theorem d37_276 : decode c37_ 276 = .ok (.bipush 97, 2) := by decide +kernel
theorem d37_278 : decode c37_ 278 = .ok (.castore, 1) := by decide +kernel
theorem d37_279 : decode c37_ 279 = .ok (.dup, 1) := by decide +kernel
theorem d37_280 : decode c37_ 280 = .ok (.bipush 6, 2) := by decide +kernel
theorem d37_282 : decode c37_ 282 = .ok (.bipush 116, 2) := by decide +kernel
theorem d37_284 : decode c37_ 284 = .ok (.castore, 1) := by decide +kernel
theorem d37_285 : decode c37_ 285 = .ok (.dup, 1) := by decide +kernel
theorem d37_286 : decode c37_ 286 = .ok (.bipush 7, 2) := by decide +kernel
theorem d37_288 : decode c37_ 288 = .ok (.bipush 97, 2) := by decide +kernel
theorem d37_290 : decode c37_ 290 = .ok (.castore, 1) := by decide +kernel
theorem d37_291 : decode c37_ 291 = .ok (.dup, 1) := by decide +kernel
theorem d37_292 : decode c37_ 292 = .ok (.bipush 8, 2) := by decide +kernel
theorem d37_294 : decode c37_ 294 = .ok (.bipush 32, 2) := by decide +kernel
theorem d37_296 : decode c37_ 296 = .ok (.castore, 1) := by decide +kernel
theorem d37_297 : decode c37_ 297 = .ok (.dup, 1) := by decide +kernel
theorem d37_298 : decode c37_ 298 = .ok (.bipush 9, 2) := by decide +kernel
theorem d37_300 : decode c37_ 300 = .ok (.bipush 102, 2) := by decide +kernel
theorem d37_302 : decode c37_ 302 = .ok (.castore, 1) := by decide +kernel
theorem d37_303 : decode c37_ 303 = .ok (.dup, 1) := by decide +kernel
theorem d37_304 : decode c37_ 304 = .ok (.bipush 10, 2) := by decide +kernel
theorem d37_306 : decode c37_ 306 = .ok (.bipush 105, 2) := by decide +kernel
theorem d37_308 : decode c37_ 308 = .ok (.castore, 1) := by decide +kernel
theorem d37_309 : decode c37_ 309 = .ok (.dup, 1) := by decide +kernel
theorem d37_310 : decode c37_ 310 = .ok (.bipush 11, 2) := by decide +kernel
theorem d37_312 : decode c37_ 312 = .ok (.bipush 108, 2) := by decide +kernel
theorem d37_314 : decode c37_ 314 = .ok (.castore, 1) := by decide +kernel
theorem d37_315 : decode c37_ 315 = .ok (.dup, 1) := by decide +kernel
theorem d37_316 : decode c37_ 316 = .ok (.bipush 12, 2) := by decide +kernel
theorem d37_318 : decode c37_ 318 = .ok (.bipush 101, 2) := by decide +kernel
theorem d37_320 : decode c37_ 320 = .ok (.castore, 1) := by decide +kernel
theorem d37_321 : decode c37_ 321 = .ok (.dup, 1) := by decide +kernel
theorem d37_322 : decode c37_ 322 = .ok (.bipush 13, 2) := by decide +kernel
theorem d37_324 : decode c37_ 324 = .ok (.bipush 32, 2) := by decide +kernel
theorem d37_326 : decode c37_ 326 = .ok (.castore, 1) := by decide +kernel
theorem d37_327 : decode c37_ 327 = .ok (.dup, 1) := by decide +kernel
theorem d37_328 : decode c37_ 328 = .ok (.bipush 14, 2) := by decide +kernel
theorem d37_330 : decode c37_ 330 = .ok (.bipush 104, 2) := by decide +kernel
theorem d37_332 : decode c37_ 332 = .ok (.castore, 1) := by decide +kernel
theorem d37_333 : decode c37_ 333 = .ok (.dup, 1) := by decide +kernel
theorem d37_334 : decode c37_ 334 = .ok (.bipush 15, 2) := by decide +kernel
theorem d37_336 : decode c37_ 336 = .ok (.bipush 111, 2) := by decide +kernel
theorem d37_338 : decode c37_ 338 = .ok (.castore, 1) := by decide +kernel
theorem d37_339 : decode c37_ 339 = .ok (.dup, 1) := by decide +kernel
theorem d37_340 : decode c37_ 340 = .ok (.bipush 16, 2) := by decide +kernel
theorem d37_342 : decode c37_ 342 = .ok (.bipush 108, 2) := by decide +kernel
theorem d37_344 : decode c37_ 344 = .ok (.castore, 1) := by decide +kernel
theorem d37_345 : decode c37_ 345 = .ok (.dup, 1) := by decide +kernel
theorem d37_346 : decode c37_ 346 = .ok (.bipush 17, 2) := by decide +kernel
theorem d37_348 : decode c37_ 348 = .ok (.bipush 100, 2) := by decide +kernel
theorem d37_350 : decode c37_ 350 = .ok (.castore, 1) := by decide +kernel
theorem d37_351 : decode c37_ 351 = .ok (.dup, 1) := by decide +kernel
theorem d37_352 : decode c37_ 352 = .ok (.bipush 18, 2) := by decide +kernel
theorem d37_354 : decode c37_ 354 = .ok (.bipush 115, 2) := by decide +kernel
theorem d37_356 : decode c37_ 356 = .ok (.castore, 1) := by decide +kernel
theorem d37_357 : decode c37_ 357 = .ok (.dup, 1) := by decide +kernel
theorem d37_358 : decode c37_ 358 = .ok (.bipush 19, 2) := by decide +kernel
theorem d37_360 : decode c37_ 360 = .ok (.bipush 32, 2) := by decide +kernel
theorem d37_362 : decode c37_ 362 = .ok (.castore, 1) := by decide +kernel
theorem d37_363 : decode c37_ 363 = .ok (.dup, 1) := by decide +kernel
theorem d37_364 : decode c37_ 364 = .ok (.bipush 20, 2) := by decide +kernel
theorem d37_366 : decode c37_ 366 = .ok (.bipush 97, 2) := by decide +kernel
theorem d37_368 : decode c37_ 368 = .ok (.castore, 1) := by decide +kernel
theorem d37_369 : decode c37_ 369 = .ok (.dup, 1) := by decide +kernel
theorem d37_370 : decode c37_ 370 = .ok (.bipush 21, 2) := by decide +kernel
theorem d37_372 : decode c37_ 372 = .ok (.bipush 110, 2) := by decide +kernel
theorem d37_374 : decode c37_ 374 = .ok (.castore, 1) := by decide +kernel
theorem d37_375 : decode c37_ 375 = .ok (.dup, 1) := by decide +kernel
theorem d37_376 : decode c37_ 376 = .ok (.bipush 22, 2) := by decide +kernel
theorem d37_378 : decode c37_ 378 = .ok (.bipush 32, 2) := by decide +kernel
theorem d37_380 : decode c37_ 380 = .ok (.castore, 1) := by decide +kernel
theorem d37_381 : decode c37_ 381 = .ok (.dup, 1) := by decide +kernel
theorem d37_382 : decode c37_ 382 = .ok (.bipush 23, 2) := by decide +kernel
theorem d37_384 : decode c37_ 384 = .ok (.bipush 117, 2) := by decide +kernel
theorem d37_386 : decode c37_ 386 = .ok (.castore, 1) := by decide +kernel
theorem d37_387 : decode c37_ 387 = .ok (.dup, 1) := by decide +kernel
theorem d37_388 : decode c37_ 388 = .ok (.bipush 24, 2) := by decide +kernel
theorem d37_390 : decode c37_ 390 = .ok (.bipush 110, 2) := by decide +kernel
theorem d37_392 : decode c37_ 392 = .ok (.castore, 1) := by decide +kernel
theorem d37_393 : decode c37_ 393 = .ok (.dup, 1) := by decide +kernel
theorem d37_394 : decode c37_ 394 = .ok (.bipush 25, 2) := by decide +kernel
theorem d37_396 : decode c37_ 396 = .ok (.bipush 107, 2) := by decide +kernel
theorem d37_398 : decode c37_ 398 = .ok (.castore, 1) := by decide +kernel
theorem d37_399 : decode c37_ 399 = .ok (.dup, 1) := by decide +kernel
theorem d37_400 : decode c37_ 400 = .ok (.bipush 26, 2) := by decide +kernel
theorem d37_402 : decode c37_ 402 = .ok (.bipush 110, 2) := by decide +kernel
theorem d37_404 : decode c37_ 404 = .ok (.castore, 1) := by decide +kernel
theorem d37_405 : decode c37_ 405 = .ok (.dup, 1) := by decide +kernel
theorem d37_406 : decode c37_ 406 = .ok (.bipush 27, 2) := by decide +kernel
theorem d37_408 : decode c37_ 408 = .ok (.bipush 111, 2) := by decide +kernel
theorem d37_410 : decode c37_ 410 = .ok (.castore, 1) := by decide +kernel
theorem d37_411 : decode c37_ 411 = .ok (.dup, 1) := by decide +kernel
theorem d37_412 : decode c37_ 412 = .ok (.bipush 28, 2) := by decide +kernel
theorem d37_414 : decode c37_ 414 = .ok (.bipush 119, 2) := by decide +kernel
theorem d37_416 : decode c37_ 416 = .ok (.castore, 1) := by decide +kernel
theorem d37_417 : decode c37_ 417 = .ok (.dup, 1) := by decide +kernel
theorem d37_418 : decode c37_ 418 = .ok (.bipush 29, 2) := by decide +kernel
theorem d37_420 : decode c37_ 420 = .ok (.bipush 110, 2) := by decide +kernel
theorem d37_422 : decode c37_ 422 = .ok (.castore, 1) := by decide +kernel
theorem d37_423 : decode c37_ 423 = .ok (.dup, 1) := by decide +kernel
theorem d37_424 : decode c37_ 424 = .ok (.bipush 30, 2) := by decide +kernel
theorem d37_426 : decode c37_ 426 = .ok (.bipush 32, 2) := by decide +kernel
theorem d37_428 : decode c37_ 428 = .ok (.castore, 1) := by decide +kernel
theorem d37_429 : decode c37_ 429 = .ok (.dup, 1) := by decide +kernel
theorem d37_430 : decode c37_ 430 = .ok (.bipush 31, 2) := by decide +kernel
theorem d37_432 : decode c37_ 432 = .ok (.bipush 58, 2) := by decide +kernel
theorem d37_434 : decode c37_ 434 = .ok (.castore, 1) := by decide +kernel
theorem d37_435 : decode c37_ 435 = .ok (.dup, 1) := by decide +kernel
theorem d37_436 : decode c37_ 436 = .ok (.bipush 32, 2) := by decide +kernel
theorem d37_438 : decode c37_ 438 = .ok (.bipush 32, 2) := by decide +kernel
theorem d37_440 : decode c37_ 440 = .ok (.castore, 1) := by decide +kernel
theorem d37_441 : decode c37_ 441 = .ok (.dup, 1) := by decide +kernel
theorem d37_442 : decode c37_ 442 = .ok (.bipush 33, 2) := by decide +kernel
theorem d37_444 : decode c37_ 444 = .ok (.iload 4, 2) := by decide +kernel
theorem d37_446 : decode c37_ 446 = .ok (.castore, 1) := by decide +kernel
theorem d37_447 : decode c37_ 447 = .ok (.dup, 1) := by decide +kernel
theorem d37_448 : decode c37_ 448 = .ok (.bipush 34, 2) := by decide +kernel
theorem d37_450 : decode c37_ 450 = .ok (.iload 5, 2) := by decide +kernel
theorem d37_452 : decode c37_ 452 = .ok (.castore, 1) := by decide +kernel
theorem d37_453 : decode c37_ 453 = .ok (.invokespecial 9, 3) := by decide +kernel
theorem d37_456 : decode c37_ 456 = .ok (.areturn, 1) := by decide +kernel
theorem ef_expd01 (m : MethodId) (x0 : Int32) (x1 : Int32) (x2 : Int32) (x3 : Int32) (x4 : Int32) (x5 : Int32) : entryFrame m #[(.int x0), (.int x1), (.int x2), (.int x3), (.int x4), (.int x5)] 6 = mkF m 0 #[vI x0, vI x1, vI x2, vI x3, vI x4, vI x5] [] := by first | (simp [entryFrame, mkF, argsToLocals, Value.category]; done) | rfl
def Qexpd01 (Z : State) (w0 : Int32) (w1 : Int32) (c0 : Int32) (c1 : Int32) (cz : Int32) (h0 : Heap) (n0 : Nat) (v : Option Value) (h : Heap) (L : List Loc) : Prop := ∃ (r : Addr), ∃ (t : Addr), ∃ (kt : ClassId), v = some (.ref r) ∧ Fr n0 L ∧ Keep h0 h [] ∧ h0.size ≤ r ∧ Exa Z h r "java/lang/String" ∧ Fld Z h r "java/lang/String" "value" "[B" (.ref t) ∧ Fld Z h r "java/lang/String" "coder" "B" (.int (own_i (own_cd (own_xs own_nil [c0, c1])))) ∧ Arv Z h t kt .byte (own_i (own_wd (own_cd (own_xs own_nil [c0, c1])) (own_xs own_nil [c0, c1]).length)) ((own_enc (own_cd (own_xs own_nil [c0, c1])) (own_xs own_nil [c0, c1])).map Value.int) (.int 0)
set_option maxRecDepth 65536 in
set_option maxHeartbeats 40000000 in
theorem rmexpd01 (l : Launch) (Z : State) (a0 : Array Value) (hw : ∀ d ∈ tables_1, d.before a0 Z = true) (ws : List Jvm.Cond) (w0 : Int32) (w1 : Int32) (c0 : Int32) (c1 : Int32) (cz : Int32) (h0 : Heap) (n0 : Nat) (O0 : Old Z n0 h0) (hp0 : Sta Z Z.heap "java/lang/StringUTF16" "$assertionsDisabled" "Z" (.int 1)) (hp1 : Sta Z Z.heap "java/lang/StringUTF16" "HI_BYTE_SHIFT" "I" (.int 0)) (hp2 : Sta Z Z.heap "java/lang/StringUTF16" "LO_BYTE_SHIFT" "I" (.int 8)) (hp3 : Sta Z Z.heap "java/lang/String" "COMPACT_STRINGS" "Z" (.int cz)) (hcz : (¬ (cz = (0 : Int32)))) (r_w0 : (¬ w0 < (0 : Int32) ∧ ¬ (65535 : Int32) < w0)) (r_w1 : (¬ w1 < (0 : Int32) ∧ ¬ (65535 : Int32) < w1)) (r_c0 : (¬ c0 < (0 : Int32) ∧ ¬ (65535 : Int32) < c0)) (r_c1 : (¬ c1 < (0 : Int32) ∧ ¬ (65535 : Int32) < c1)) :
    MetFree l mN53 (head1 (Jvm.Cond.code mN53 method_3_code 6 (some (.object "java/lang/String")) :: ws) ({ frames := 6, cells := 4, slots := 239, locals := 88 } : Room)) (fun as_ U => as_ = #[(.int 0), (.int 1), (.int w0), (.int w1), (.int c0), (.int c1)] ∧ Z.Warmed39 U.vm ∧ U.heap = h0) (fun _ _ _ _ _ => True) (fun _ U o U' => ∃ v L, o = .returned v ∧ Qexpd01 Z w0 w1 c0 c1 cz h0 n0 v U'.heap L ∧ FrameEnd U o U' L ({ frames := 6, cells := 4, slots := 239, locals := 88 } : Room).cells ({ frames := 6, cells := 4, slots := 239, locals := 88 } : Room).slots) := by
  refine MetFree.of_bodySF (plainFor_of_name pn_com_example_levy_levy_store_StoreExceptionUnknownPinLaw) hisR ?_
  intro p e s m args below meth c s₁ Bd hml0 hP hK
  obtain ⟨rfl, hZ, hh⟩ := hP
  have hx := Bd.exec
  have hby := Bd.bytes
  have hml : c.maxLocals = 6 := hml0
  have hown : s.vm.findClass "com/example/levy/levy/store/StoreExceptionUnknownPinLaw" = some m.cls := findClass_of_methodNamed Bd.named
  have hnm := (name_of_methodNamed Bd.named Bd.method).1
  have X0 : Stand p l e ({ frames := 6, cells := 4, slots := 239, locals := 88 } : Room) s m #[(.int 0), (.int 1), (.int w0), (.int w1), (.int c0), (.int c1)] below meth c s₁ [] 0 0 := Stand.of_body Bd
  have e0 : s₁.heap = h0 := by rw [← hh, Bd.state]; rfl
  have N0 := Fr.nil n0
  have Z0 := own_z0 O0
  have pre0 : ∀ tg_, Steps p.tables e below (s₁.setTop (mkF m 0 #[vI 0, vI 1, vI w0, vI w1, vI c0, vI c1] [])) tg_ → Steps p.tables e below (s₁.setTop (entryFrame m #[(.int 0), (.int 1), (.int w0), (.int w1), (.int c0), (.int c1)] 6)) tg_ := fun tg_ kt_ => castTop (ef_expd01 m (0 : Int32) (1 : Int32) w0 w1 c0 c1) kt_
  obtain ⟨T1, h1, X1, e1, E1, A1, D1, U1, st1⟩ := newO X0 hx hZ hown (hw _ w_0) (hw _ w_1) (hw _ w_2) e0 (g := (mkF m 241 #[vI 0, vI 1, vI w0, vI w1, vI c0, vI c1] [])) rfl (hb hby d37_241) (by decide) (by decide)
  obtain ⟨b1, g1⟩ : ∃ z, z = h0.size := ⟨_, rfl⟩
  rw [← g1] at A1 D1 U1 st1
  have Un1 : Unt h1 b1 := U1
  have sz1 : h0.size ≤ b1 := Nat.le_trans (Keep.refl h0 []).1 (Nat.le_of_eq g1.symm)
  have gn1 : n0 ≤ b1 := Nat.le_trans Z0 sz1
  have O1 : Old Z n0 h1 := O0.ext E1
  have K1 : Keep h0 h1 [] := (Keep.refl h0 []).ext E1
  have F1_16 : Fld Z h1 b1 "java/lang/String" "value" "[B" .null := D1 (Or.inr (hw _ w_16)) (ty := (.array .byte)) (by decide)
  have F1_17 : Fld Z h1 b1 "java/lang/String" "coder" "B" (.int 0) := D1 (Or.inr (hw _ w_17)) (ty := .byte) (by decide)
  obtain ⟨T3, h3, k3, X3, e3, E3, A3, st3⟩ := newP X1 hx hZ (hw (Jvm.Cond.arrayClass (newarray.typeOf .char)) w_3) e1 (g := (mkF m 247 #[vI 0, vI 1, vI w0, vI w1, vI c0, vI c1] [(.int 35), (.ref b1), (.ref b1)])) rfl (hb hby d37_247) rfl (by decide) (cap := 35) (by decide) (by decide) (by decide) (by decide)
  obtain ⟨b3, g3⟩ : ∃ z, z = h1.size := ⟨_, rfl⟩
  rw [← g3] at A3 st3
  have sz3 : h0.size ≤ b3 := Nat.le_trans K1.1 (Nat.le_of_eq g3.symm)
  have gn3 : n0 ≤ b3 := Nat.le_trans Z0 sz3
  have O3 : Old Z n0 h3 := O1.ext E3
  have K3 : Keep h0 h3 [] := K1.ext E3
  have V3 : Arv Z h3 b3 k3 .char (35 : Int32) [(.int 0), (.int 0), (.int 0), (.int 0), (.int 0), (.int 0), (.int 0), (.int 0), (.int 0), (.int 0), (.int 0), (.int 0), (.int 0), (.int 0), (.int 0), (.int 0), (.int 0), (.int 0), (.int 0), (.int 0), (.int 0), (.int 0), (.int 0), (.int 0), (.int 0), (.int 0), (.int 0), (.int 0), (.int 0), (.int 0), (.int 0), (.int 0), (.int 0), (.int 0), (.int 0)] (.int 0) := (Arv.new A3 (by decide)).pad (pad_rep [] (.int 0) 35)
  have Vr5 : Arv Z h3 b3 k3 .char (35 : Int32) (((own_xs own_nil [c0, c1]).take 0).map Value.int) (.int 0) := by
    have q := V3
    exact q.pad (fun i => (pad_rep [] _ 35 i).symm)
  obtain ⟨T6, h6, L6, X6, e6, W6, N6, O6, K6, V6, st6⟩ := own_stx (i := 0) X3 hx hZ e3 Vr5 N0 O3 K3 sz3 Z0 rfl ⟨by decide, by decide⟩ (own_l01 (w0 := w0) (w1 := w1) (c0 := c0) (c1 := c1) (by decide)) (by decide : nar .char (116 : Int32) = (116 : Int32)) (g := (mkF m 253 #[vI 0, vI 1, vI w0, vI w1, vI c0, vI c1] [(.int 116), (.int 0), (.ref b3), (.ref b3), (.ref b1), (.ref b1)])) rfl rfl (hb hby d37_253)
  obtain ⟨T7, h7, L7, X7, e7, W7, N7, O7, K7, V7, st7⟩ := own_stx (i := 1) X6 hx hZ e6 V6 N6 O6 K6 sz3 Z0 rfl ⟨by decide, by decide⟩ (own_l01 (w0 := w0) (w1 := w1) (c0 := c0) (c1 := c1) (by decide)) (by decide : nar .char (104 : Int32) = (104 : Int32)) (g := (mkF m 258 #[vI 0, vI 1, vI w0, vI w1, vI c0, vI c1] [(.int 104), (.int 1), (.ref b3), (.ref b3), (.ref b1), (.ref b1)])) rfl rfl (hb hby d37_258)
  obtain ⟨T8, h8, L8, X8, e8, W8, N8, O8, K8, V8, st8⟩ := own_stx (i := 2) X7 hx hZ e7 V7 N7 O7 K7 sz3 Z0 rfl ⟨by decide, by decide⟩ (own_l01 (w0 := w0) (w1 := w1) (c0 := c0) (c1 := c1) (by decide)) (by decide : nar .char (101 : Int32) = (101 : Int32)) (g := (mkF m 263 #[vI 0, vI 1, vI w0, vI w1, vI c0, vI c1] [(.int 101), (.int 2), (.ref b3), (.ref b3), (.ref b1), (.ref b1)])) rfl rfl (hb hby d37_263)
  obtain ⟨T9, h9, L9, X9, e9, W9, N9, O9, K9, V9, st9⟩ := own_stx (i := 3) X8 hx hZ e8 V8 N8 O8 K8 sz3 Z0 rfl ⟨by decide, by decide⟩ (own_l01 (w0 := w0) (w1 := w1) (c0 := c0) (c1 := c1) (by decide)) (by decide : nar .char (32 : Int32) = (32 : Int32)) (g := (mkF m 268 #[vI 0, vI 1, vI w0, vI w1, vI c0, vI c1] [(.int 32), (.int 3), (.ref b3), (.ref b3), (.ref b1), (.ref b1)])) rfl rfl (hb hby d37_268)
  obtain ⟨T10, h10, L10, X10, e10, W10, N10, O10, K10, V10, st10⟩ := own_stx (i := 4) X9 hx hZ e9 V9 N9 O9 K9 sz3 Z0 rfl ⟨by decide, by decide⟩ (own_l01 (w0 := w0) (w1 := w1) (c0 := c0) (c1 := c1) (by decide)) (by decide : nar .char (100 : Int32) = (100 : Int32)) (g := (mkF m 273 #[vI 0, vI 1, vI w0, vI w1, vI c0, vI c1] [(.int 100), (.int 4), (.ref b3), (.ref b3), (.ref b1), (.ref b1)])) rfl rfl (hb hby d37_273)
  obtain ⟨T11, h11, L11, X11, e11, W11, N11, O11, K11, V11, st11⟩ := own_stx (i := 5) X10 hx hZ e10 V10 N10 O10 K10 sz3 Z0 rfl ⟨by decide, by decide⟩ (own_l01 (w0 := w0) (w1 := w1) (c0 := c0) (c1 := c1) (by decide)) (by decide : nar .char (97 : Int32) = (97 : Int32)) (g := (mkF m 278 #[vI 0, vI 1, vI w0, vI w1, vI c0, vI c1] [(.int 97), (.int 5), (.ref b3), (.ref b3), (.ref b1), (.ref b1)])) rfl rfl (hb hby d37_278)
  obtain ⟨T12, h12, L12, X12, e12, W12, N12, O12, K12, V12, st12⟩ := own_stx (i := 6) X11 hx hZ e11 V11 N11 O11 K11 sz3 Z0 rfl ⟨by decide, by decide⟩ (own_l01 (w0 := w0) (w1 := w1) (c0 := c0) (c1 := c1) (by decide)) (by decide : nar .char (116 : Int32) = (116 : Int32)) (g := (mkF m 284 #[vI 0, vI 1, vI w0, vI w1, vI c0, vI c1] [(.int 116), (.int 6), (.ref b3), (.ref b3), (.ref b1), (.ref b1)])) rfl rfl (hb hby d37_284)
  obtain ⟨T13, h13, L13, X13, e13, W13, N13, O13, K13, V13, st13⟩ := own_stx (i := 7) X12 hx hZ e12 V12 N12 O12 K12 sz3 Z0 rfl ⟨by decide, by decide⟩ (own_l01 (w0 := w0) (w1 := w1) (c0 := c0) (c1 := c1) (by decide)) (by decide : nar .char (97 : Int32) = (97 : Int32)) (g := (mkF m 290 #[vI 0, vI 1, vI w0, vI w1, vI c0, vI c1] [(.int 97), (.int 7), (.ref b3), (.ref b3), (.ref b1), (.ref b1)])) rfl rfl (hb hby d37_290)
  obtain ⟨T14, h14, L14, X14, e14, W14, N14, O14, K14, V14, st14⟩ := own_stx (i := 8) X13 hx hZ e13 V13 N13 O13 K13 sz3 Z0 rfl ⟨by decide, by decide⟩ (own_l01 (w0 := w0) (w1 := w1) (c0 := c0) (c1 := c1) (by decide)) (by decide : nar .char (32 : Int32) = (32 : Int32)) (g := (mkF m 296 #[vI 0, vI 1, vI w0, vI w1, vI c0, vI c1] [(.int 32), (.int 8), (.ref b3), (.ref b3), (.ref b1), (.ref b1)])) rfl rfl (hb hby d37_296)
  obtain ⟨T15, h15, L15, X15, e15, W15, N15, O15, K15, V15, st15⟩ := own_stx (i := 9) X14 hx hZ e14 V14 N14 O14 K14 sz3 Z0 rfl ⟨by decide, by decide⟩ (own_l01 (w0 := w0) (w1 := w1) (c0 := c0) (c1 := c1) (by decide)) (by decide : nar .char (102 : Int32) = (102 : Int32)) (g := (mkF m 302 #[vI 0, vI 1, vI w0, vI w1, vI c0, vI c1] [(.int 102), (.int 9), (.ref b3), (.ref b3), (.ref b1), (.ref b1)])) rfl rfl (hb hby d37_302)
  obtain ⟨T16, h16, L16, X16, e16, W16, N16, O16, K16, V16, st16⟩ := own_stx (i := 10) X15 hx hZ e15 V15 N15 O15 K15 sz3 Z0 rfl ⟨by decide, by decide⟩ (own_l01 (w0 := w0) (w1 := w1) (c0 := c0) (c1 := c1) (by decide)) (by decide : nar .char (105 : Int32) = (105 : Int32)) (g := (mkF m 308 #[vI 0, vI 1, vI w0, vI w1, vI c0, vI c1] [(.int 105), (.int 10), (.ref b3), (.ref b3), (.ref b1), (.ref b1)])) rfl rfl (hb hby d37_308)
  obtain ⟨T17, h17, L17, X17, e17, W17, N17, O17, K17, V17, st17⟩ := own_stx (i := 11) X16 hx hZ e16 V16 N16 O16 K16 sz3 Z0 rfl ⟨by decide, by decide⟩ (own_l01 (w0 := w0) (w1 := w1) (c0 := c0) (c1 := c1) (by decide)) (by decide : nar .char (108 : Int32) = (108 : Int32)) (g := (mkF m 314 #[vI 0, vI 1, vI w0, vI w1, vI c0, vI c1] [(.int 108), (.int 11), (.ref b3), (.ref b3), (.ref b1), (.ref b1)])) rfl rfl (hb hby d37_314)
  obtain ⟨T18, h18, L18, X18, e18, W18, N18, O18, K18, V18, st18⟩ := own_stx (i := 12) X17 hx hZ e17 V17 N17 O17 K17 sz3 Z0 rfl ⟨by decide, by decide⟩ (own_l01 (w0 := w0) (w1 := w1) (c0 := c0) (c1 := c1) (by decide)) (by decide : nar .char (101 : Int32) = (101 : Int32)) (g := (mkF m 320 #[vI 0, vI 1, vI w0, vI w1, vI c0, vI c1] [(.int 101), (.int 12), (.ref b3), (.ref b3), (.ref b1), (.ref b1)])) rfl rfl (hb hby d37_320)
  obtain ⟨T19, h19, L19, X19, e19, W19, N19, O19, K19, V19, st19⟩ := own_stx (i := 13) X18 hx hZ e18 V18 N18 O18 K18 sz3 Z0 rfl ⟨by decide, by decide⟩ (own_l01 (w0 := w0) (w1 := w1) (c0 := c0) (c1 := c1) (by decide)) (by decide : nar .char (32 : Int32) = (32 : Int32)) (g := (mkF m 326 #[vI 0, vI 1, vI w0, vI w1, vI c0, vI c1] [(.int 32), (.int 13), (.ref b3), (.ref b3), (.ref b1), (.ref b1)])) rfl rfl (hb hby d37_326)
  obtain ⟨T20, h20, L20, X20, e20, W20, N20, O20, K20, V20, st20⟩ := own_stx (i := 14) X19 hx hZ e19 V19 N19 O19 K19 sz3 Z0 rfl ⟨by decide, by decide⟩ (own_l01 (w0 := w0) (w1 := w1) (c0 := c0) (c1 := c1) (by decide)) (by decide : nar .char (104 : Int32) = (104 : Int32)) (g := (mkF m 332 #[vI 0, vI 1, vI w0, vI w1, vI c0, vI c1] [(.int 104), (.int 14), (.ref b3), (.ref b3), (.ref b1), (.ref b1)])) rfl rfl (hb hby d37_332)
  obtain ⟨T21, h21, L21, X21, e21, W21, N21, O21, K21, V21, st21⟩ := own_stx (i := 15) X20 hx hZ e20 V20 N20 O20 K20 sz3 Z0 rfl ⟨by decide, by decide⟩ (own_l01 (w0 := w0) (w1 := w1) (c0 := c0) (c1 := c1) (by decide)) (by decide : nar .char (111 : Int32) = (111 : Int32)) (g := (mkF m 338 #[vI 0, vI 1, vI w0, vI w1, vI c0, vI c1] [(.int 111), (.int 15), (.ref b3), (.ref b3), (.ref b1), (.ref b1)])) rfl rfl (hb hby d37_338)
  obtain ⟨T22, h22, L22, X22, e22, W22, N22, O22, K22, V22, st22⟩ := own_stx (i := 16) X21 hx hZ e21 V21 N21 O21 K21 sz3 Z0 rfl ⟨by decide, by decide⟩ (own_l01 (w0 := w0) (w1 := w1) (c0 := c0) (c1 := c1) (by decide)) (by decide : nar .char (108 : Int32) = (108 : Int32)) (g := (mkF m 344 #[vI 0, vI 1, vI w0, vI w1, vI c0, vI c1] [(.int 108), (.int 16), (.ref b3), (.ref b3), (.ref b1), (.ref b1)])) rfl rfl (hb hby d37_344)
  obtain ⟨T23, h23, L23, X23, e23, W23, N23, O23, K23, V23, st23⟩ := own_stx (i := 17) X22 hx hZ e22 V22 N22 O22 K22 sz3 Z0 rfl ⟨by decide, by decide⟩ (own_l01 (w0 := w0) (w1 := w1) (c0 := c0) (c1 := c1) (by decide)) (by decide : nar .char (100 : Int32) = (100 : Int32)) (g := (mkF m 350 #[vI 0, vI 1, vI w0, vI w1, vI c0, vI c1] [(.int 100), (.int 17), (.ref b3), (.ref b3), (.ref b1), (.ref b1)])) rfl rfl (hb hby d37_350)
  obtain ⟨T24, h24, L24, X24, e24, W24, N24, O24, K24, V24, st24⟩ := own_stx (i := 18) X23 hx hZ e23 V23 N23 O23 K23 sz3 Z0 rfl ⟨by decide, by decide⟩ (own_l01 (w0 := w0) (w1 := w1) (c0 := c0) (c1 := c1) (by decide)) (by decide : nar .char (115 : Int32) = (115 : Int32)) (g := (mkF m 356 #[vI 0, vI 1, vI w0, vI w1, vI c0, vI c1] [(.int 115), (.int 18), (.ref b3), (.ref b3), (.ref b1), (.ref b1)])) rfl rfl (hb hby d37_356)
  obtain ⟨T25, h25, L25, X25, e25, W25, N25, O25, K25, V25, st25⟩ := own_stx (i := 19) X24 hx hZ e24 V24 N24 O24 K24 sz3 Z0 rfl ⟨by decide, by decide⟩ (own_l01 (w0 := w0) (w1 := w1) (c0 := c0) (c1 := c1) (by decide)) (by decide : nar .char (32 : Int32) = (32 : Int32)) (g := (mkF m 362 #[vI 0, vI 1, vI w0, vI w1, vI c0, vI c1] [(.int 32), (.int 19), (.ref b3), (.ref b3), (.ref b1), (.ref b1)])) rfl rfl (hb hby d37_362)
  obtain ⟨T26, h26, L26, X26, e26, W26, N26, O26, K26, V26, st26⟩ := own_stx (i := 20) X25 hx hZ e25 V25 N25 O25 K25 sz3 Z0 rfl ⟨by decide, by decide⟩ (own_l01 (w0 := w0) (w1 := w1) (c0 := c0) (c1 := c1) (by decide)) (by decide : nar .char (97 : Int32) = (97 : Int32)) (g := (mkF m 368 #[vI 0, vI 1, vI w0, vI w1, vI c0, vI c1] [(.int 97), (.int 20), (.ref b3), (.ref b3), (.ref b1), (.ref b1)])) rfl rfl (hb hby d37_368)
  obtain ⟨T27, h27, L27, X27, e27, W27, N27, O27, K27, V27, st27⟩ := own_stx (i := 21) X26 hx hZ e26 V26 N26 O26 K26 sz3 Z0 rfl ⟨by decide, by decide⟩ (own_l01 (w0 := w0) (w1 := w1) (c0 := c0) (c1 := c1) (by decide)) (by decide : nar .char (110 : Int32) = (110 : Int32)) (g := (mkF m 374 #[vI 0, vI 1, vI w0, vI w1, vI c0, vI c1] [(.int 110), (.int 21), (.ref b3), (.ref b3), (.ref b1), (.ref b1)])) rfl rfl (hb hby d37_374)
  obtain ⟨T28, h28, L28, X28, e28, W28, N28, O28, K28, V28, st28⟩ := own_stx (i := 22) X27 hx hZ e27 V27 N27 O27 K27 sz3 Z0 rfl ⟨by decide, by decide⟩ (own_l01 (w0 := w0) (w1 := w1) (c0 := c0) (c1 := c1) (by decide)) (by decide : nar .char (32 : Int32) = (32 : Int32)) (g := (mkF m 380 #[vI 0, vI 1, vI w0, vI w1, vI c0, vI c1] [(.int 32), (.int 22), (.ref b3), (.ref b3), (.ref b1), (.ref b1)])) rfl rfl (hb hby d37_380)
  obtain ⟨T29, h29, L29, X29, e29, W29, N29, O29, K29, V29, st29⟩ := own_stx (i := 23) X28 hx hZ e28 V28 N28 O28 K28 sz3 Z0 rfl ⟨by decide, by decide⟩ (own_l01 (w0 := w0) (w1 := w1) (c0 := c0) (c1 := c1) (by decide)) (by decide : nar .char (117 : Int32) = (117 : Int32)) (g := (mkF m 386 #[vI 0, vI 1, vI w0, vI w1, vI c0, vI c1] [(.int 117), (.int 23), (.ref b3), (.ref b3), (.ref b1), (.ref b1)])) rfl rfl (hb hby d37_386)
  obtain ⟨T30, h30, L30, X30, e30, W30, N30, O30, K30, V30, st30⟩ := own_stx (i := 24) X29 hx hZ e29 V29 N29 O29 K29 sz3 Z0 rfl ⟨by decide, by decide⟩ (own_l01 (w0 := w0) (w1 := w1) (c0 := c0) (c1 := c1) (by decide)) (by decide : nar .char (110 : Int32) = (110 : Int32)) (g := (mkF m 392 #[vI 0, vI 1, vI w0, vI w1, vI c0, vI c1] [(.int 110), (.int 24), (.ref b3), (.ref b3), (.ref b1), (.ref b1)])) rfl rfl (hb hby d37_392)
  obtain ⟨T31, h31, L31, X31, e31, W31, N31, O31, K31, V31, st31⟩ := own_stx (i := 25) X30 hx hZ e30 V30 N30 O30 K30 sz3 Z0 rfl ⟨by decide, by decide⟩ (own_l01 (w0 := w0) (w1 := w1) (c0 := c0) (c1 := c1) (by decide)) (by decide : nar .char (107 : Int32) = (107 : Int32)) (g := (mkF m 398 #[vI 0, vI 1, vI w0, vI w1, vI c0, vI c1] [(.int 107), (.int 25), (.ref b3), (.ref b3), (.ref b1), (.ref b1)])) rfl rfl (hb hby d37_398)
  obtain ⟨T32, h32, L32, X32, e32, W32, N32, O32, K32, V32, st32⟩ := own_stx (i := 26) X31 hx hZ e31 V31 N31 O31 K31 sz3 Z0 rfl ⟨by decide, by decide⟩ (own_l01 (w0 := w0) (w1 := w1) (c0 := c0) (c1 := c1) (by decide)) (by decide : nar .char (110 : Int32) = (110 : Int32)) (g := (mkF m 404 #[vI 0, vI 1, vI w0, vI w1, vI c0, vI c1] [(.int 110), (.int 26), (.ref b3), (.ref b3), (.ref b1), (.ref b1)])) rfl rfl (hb hby d37_404)
  obtain ⟨T33, h33, L33, X33, e33, W33, N33, O33, K33, V33, st33⟩ := own_stx (i := 27) X32 hx hZ e32 V32 N32 O32 K32 sz3 Z0 rfl ⟨by decide, by decide⟩ (own_l01 (w0 := w0) (w1 := w1) (c0 := c0) (c1 := c1) (by decide)) (by decide : nar .char (111 : Int32) = (111 : Int32)) (g := (mkF m 410 #[vI 0, vI 1, vI w0, vI w1, vI c0, vI c1] [(.int 111), (.int 27), (.ref b3), (.ref b3), (.ref b1), (.ref b1)])) rfl rfl (hb hby d37_410)
  obtain ⟨T34, h34, L34, X34, e34, W34, N34, O34, K34, V34, st34⟩ := own_stx (i := 28) X33 hx hZ e33 V33 N33 O33 K33 sz3 Z0 rfl ⟨by decide, by decide⟩ (own_l01 (w0 := w0) (w1 := w1) (c0 := c0) (c1 := c1) (by decide)) (by decide : nar .char (119 : Int32) = (119 : Int32)) (g := (mkF m 416 #[vI 0, vI 1, vI w0, vI w1, vI c0, vI c1] [(.int 119), (.int 28), (.ref b3), (.ref b3), (.ref b1), (.ref b1)])) rfl rfl (hb hby d37_416)
  obtain ⟨T35, h35, L35, X35, e35, W35, N35, O35, K35, V35, st35⟩ := own_stx (i := 29) X34 hx hZ e34 V34 N34 O34 K34 sz3 Z0 rfl ⟨by decide, by decide⟩ (own_l01 (w0 := w0) (w1 := w1) (c0 := c0) (c1 := c1) (by decide)) (by decide : nar .char (110 : Int32) = (110 : Int32)) (g := (mkF m 422 #[vI 0, vI 1, vI w0, vI w1, vI c0, vI c1] [(.int 110), (.int 29), (.ref b3), (.ref b3), (.ref b1), (.ref b1)])) rfl rfl (hb hby d37_422)
  obtain ⟨T36, h36, L36, X36, e36, W36, N36, O36, K36, V36, st36⟩ := own_stx (i := 30) X35 hx hZ e35 V35 N35 O35 K35 sz3 Z0 rfl ⟨by decide, by decide⟩ (own_l01 (w0 := w0) (w1 := w1) (c0 := c0) (c1 := c1) (by decide)) (by decide : nar .char (32 : Int32) = (32 : Int32)) (g := (mkF m 428 #[vI 0, vI 1, vI w0, vI w1, vI c0, vI c1] [(.int 32), (.int 30), (.ref b3), (.ref b3), (.ref b1), (.ref b1)])) rfl rfl (hb hby d37_428)
  obtain ⟨T37, h37, L37, X37, e37, W37, N37, O37, K37, V37, st37⟩ := own_stx (i := 31) X36 hx hZ e36 V36 N36 O36 K36 sz3 Z0 rfl ⟨by decide, by decide⟩ (own_l01 (w0 := w0) (w1 := w1) (c0 := c0) (c1 := c1) (by decide)) (by decide : nar .char (58 : Int32) = (58 : Int32)) (g := (mkF m 434 #[vI 0, vI 1, vI w0, vI w1, vI c0, vI c1] [(.int 58), (.int 31), (.ref b3), (.ref b3), (.ref b1), (.ref b1)])) rfl rfl (hb hby d37_434)
  obtain ⟨T38, h38, L38, X38, e38, W38, N38, O38, K38, V38, st38⟩ := own_stx (i := 32) X37 hx hZ e37 V37 N37 O37 K37 sz3 Z0 rfl ⟨by decide, by decide⟩ (own_l01 (w0 := w0) (w1 := w1) (c0 := c0) (c1 := c1) (by decide)) (by decide : nar .char (32 : Int32) = (32 : Int32)) (g := (mkF m 440 #[vI 0, vI 1, vI w0, vI w1, vI c0, vI c1] [(.int 32), (.int 32), (.ref b3), (.ref b3), (.ref b1), (.ref b1)])) rfl rfl (hb hby d37_440)
  obtain ⟨T39, h39, L39, X39, e39, W39, N39, O39, K39, V39, st39⟩ := own_stx (i := 33) X38 hx hZ e38 V38 N38 O38 K38 sz3 Z0 rfl ⟨by decide, by decide⟩ (own_l01 (w0 := w0) (w1 := w1) (c0 := c0) (c1 := c1) (by decide)) (own_narc r_c0) (g := (mkF m 446 #[vI 0, vI 1, vI w0, vI w1, vI c0, vI c1] [(.int c0), (.int 33), (.ref b3), (.ref b3), (.ref b1), (.ref b1)])) rfl rfl (hb hby d37_446)
  obtain ⟨T40, h40, L40, X40, e40, W40, N40, O40, K40, V40, st40⟩ := own_stx (i := 34) X39 hx hZ e39 V39 N39 O39 K39 sz3 Z0 rfl ⟨by decide, by decide⟩ (own_l01 (w0 := w0) (w1 := w1) (c0 := c0) (c1 := c1) (by decide)) (own_narc r_c1) (g := (mkF m 452 #[vI 0, vI 1, vI w0, vI w1, vI c0, vI c1] [(.int c1), (.int 34), (.ref b3), (.ref b3), (.ref b1), (.ref b1)])) rfl rfl (hb hby d37_452)
  have Vr41 : Arv Z h40 b3 k3 .char (35 : Int32) ((own_xs own_nil [c0, c1]).map Value.int) (.int 0) := by
    have q := V40
    rw [show (own_xs own_nil [c0, c1]).take (34 + 1) = (own_xs own_nil [c0, c1]) from List.take_of_length_le (by show 35 ≤ 35; decide)] at q; exact q
  obtain ⟨_, _, ⟨T42, L42, k42, n42⟩, -, X42, ⟨Lc42, hQ42, l42, y42, z42⟩, st42⟩ := X40.specialBack hx (y := mN13) rfl hown (mvT hZ (hw _ w_4)) (mvT hZ (hw _ w_5)) (mvT hZ (hw _ w_6)) (by decide) (backOf (W := 1) (rmstrC1 l Z a0 hw [] b1 b3 .null (.int 0) 35 k3 (own_xs own_nil [c0, c1]) cz h40 n0 O40 ((((((((((((((((((((((((((((((((((((A1.ext E3).wr W6).wr W7).wr W8).wr W9).wr W10).wr W11).wr W12).wr W13).wr W14).wr W15).wr W16).wr W17).wr W18).wr W19).wr W20).wr W21).wr W22).wr W23).wr W24).wr W25).wr W26).wr W27).wr W28).wr W29).wr W30).wr W31).wr W32).wr W33).wr W34).wr W35).wr W36).wr W37).wr W38).wr W39).wr W40) gn1 ((((((((((((((((((((((((((((((((((((F1_16.ext E3).other W6 (Or.inl (Nat.ne_of_lt (Nat.lt_of_lt_of_le A1.lt (Nat.le_of_eq g3.symm))))).other W7 (Or.inl (Nat.ne_of_lt (Nat.lt_of_lt_of_le A1.lt (Nat.le_of_eq g3.symm))))).other W8 (Or.inl (Nat.ne_of_lt (Nat.lt_of_lt_of_le A1.lt (Nat.le_of_eq g3.symm))))).other W9 (Or.inl (Nat.ne_of_lt (Nat.lt_of_lt_of_le A1.lt (Nat.le_of_eq g3.symm))))).other W10 (Or.inl (Nat.ne_of_lt (Nat.lt_of_lt_of_le A1.lt (Nat.le_of_eq g3.symm))))).other W11 (Or.inl (Nat.ne_of_lt (Nat.lt_of_lt_of_le A1.lt (Nat.le_of_eq g3.symm))))).other W12 (Or.inl (Nat.ne_of_lt (Nat.lt_of_lt_of_le A1.lt (Nat.le_of_eq g3.symm))))).other W13 (Or.inl (Nat.ne_of_lt (Nat.lt_of_lt_of_le A1.lt (Nat.le_of_eq g3.symm))))).other W14 (Or.inl (Nat.ne_of_lt (Nat.lt_of_lt_of_le A1.lt (Nat.le_of_eq g3.symm))))).other W15 (Or.inl (Nat.ne_of_lt (Nat.lt_of_lt_of_le A1.lt (Nat.le_of_eq g3.symm))))).other W16 (Or.inl (Nat.ne_of_lt (Nat.lt_of_lt_of_le A1.lt (Nat.le_of_eq g3.symm))))).other W17 (Or.inl (Nat.ne_of_lt (Nat.lt_of_lt_of_le A1.lt (Nat.le_of_eq g3.symm))))).other W18 (Or.inl (Nat.ne_of_lt (Nat.lt_of_lt_of_le A1.lt (Nat.le_of_eq g3.symm))))).other W19 (Or.inl (Nat.ne_of_lt (Nat.lt_of_lt_of_le A1.lt (Nat.le_of_eq g3.symm))))).other W20 (Or.inl (Nat.ne_of_lt (Nat.lt_of_lt_of_le A1.lt (Nat.le_of_eq g3.symm))))).other W21 (Or.inl (Nat.ne_of_lt (Nat.lt_of_lt_of_le A1.lt (Nat.le_of_eq g3.symm))))).other W22 (Or.inl (Nat.ne_of_lt (Nat.lt_of_lt_of_le A1.lt (Nat.le_of_eq g3.symm))))).other W23 (Or.inl (Nat.ne_of_lt (Nat.lt_of_lt_of_le A1.lt (Nat.le_of_eq g3.symm))))).other W24 (Or.inl (Nat.ne_of_lt (Nat.lt_of_lt_of_le A1.lt (Nat.le_of_eq g3.symm))))).other W25 (Or.inl (Nat.ne_of_lt (Nat.lt_of_lt_of_le A1.lt (Nat.le_of_eq g3.symm))))).other W26 (Or.inl (Nat.ne_of_lt (Nat.lt_of_lt_of_le A1.lt (Nat.le_of_eq g3.symm))))).other W27 (Or.inl (Nat.ne_of_lt (Nat.lt_of_lt_of_le A1.lt (Nat.le_of_eq g3.symm))))).other W28 (Or.inl (Nat.ne_of_lt (Nat.lt_of_lt_of_le A1.lt (Nat.le_of_eq g3.symm))))).other W29 (Or.inl (Nat.ne_of_lt (Nat.lt_of_lt_of_le A1.lt (Nat.le_of_eq g3.symm))))).other W30 (Or.inl (Nat.ne_of_lt (Nat.lt_of_lt_of_le A1.lt (Nat.le_of_eq g3.symm))))).other W31 (Or.inl (Nat.ne_of_lt (Nat.lt_of_lt_of_le A1.lt (Nat.le_of_eq g3.symm))))).other W32 (Or.inl (Nat.ne_of_lt (Nat.lt_of_lt_of_le A1.lt (Nat.le_of_eq g3.symm))))).other W33 (Or.inl (Nat.ne_of_lt (Nat.lt_of_lt_of_le A1.lt (Nat.le_of_eq g3.symm))))).other W34 (Or.inl (Nat.ne_of_lt (Nat.lt_of_lt_of_le A1.lt (Nat.le_of_eq g3.symm))))).other W35 (Or.inl (Nat.ne_of_lt (Nat.lt_of_lt_of_le A1.lt (Nat.le_of_eq g3.symm))))).other W36 (Or.inl (Nat.ne_of_lt (Nat.lt_of_lt_of_le A1.lt (Nat.le_of_eq g3.symm))))).other W37 (Or.inl (Nat.ne_of_lt (Nat.lt_of_lt_of_le A1.lt (Nat.le_of_eq g3.symm))))).other W38 (Or.inl (Nat.ne_of_lt (Nat.lt_of_lt_of_le A1.lt (Nat.le_of_eq g3.symm))))).other W39 (Or.inl (Nat.ne_of_lt (Nat.lt_of_lt_of_le A1.lt (Nat.le_of_eq g3.symm))))).other W40 (Or.inl (Nat.ne_of_lt (Nat.lt_of_lt_of_le A1.lt (Nat.le_of_eq g3.symm))))) ((((((((((((((((((((((((((((((((((((F1_17.ext E3).other W6 (Or.inl (Nat.ne_of_lt (Nat.lt_of_lt_of_le A1.lt (Nat.le_of_eq g3.symm))))).other W7 (Or.inl (Nat.ne_of_lt (Nat.lt_of_lt_of_le A1.lt (Nat.le_of_eq g3.symm))))).other W8 (Or.inl (Nat.ne_of_lt (Nat.lt_of_lt_of_le A1.lt (Nat.le_of_eq g3.symm))))).other W9 (Or.inl (Nat.ne_of_lt (Nat.lt_of_lt_of_le A1.lt (Nat.le_of_eq g3.symm))))).other W10 (Or.inl (Nat.ne_of_lt (Nat.lt_of_lt_of_le A1.lt (Nat.le_of_eq g3.symm))))).other W11 (Or.inl (Nat.ne_of_lt (Nat.lt_of_lt_of_le A1.lt (Nat.le_of_eq g3.symm))))).other W12 (Or.inl (Nat.ne_of_lt (Nat.lt_of_lt_of_le A1.lt (Nat.le_of_eq g3.symm))))).other W13 (Or.inl (Nat.ne_of_lt (Nat.lt_of_lt_of_le A1.lt (Nat.le_of_eq g3.symm))))).other W14 (Or.inl (Nat.ne_of_lt (Nat.lt_of_lt_of_le A1.lt (Nat.le_of_eq g3.symm))))).other W15 (Or.inl (Nat.ne_of_lt (Nat.lt_of_lt_of_le A1.lt (Nat.le_of_eq g3.symm))))).other W16 (Or.inl (Nat.ne_of_lt (Nat.lt_of_lt_of_le A1.lt (Nat.le_of_eq g3.symm))))).other W17 (Or.inl (Nat.ne_of_lt (Nat.lt_of_lt_of_le A1.lt (Nat.le_of_eq g3.symm))))).other W18 (Or.inl (Nat.ne_of_lt (Nat.lt_of_lt_of_le A1.lt (Nat.le_of_eq g3.symm))))).other W19 (Or.inl (Nat.ne_of_lt (Nat.lt_of_lt_of_le A1.lt (Nat.le_of_eq g3.symm))))).other W20 (Or.inl (Nat.ne_of_lt (Nat.lt_of_lt_of_le A1.lt (Nat.le_of_eq g3.symm))))).other W21 (Or.inl (Nat.ne_of_lt (Nat.lt_of_lt_of_le A1.lt (Nat.le_of_eq g3.symm))))).other W22 (Or.inl (Nat.ne_of_lt (Nat.lt_of_lt_of_le A1.lt (Nat.le_of_eq g3.symm))))).other W23 (Or.inl (Nat.ne_of_lt (Nat.lt_of_lt_of_le A1.lt (Nat.le_of_eq g3.symm))))).other W24 (Or.inl (Nat.ne_of_lt (Nat.lt_of_lt_of_le A1.lt (Nat.le_of_eq g3.symm))))).other W25 (Or.inl (Nat.ne_of_lt (Nat.lt_of_lt_of_le A1.lt (Nat.le_of_eq g3.symm))))).other W26 (Or.inl (Nat.ne_of_lt (Nat.lt_of_lt_of_le A1.lt (Nat.le_of_eq g3.symm))))).other W27 (Or.inl (Nat.ne_of_lt (Nat.lt_of_lt_of_le A1.lt (Nat.le_of_eq g3.symm))))).other W28 (Or.inl (Nat.ne_of_lt (Nat.lt_of_lt_of_le A1.lt (Nat.le_of_eq g3.symm))))).other W29 (Or.inl (Nat.ne_of_lt (Nat.lt_of_lt_of_le A1.lt (Nat.le_of_eq g3.symm))))).other W30 (Or.inl (Nat.ne_of_lt (Nat.lt_of_lt_of_le A1.lt (Nat.le_of_eq g3.symm))))).other W31 (Or.inl (Nat.ne_of_lt (Nat.lt_of_lt_of_le A1.lt (Nat.le_of_eq g3.symm))))).other W32 (Or.inl (Nat.ne_of_lt (Nat.lt_of_lt_of_le A1.lt (Nat.le_of_eq g3.symm))))).other W33 (Or.inl (Nat.ne_of_lt (Nat.lt_of_lt_of_le A1.lt (Nat.le_of_eq g3.symm))))).other W34 (Or.inl (Nat.ne_of_lt (Nat.lt_of_lt_of_le A1.lt (Nat.le_of_eq g3.symm))))).other W35 (Or.inl (Nat.ne_of_lt (Nat.lt_of_lt_of_le A1.lt (Nat.le_of_eq g3.symm))))).other W36 (Or.inl (Nat.ne_of_lt (Nat.lt_of_lt_of_le A1.lt (Nat.le_of_eq g3.symm))))).other W37 (Or.inl (Nat.ne_of_lt (Nat.lt_of_lt_of_le A1.lt (Nat.le_of_eq g3.symm))))).other W38 (Or.inl (Nat.ne_of_lt (Nat.lt_of_lt_of_le A1.lt (Nat.le_of_eq g3.symm))))).other W39 (Or.inl (Nat.ne_of_lt (Nat.lt_of_lt_of_le A1.lt (Nat.le_of_eq g3.symm))))).other W40 (Or.inl (Nat.ne_of_lt (Nat.lt_of_lt_of_le A1.lt (Nat.le_of_eq g3.symm))))) Vr41 (by decide) (by decide) rfl (own_chx own_chn (own_ch2 r_c0 r_c1)) hp0 hp1 hp2 hp3 hcz) hZ (hw _ w_6) (hw _ w_2) (by decide) (by decide)) (g := (mkF m 453 #[vI 0, vI 1, vI w0, vI w1, vI c0, vI c1] [(.ref b3), (.ref b1), (.ref b1)])) rfl (by rw [hml]; rfl) (Steps.refl _) (a := b1) (argsL := [(.ref b3)]) (rest := [(.ref b1)]) (lenOf pd__AC_V rfl) rfl (by show 2 * 0 + _ ≤ _; exact Nat.le_of_eq rfl) (hb hby d37_453) (fun _ _ => ⟨rfl, e40, (by decide : 2 + 2 ≤ _), (by decide : 39 + 200 ≤ _)⟩)
  dsimp only [Pt.U, Pt.locs, Pt.cells, Pt.slots] at X42 l42 y42 z42 st42 hQ42
  subst l42 y42 z42
  obtain ⟨t_42, kt_42, rfl, N42q, Kc42, r42_1, r42_2, r42_3, r42_4, r42_5⟩ := hQ42
  have N42 := Fr.app N40 N42q
  have sz43 : h0.size ≤ t_42 := Nat.le_trans K40.1 r42_1
  have gn43 : n0 ≤ t_42 := Nat.le_trans Z0 sz43
  have O42 : Old Z n0 T42.heap := O40.keep Kc42 (allS gn1 all0)
  have K42 : Keep h0 T42.heap [] := K40.trans Kc42 (allS (Or.inr sz1) all0)
  obtain ⟨fs, hr, hrun, hended, hW, hsame⟩ := X42.leave (v := some (.ref b1)) (fun h => by rw [Bd.returns] at h; cases h)
  refine ⟨_, _, pre0 _ ?_, hrun, hended, _, _, rfl, ?_, ⟨_, rfl⟩, hW, hsame.mono (by decide) (by decide)⟩
  · refine XS.iloadN X0.here hx rfl (hb hby d37_0) rfl ?_
    refine XS.ifNo X0.here hx rfl (hb hby d37_1) rfl ((if0 _ _).trans (teq (by decide : (0 : Int32) = (0 : Int32))).2) ?_
    refine XS.iloadN X0.here hx rfl (hb hby d37_4) rfl ?_
    refine XS.ifYes X0.here hx rfl (pc0 := 5) (pc' := 11) rfl (hb hby d37_5) rfl ((if0 _ _).trans (feq (by decide : ¬ ((1 : Int32) = (0 : Int32)))).2) (by decide) (by decide) ?_
    refine XS.iloadN X0.here hx rfl (hb hby d37_11) rfl ?_
    refine XS.ifYes X0.here hx rfl (pc0 := 12) (pc' := 233) rfl (hb hby d37_12) rfl ((if0 _ _).trans (teq (by decide : (0 : Int32) = (0 : Int32))).1) (by decide) (by decide) ?_
    refine XS.iloadN X0.here hx rfl (hb hby d37_233) rfl ?_
    refine XS.ifNo X0.here hx rfl (hb hby d37_234) rfl ((if0 _ _).trans (teq (by decide : (0 : Int32) = (0 : Int32))).2) ?_
    refine XS.iloadN X0.here hx rfl (hb hby d37_237) rfl ?_
    refine XS.ifNo X0.here hx rfl (hb hby d37_238) rfl ((if0 _ _).trans (feq (by decide : ¬ ((1 : Int32) = (0 : Int32)))).1) ?_
    refine st1 _ ?_
    refine XS.dup X1.here hx rfl (hb hby d37_244) rfl rfl ?_
    refine XS.bipush X1.here hx rfl (hb hby d37_245) ?_
    show Steps _ _ _ (T1.setTop (mkF m 247 #[vI 0, vI 1, vI w0, vI w1, vI c0, vI c1] [(.int 35), (.ref b1), (.ref b1)])) _
    refine st3 _ ?_
    refine XS.dup X3.here hx rfl (hb hby d37_249) rfl rfl ?_
    refine XS.iconst X3.here hx rfl (hb hby d37_250) ?_
    refine XS.bipush X3.here hx rfl (hb hby d37_251) ?_
    refine st6 _ ?_
    refine XS.dup X6.here hx rfl (hb hby d37_254) rfl rfl ?_
    refine XS.iconst X6.here hx rfl (hb hby d37_255) ?_
    refine XS.bipush X6.here hx rfl (hb hby d37_256) ?_
    refine st7 _ ?_
    refine XS.dup X7.here hx rfl (hb hby d37_259) rfl rfl ?_
    refine XS.iconst X7.here hx rfl (hb hby d37_260) ?_
    refine XS.bipush X7.here hx rfl (hb hby d37_261) ?_
    refine st8 _ ?_
    refine XS.dup X8.here hx rfl (hb hby d37_264) rfl rfl ?_
    refine XS.iconst X8.here hx rfl (hb hby d37_265) ?_
    refine XS.bipush X8.here hx rfl (hb hby d37_266) ?_
    refine st9 _ ?_
    refine XS.dup X9.here hx rfl (hb hby d37_269) rfl rfl ?_
    refine XS.iconst X9.here hx rfl (hb hby d37_270) ?_
    refine XS.bipush X9.here hx rfl (hb hby d37_271) ?_
    refine st10 _ ?_
    refine XS.dup X10.here hx rfl (hb hby d37_274) rfl rfl ?_
    refine XS.iconst X10.here hx rfl (hb hby d37_275) ?_
    refine XS.bipush X10.here hx rfl (hb hby d37_276) ?_
    show Steps _ _ _ (T10.setTop (mkF m 278 #[vI 0, vI 1, vI w0, vI w1, vI c0, vI c1] [(.int 97), (.int 5), (.ref b3), (.ref b3), (.ref b1), (.ref b1)])) _
    refine st11 _ ?_
    refine XS.dup X11.here hx rfl (hb hby d37_279) rfl rfl ?_
    refine XS.bipush X11.here hx rfl (hb hby d37_280) ?_
    refine XS.bipush X11.here hx rfl (hb hby d37_282) ?_
    refine st12 _ ?_
    refine XS.dup X12.here hx rfl (hb hby d37_285) rfl rfl ?_
    refine XS.bipush X12.here hx rfl (hb hby d37_286) ?_
    refine XS.bipush X12.here hx rfl (hb hby d37_288) ?_
    refine st13 _ ?_
    refine XS.dup X13.here hx rfl (hb hby d37_291) rfl rfl ?_
    refine XS.bipush X13.here hx rfl (hb hby d37_292) ?_
    refine XS.bipush X13.here hx rfl (hb hby d37_294) ?_
    refine st14 _ ?_
    refine XS.dup X14.here hx rfl (hb hby d37_297) rfl rfl ?_
    refine XS.bipush X14.here hx rfl (hb hby d37_298) ?_
    refine XS.bipush X14.here hx rfl (hb hby d37_300) ?_
    refine st15 _ ?_
    refine XS.dup X15.here hx rfl (hb hby d37_303) rfl rfl ?_
    refine XS.bipush X15.here hx rfl (hb hby d37_304) ?_
    refine XS.bipush X15.here hx rfl (hb hby d37_306) ?_
    refine st16 _ ?_
    refine XS.dup X16.here hx rfl (hb hby d37_309) rfl rfl ?_
    refine XS.bipush X16.here hx rfl (hb hby d37_310) ?_
    refine XS.bipush X16.here hx rfl (hb hby d37_312) ?_
    show Steps _ _ _ (T16.setTop (mkF m 314 #[vI 0, vI 1, vI w0, vI w1, vI c0, vI c1] [(.int 108), (.int 11), (.ref b3), (.ref b3), (.ref b1), (.ref b1)])) _
    refine st17 _ ?_
    refine XS.dup X17.here hx rfl (hb hby d37_315) rfl rfl ?_
    refine XS.bipush X17.here hx rfl (hb hby d37_316) ?_
    refine XS.bipush X17.here hx rfl (hb hby d37_318) ?_
    refine st18 _ ?_
    refine XS.dup X18.here hx rfl (hb hby d37_321) rfl rfl ?_
    refine XS.bipush X18.here hx rfl (hb hby d37_322) ?_
    refine XS.bipush X18.here hx rfl (hb hby d37_324) ?_
    refine st19 _ ?_
    refine XS.dup X19.here hx rfl (hb hby d37_327) rfl rfl ?_
    refine XS.bipush X19.here hx rfl (hb hby d37_328) ?_
    refine XS.bipush X19.here hx rfl (hb hby d37_330) ?_
    refine st20 _ ?_
    refine XS.dup X20.here hx rfl (hb hby d37_333) rfl rfl ?_
    refine XS.bipush X20.here hx rfl (hb hby d37_334) ?_
    refine XS.bipush X20.here hx rfl (hb hby d37_336) ?_
    refine st21 _ ?_
    refine XS.dup X21.here hx rfl (hb hby d37_339) rfl rfl ?_
    refine XS.bipush X21.here hx rfl (hb hby d37_340) ?_
    refine XS.bipush X21.here hx rfl (hb hby d37_342) ?_
    refine st22 _ ?_
    refine XS.dup X22.here hx rfl (hb hby d37_345) rfl rfl ?_
    refine XS.bipush X22.here hx rfl (hb hby d37_346) ?_
    refine XS.bipush X22.here hx rfl (hb hby d37_348) ?_
    show Steps _ _ _ (T22.setTop (mkF m 350 #[vI 0, vI 1, vI w0, vI w1, vI c0, vI c1] [(.int 100), (.int 17), (.ref b3), (.ref b3), (.ref b1), (.ref b1)])) _
    refine st23 _ ?_
    refine XS.dup X23.here hx rfl (hb hby d37_351) rfl rfl ?_
    refine XS.bipush X23.here hx rfl (hb hby d37_352) ?_
    refine XS.bipush X23.here hx rfl (hb hby d37_354) ?_
    refine st24 _ ?_
    refine XS.dup X24.here hx rfl (hb hby d37_357) rfl rfl ?_
    refine XS.bipush X24.here hx rfl (hb hby d37_358) ?_
    refine XS.bipush X24.here hx rfl (hb hby d37_360) ?_
    refine st25 _ ?_
    refine XS.dup X25.here hx rfl (hb hby d37_363) rfl rfl ?_
    refine XS.bipush X25.here hx rfl (hb hby d37_364) ?_
    refine XS.bipush X25.here hx rfl (hb hby d37_366) ?_
    refine st26 _ ?_
    refine XS.dup X26.here hx rfl (hb hby d37_369) rfl rfl ?_
    refine XS.bipush X26.here hx rfl (hb hby d37_370) ?_
    refine XS.bipush X26.here hx rfl (hb hby d37_372) ?_
    refine st27 _ ?_
    refine XS.dup X27.here hx rfl (hb hby d37_375) rfl rfl ?_
    refine XS.bipush X27.here hx rfl (hb hby d37_376) ?_
    refine XS.bipush X27.here hx rfl (hb hby d37_378) ?_
    refine st28 _ ?_
    refine XS.dup X28.here hx rfl (hb hby d37_381) rfl rfl ?_
    refine XS.bipush X28.here hx rfl (hb hby d37_382) ?_
    refine XS.bipush X28.here hx rfl (hb hby d37_384) ?_
    show Steps _ _ _ (T28.setTop (mkF m 386 #[vI 0, vI 1, vI w0, vI w1, vI c0, vI c1] [(.int 117), (.int 23), (.ref b3), (.ref b3), (.ref b1), (.ref b1)])) _
    refine st29 _ ?_
    refine XS.dup X29.here hx rfl (hb hby d37_387) rfl rfl ?_
    refine XS.bipush X29.here hx rfl (hb hby d37_388) ?_
    refine XS.bipush X29.here hx rfl (hb hby d37_390) ?_
    refine st30 _ ?_
    refine XS.dup X30.here hx rfl (hb hby d37_393) rfl rfl ?_
    refine XS.bipush X30.here hx rfl (hb hby d37_394) ?_
    refine XS.bipush X30.here hx rfl (hb hby d37_396) ?_
    refine st31 _ ?_
    refine XS.dup X31.here hx rfl (hb hby d37_399) rfl rfl ?_
    refine XS.bipush X31.here hx rfl (hb hby d37_400) ?_
    refine XS.bipush X31.here hx rfl (hb hby d37_402) ?_
    refine st32 _ ?_
    refine XS.dup X32.here hx rfl (hb hby d37_405) rfl rfl ?_
    refine XS.bipush X32.here hx rfl (hb hby d37_406) ?_
    refine XS.bipush X32.here hx rfl (hb hby d37_408) ?_
    refine st33 _ ?_
    refine XS.dup X33.here hx rfl (hb hby d37_411) rfl rfl ?_
    refine XS.bipush X33.here hx rfl (hb hby d37_412) ?_
    refine XS.bipush X33.here hx rfl (hb hby d37_414) ?_
    refine st34 _ ?_
    refine XS.dup X34.here hx rfl (hb hby d37_417) rfl rfl ?_
    refine XS.bipush X34.here hx rfl (hb hby d37_418) ?_
    refine XS.bipush X34.here hx rfl (hb hby d37_420) ?_
    show Steps _ _ _ (T34.setTop (mkF m 422 #[vI 0, vI 1, vI w0, vI w1, vI c0, vI c1] [(.int 110), (.int 29), (.ref b3), (.ref b3), (.ref b1), (.ref b1)])) _
    refine st35 _ ?_
    refine XS.dup X35.here hx rfl (hb hby d37_423) rfl rfl ?_
    refine XS.bipush X35.here hx rfl (hb hby d37_424) ?_
    refine XS.bipush X35.here hx rfl (hb hby d37_426) ?_
    refine st36 _ ?_
    refine XS.dup X36.here hx rfl (hb hby d37_429) rfl rfl ?_
    refine XS.bipush X36.here hx rfl (hb hby d37_430) ?_
    refine XS.bipush X36.here hx rfl (hb hby d37_432) ?_
    refine st37 _ ?_
    refine XS.dup X37.here hx rfl (hb hby d37_435) rfl rfl ?_
    refine XS.bipush X37.here hx rfl (hb hby d37_436) ?_
    refine XS.bipush X37.here hx rfl (hb hby d37_438) ?_
    refine st38 _ ?_
    refine XS.dup X38.here hx rfl (hb hby d37_441) rfl rfl ?_
    refine XS.bipush X38.here hx rfl (hb hby d37_442) ?_
    refine XS.iload X38.here hx rfl (hb hby d37_444) rfl ?_
    refine st39 _ ?_
    refine XS.dup X39.here hx rfl (hb hby d37_447) rfl rfl ?_
    refine XS.bipush X39.here hx rfl (hb hby d37_448) ?_
    refine XS.iload X39.here hx rfl (hb hby d37_450) rfl ?_
    refine st40 _ ?_
    show Steps _ _ _ (T40.setTop (mkF m 453 #[vI 0, vI 1, vI w0, vI w1, vI c0, vI c1] [(.ref b3), (.ref b1), (.ref b1)])) _
    refine st42.trans ?_
    jvm_step X42.here [X42.here.top, hx, (hb hby d37_456), X42.method', Bd.returns, Value.isRef, FieldType.isReference]
    first | (intro acts; rw [hr _ acts rfl rfl rfl]) | rw [hr _ _ rfl rfl rfl]
    exact Steps.refl _
  · show Qexpd01 Z w0 w1 c0 c1 cz h0 n0 _ T42.heap _
    exact ⟨b1, t_42, kt_42, rfl, N42, K42, sz1, r42_2, r42_3, r42_4, r42_5⟩
theorem own_l11 {w0 w1 c0 c1 : Int32} {i : Nat} (h : i < 37) : i < (own_xs [w0, w1] [c0, c1]).length := h
theorem d37_457 : decode c37_ 457 = .ok (.new 7, 3) := by decide +kernel
theorem d37_460 : decode c37_ 460 = .ok (.dup, 1) := by decide +kernel
theorem d37_461 : decode c37_ 461 = .ok (.bipush 37, 2) := by decide +kernel
theorem d37_463 : decode c37_ 463 = .ok (.newarray .char, 2) := by decide +kernel
theorem d37_465 : decode c37_ 465 = .ok (.dup, 1) := by decide +kernel
theorem d37_466 : decode c37_ 466 = .ok (.iconst 0, 1) := by decide +kernel
theorem d37_467 : decode c37_ 467 = .ok (.bipush 116, 2) := by decide +kernel
theorem d37_469 : decode c37_ 469 = .ok (.castore, 1) := by decide +kernel
theorem d37_470 : decode c37_ 470 = .ok (.dup, 1) := by decide +kernel
theorem d37_471 : decode c37_ 471 = .ok (.iconst 1, 1) := by decide +kernel
theorem d37_472 : decode c37_ 472 = .ok (.bipush 104, 2) := by decide +kernel
theorem d37_474 : decode c37_ 474 = .ok (.castore, 1) := by decide +kernel
theorem d37_475 : decode c37_ 475 = .ok (.dup, 1) := by decide +kernel
theorem d37_476 : decode c37_ 476 = .ok (.iconst 2, 1) := by decide +kernel
theorem d37_477 : decode c37_ 477 = .ok (.bipush 101, 2) := by decide +kernel
theorem d37_479 : decode c37_ 479 = .ok (.castore, 1) := by decide +kernel
theorem d37_480 : decode c37_ 480 = .ok (.dup, 1) := by decide +kernel
theorem d37_481 : decode c37_ 481 = .ok (.iconst 3, 1) := by decide +kernel
theorem d37_482 : decode c37_ 482 = .ok (.bipush 32, 2) := by decide +kernel
theorem d37_484 : decode c37_ 484 = .ok (.castore, 1) := by decide +kernel
theorem d37_485 : decode c37_ 485 = .ok (.dup, 1) := by decide +kernel
theorem d37_486 : decode c37_ 486 = .ok (.iconst 4, 1) := by decide +kernel
theorem d37_487 : decode c37_ 487 = .ok (.bipush 100, 2) := by decide +kernel
theorem d37_489 : decode c37_ 489 = .ok (.castore, 1) := by decide +kernel
theorem d37_490 : decode c37_ 490 = .ok (.dup, 1) := by decide +kernel
theorem d37_491 : decode c37_ 491 = .ok (.iconst 5, 1) := by decide +kernel
theorem d37_492 : decode c37_ 492 = .ok (.bipush 97, 2) := by decide +kernel
theorem d37_494 : decode c37_ 494 = .ok (.castore, 1) := by decide +kernel
theorem d37_495 : decode c37_ 495 = .ok (.dup, 1) := by decide +kernel
theorem d37_496 : decode c37_ 496 = .ok (.bipush 6, 2) := by decide +kernel
theorem d37_498 : decode c37_ 498 = .ok (.bipush 116, 2) := by decide +kernel
theorem d37_500 : decode c37_ 500 = .ok (.castore, 1) := by decide +kernel
theorem d37_501 : decode c37_ 501 = .ok (.dup, 1) := by decide +kernel
theorem d37_502 : decode c37_ 502 = .ok (.bipush 7, 2) := by decide +kernel
theorem d37_504 : decode c37_ 504 = .ok (.bipush 97, 2) := by decide +kernel
theorem d37_506 : decode c37_ 506 = .ok (.castore, 1) := by decide +kernel
theorem d37_507 : decode c37_ 507 = .ok (.dup, 1) := by decide +kernel
theorem d37_508 : decode c37_ 508 = .ok (.bipush 8, 2) := by decide +kernel
theorem d37_510 : decode c37_ 510 = .ok (.bipush 32, 2) := by decide +kernel
theorem d37_512 : decode c37_ 512 = .ok (.castore, 1) := by decide +kernel
theorem d37_513 : decode c37_ 513 = .ok (.dup, 1) := by decide +kernel
theorem d37_514 : decode c37_ 514 = .ok (.bipush 9, 2) := by decide +kernel
theorem d37_516 : decode c37_ 516 = .ok (.bipush 102, 2) := by decide +kernel
theorem d37_518 : decode c37_ 518 = .ok (.castore, 1) := by decide +kernel
theorem d37_519 : decode c37_ 519 = .ok (.dup, 1) := by decide +kernel
theorem d37_520 : decode c37_ 520 = .ok (.bipush 10, 2) := by decide +kernel
theorem d37_522 : decode c37_ 522 = .ok (.bipush 105, 2) := by decide +kernel
theorem d37_524 : decode c37_ 524 = .ok (.castore, 1) := by decide +kernel
theorem d37_525 : decode c37_ 525 = .ok (.dup, 1) := by decide +kernel
theorem d37_526 : decode c37_ 526 = .ok (.bipush 11, 2) := by decide +kernel
theorem d37_528 : decode c37_ 528 = .ok (.bipush 108, 2) := by decide +kernel
theorem d37_530 : decode c37_ 530 = .ok (.castore, 1) := by decide +kernel
theorem d37_531 : decode c37_ 531 = .ok (.dup, 1) := by decide +kernel
theorem d37_532 : decode c37_ 532 = .ok (.bipush 12, 2) := by decide +kernel
theorem d37_534 : decode c37_ 534 = .ok (.bipush 101, 2) := by decide +kernel
theorem d37_536 : decode c37_ 536 = .ok (.castore, 1) := by decide +kernel
theorem d37_537 : decode c37_ 537 = .ok (.dup, 1) := by decide +kernel
theorem d37_538 : decode c37_ 538 = .ok (.bipush 13, 2) := by decide +kernel
theorem d37_540 : decode c37_ 540 = .ok (.bipush 32, 2) := by decide +kernel
theorem d37_542 : decode c37_ 542 = .ok (.castore, 1) := by decide +kernel
theorem d37_543 : decode c37_ 543 = .ok (.dup, 1) := by decide +kernel
theorem d37_544 : decode c37_ 544 = .ok (.bipush 14, 2) := by decide +kernel
theorem d37_546 : decode c37_ 546 = .ok (.bipush 104, 2) := by decide +kernel
theorem d37_548 : decode c37_ 548 = .ok (.castore, 1) := by decide +kernel
theorem d37_549 : decode c37_ 549 = .ok (.dup, 1) := by decide +kernel
theorem d37_550 : decode c37_ 550 = .ok (.bipush 15, 2) := by decide +kernel
theorem d37_552 : decode c37_ 552 = .ok (.bipush 111, 2) := by decide +kernel
theorem d37_554 : decode c37_ 554 = .ok (.castore, 1) := by decide +kernel
theorem d37_555 : decode c37_ 555 = .ok (.dup, 1) := by decide +kernel
theorem d37_556 : decode c37_ 556 = .ok (.bipush 16, 2) := by decide +kernel
theorem d37_558 : decode c37_ 558 = .ok (.bipush 108, 2) := by decide +kernel
theorem d37_560 : decode c37_ 560 = .ok (.castore, 1) := by decide +kernel
theorem d37_561 : decode c37_ 561 = .ok (.dup, 1) := by decide +kernel
theorem d37_562 : decode c37_ 562 = .ok (.bipush 17, 2) := by decide +kernel
theorem d37_564 : decode c37_ 564 = .ok (.bipush 100, 2) := by decide +kernel
theorem d37_566 : decode c37_ 566 = .ok (.castore, 1) := by decide +kernel
theorem d37_567 : decode c37_ 567 = .ok (.dup, 1) := by decide +kernel
theorem d37_568 : decode c37_ 568 = .ok (.bipush 18, 2) := by decide +kernel
theorem d37_570 : decode c37_ 570 = .ok (.bipush 115, 2) := by decide +kernel
theorem d37_572 : decode c37_ 572 = .ok (.castore, 1) := by decide +kernel
theorem d37_573 : decode c37_ 573 = .ok (.dup, 1) := by decide +kernel
theorem d37_574 : decode c37_ 574 = .ok (.bipush 19, 2) := by decide +kernel
theorem d37_576 : decode c37_ 576 = .ok (.bipush 32, 2) := by decide +kernel
theorem d37_578 : decode c37_ 578 = .ok (.castore, 1) := by decide +kernel
theorem d37_579 : decode c37_ 579 = .ok (.dup, 1) := by decide +kernel
theorem d37_580 : decode c37_ 580 = .ok (.bipush 20, 2) := by decide +kernel
theorem d37_582 : decode c37_ 582 = .ok (.bipush 97, 2) := by decide +kernel
theorem d37_584 : decode c37_ 584 = .ok (.castore, 1) := by decide +kernel
theorem d37_585 : decode c37_ 585 = .ok (.dup, 1) := by decide +kernel
theorem d37_586 : decode c37_ 586 = .ok (.bipush 21, 2) := by decide +kernel
theorem d37_588 : decode c37_ 588 = .ok (.bipush 110, 2) := by decide +kernel
theorem d37_590 : decode c37_ 590 = .ok (.castore, 1) := by decide +kernel
theorem d37_591 : decode c37_ 591 = .ok (.dup, 1) := by decide +kernel
theorem d37_592 : decode c37_ 592 = .ok (.bipush 22, 2) := by decide +kernel
theorem d37_594 : decode c37_ 594 = .ok (.bipush 32, 2) := by decide +kernel
theorem d37_596 : decode c37_ 596 = .ok (.castore, 1) := by decide +kernel
theorem d37_597 : decode c37_ 597 = .ok (.dup, 1) := by decide +kernel
theorem d37_598 : decode c37_ 598 = .ok (.bipush 23, 2) := by decide +kernel
theorem d37_600 : decode c37_ 600 = .ok (.bipush 117, 2) := by decide +kernel
theorem d37_602 : decode c37_ 602 = .ok (.castore, 1) := by decide +kernel
theorem d37_603 : decode c37_ 603 = .ok (.dup, 1) := by decide +kernel
theorem d37_604 : decode c37_ 604 = .ok (.bipush 24, 2) := by decide +kernel
theorem d37_606 : decode c37_ 606 = .ok (.bipush 110, 2) := by decide +kernel
theorem d37_608 : decode c37_ 608 = .ok (.castore, 1) := by decide +kernel
theorem d37_609 : decode c37_ 609 = .ok (.dup, 1) := by decide +kernel
theorem d37_610 : decode c37_ 610 = .ok (.bipush 25, 2) := by decide +kernel
theorem d37_612 : decode c37_ 612 = .ok (.bipush 107, 2) := by decide +kernel
theorem d37_614 : decode c37_ 614 = .ok (.castore, 1) := by decide +kernel
theorem d37_615 : decode c37_ 615 = .ok (.dup, 1) := by decide +kernel
theorem d37_616 : decode c37_ 616 = .ok (.bipush 26, 2) := by decide +kernel
theorem d37_618 : decode c37_ 618 = .ok (.bipush 110, 2) := by decide +kernel
theorem d37_620 : decode c37_ 620 = .ok (.castore, 1) := by decide +kernel
theorem d37_621 : decode c37_ 621 = .ok (.dup, 1) := by decide +kernel
theorem d37_622 : decode c37_ 622 = .ok (.bipush 27, 2) := by decide +kernel
theorem d37_624 : decode c37_ 624 = .ok (.bipush 111, 2) := by decide +kernel
theorem d37_626 : decode c37_ 626 = .ok (.castore, 1) := by decide +kernel
theorem d37_627 : decode c37_ 627 = .ok (.dup, 1) := by decide +kernel
theorem d37_628 : decode c37_ 628 = .ok (.bipush 28, 2) := by decide +kernel
theorem d37_630 : decode c37_ 630 = .ok (.bipush 119, 2) := by decide +kernel
theorem d37_632 : decode c37_ 632 = .ok (.castore, 1) := by decide +kernel
theorem d37_633 : decode c37_ 633 = .ok (.dup, 1) := by decide +kernel
theorem d37_634 : decode c37_ 634 = .ok (.bipush 29, 2) := by decide +kernel
theorem d37_636 : decode c37_ 636 = .ok (.bipush 110, 2) := by decide +kernel
theorem d37_638 : decode c37_ 638 = .ok (.castore, 1) := by decide +kernel
theorem d37_639 : decode c37_ 639 = .ok (.dup, 1) := by decide +kernel
theorem d37_640 : decode c37_ 640 = .ok (.bipush 30, 2) := by decide +kernel
theorem d37_642 : decode c37_ 642 = .ok (.bipush 32, 2) := by decide +kernel
theorem d37_644 : decode c37_ 644 = .ok (.castore, 1) := by decide +kernel
theorem d37_645 : decode c37_ 645 = .ok (.dup, 1) := by decide +kernel
theorem d37_646 : decode c37_ 646 = .ok (.bipush 31, 2) := by decide +kernel
theorem d37_648 : decode c37_ 648 = .ok (.iload_n 2, 1) := by decide +kernel
theorem d37_649 : decode c37_ 649 = .ok (.castore, 1) := by decide +kernel
theorem d37_650 : decode c37_ 650 = .ok (.dup, 1) := by decide +kernel
theorem d37_651 : decode c37_ 651 = .ok (.bipush 32, 2) := by decide +kernel
theorem d37_653 : decode c37_ 653 = .ok (.iload_n 3, 1) := by decide +kernel
theorem d37_654 : decode c37_ 654 = .ok (.castore, 1) := by decide +kernel
theorem d37_655 : decode c37_ 655 = .ok (.dup, 1) := by decide +kernel
theorem d37_656 : decode c37_ 656 = .ok (.bipush 33, 2) := by decide +kernel
theorem d37_658 : decode c37_ 658 = .ok (.bipush 58, 2) := by decide +kernel
theorem d37_660 : decode c37_ 660 = .ok (.castore, 1) := by decide +kernel
theorem d37_661 : decode c37_ 661 = .ok (.dup, 1) := by decide +kernel
theorem d37_662 : decode c37_ 662 = .ok (.bipush 34, 2) := by decide +kernel
theorem d37_664 : decode c37_ 664 = .ok (.bipush 32, 2) := by decide +kernel
theorem d37_666 : decode c37_ 666 = .ok (.castore, 1) := by decide +kernel
theorem d37_667 : decode c37_ 667 = .ok (.dup, 1) := by decide +kernel
theorem d37_668 : decode c37_ 668 = .ok (.bipush 35, 2) := by decide +kernel
theorem d37_670 : decode c37_ 670 = .ok (.iload 4, 2) := by decide +kernel
theorem d37_672 : decode c37_ 672 = .ok (.castore, 1) := by decide +kernel
theorem d37_673 : decode c37_ 673 = .ok (.dup, 1) := by decide +kernel
theorem d37_674 : decode c37_ 674 = .ok (.bipush 36, 2) := by decide +kernel
theorem d37_676 : decode c37_ 676 = .ok (.iload 5, 2) := by decide +kernel
theorem d37_678 : decode c37_ 678 = .ok (.castore, 1) := by decide +kernel
theorem d37_679 : decode c37_ 679 = .ok (.invokespecial 9, 3) := by decide +kernel
theorem d37_682 : decode c37_ 682 = .ok (.areturn, 1) := by decide +kernel
theorem ef_expd11 (m : MethodId) (x0 : Int32) (x1 : Int32) (x2 : Int32) (x3 : Int32) (x4 : Int32) (x5 : Int32) : entryFrame m #[(.int x0), (.int x1), (.int x2), (.int x3), (.int x4), (.int x5)] 6 = mkF m 0 #[vI x0, vI x1, vI x2, vI x3, vI x4, vI x5] [] := by first | (simp [entryFrame, mkF, argsToLocals, Value.category]; done) | rfl
def Qexpd11 (Z : State) (w0 : Int32) (w1 : Int32) (c0 : Int32) (c1 : Int32) (cz : Int32) (h0 : Heap) (n0 : Nat) (v : Option Value) (h : Heap) (L : List Loc) : Prop := ∃ (r : Addr), ∃ (t : Addr), ∃ (kt : ClassId), v = some (.ref r) ∧ Fr n0 L ∧ Keep h0 h [] ∧ h0.size ≤ r ∧ Exa Z h r "java/lang/String" ∧ Fld Z h r "java/lang/String" "value" "[B" (.ref t) ∧ Fld Z h r "java/lang/String" "coder" "B" (.int (own_i (own_cd (own_xs [w0, w1] [c0, c1])))) ∧ Arv Z h t kt .byte (own_i (own_wd (own_cd (own_xs [w0, w1] [c0, c1])) (own_xs [w0, w1] [c0, c1]).length)) ((own_enc (own_cd (own_xs [w0, w1] [c0, c1])) (own_xs [w0, w1] [c0, c1])).map Value.int) (.int 0)
set_option maxRecDepth 65536 in
set_option maxHeartbeats 40000000 in
theorem rmexpd11 (l : Launch) (Z : State) (a0 : Array Value) (hw : ∀ d ∈ tables_1, d.before a0 Z = true) (ws : List Jvm.Cond) (w0 : Int32) (w1 : Int32) (c0 : Int32) (c1 : Int32) (cz : Int32) (h0 : Heap) (n0 : Nat) (O0 : Old Z n0 h0) (hp0 : Sta Z Z.heap "java/lang/StringUTF16" "$assertionsDisabled" "Z" (.int 1)) (hp1 : Sta Z Z.heap "java/lang/StringUTF16" "HI_BYTE_SHIFT" "I" (.int 0)) (hp2 : Sta Z Z.heap "java/lang/StringUTF16" "LO_BYTE_SHIFT" "I" (.int 8)) (hp3 : Sta Z Z.heap "java/lang/String" "COMPACT_STRINGS" "Z" (.int cz)) (hcz : (¬ (cz = (0 : Int32)))) (r_w0 : (¬ w0 < (0 : Int32) ∧ ¬ (65535 : Int32) < w0)) (r_w1 : (¬ w1 < (0 : Int32) ∧ ¬ (65535 : Int32) < w1)) (r_c0 : (¬ c0 < (0 : Int32) ∧ ¬ (65535 : Int32) < c0)) (r_c1 : (¬ c1 < (0 : Int32) ∧ ¬ (65535 : Int32) < c1)) :
    MetFree l mN53 (head1 (Jvm.Cond.code mN53 method_3_code 6 (some (.object "java/lang/String")) :: ws) ({ frames := 6, cells := 4, slots := 241, locals := 88 } : Room)) (fun as_ U => as_ = #[(.int 1), (.int 1), (.int w0), (.int w1), (.int c0), (.int c1)] ∧ Z.Warmed39 U.vm ∧ U.heap = h0) (fun _ _ _ _ _ => True) (fun _ U o U' => ∃ v L, o = .returned v ∧ Qexpd11 Z w0 w1 c0 c1 cz h0 n0 v U'.heap L ∧ FrameEnd U o U' L ({ frames := 6, cells := 4, slots := 241, locals := 88 } : Room).cells ({ frames := 6, cells := 4, slots := 241, locals := 88 } : Room).slots) := by
  refine MetFree.of_bodySF (plainFor_of_name pn_com_example_levy_levy_store_StoreExceptionUnknownPinLaw) hisR ?_
  intro p e s m args below meth c s₁ Bd hml0 hP hK
  obtain ⟨rfl, hZ, hh⟩ := hP
  have hx := Bd.exec
  have hby := Bd.bytes
  have hml : c.maxLocals = 6 := hml0
  have hown : s.vm.findClass "com/example/levy/levy/store/StoreExceptionUnknownPinLaw" = some m.cls := findClass_of_methodNamed Bd.named
  have hnm := (name_of_methodNamed Bd.named Bd.method).1
  have X0 : Stand p l e ({ frames := 6, cells := 4, slots := 241, locals := 88 } : Room) s m #[(.int 1), (.int 1), (.int w0), (.int w1), (.int c0), (.int c1)] below meth c s₁ [] 0 0 := Stand.of_body Bd
  have e0 : s₁.heap = h0 := by rw [← hh, Bd.state]; rfl
  have N0 := Fr.nil n0
  have Z0 := own_z0 O0
  have pre0 : ∀ tg_, Steps p.tables e below (s₁.setTop (mkF m 0 #[vI 1, vI 1, vI w0, vI w1, vI c0, vI c1] [])) tg_ → Steps p.tables e below (s₁.setTop (entryFrame m #[(.int 1), (.int 1), (.int w0), (.int w1), (.int c0), (.int c1)] 6)) tg_ := fun tg_ kt_ => castTop (ef_expd11 m (1 : Int32) (1 : Int32) w0 w1 c0 c1) kt_
  obtain ⟨T1, h1, X1, e1, E1, A1, D1, U1, st1⟩ := newO X0 hx hZ hown (hw _ w_0) (hw _ w_1) (hw _ w_2) e0 (g := (mkF m 457 #[vI 1, vI 1, vI w0, vI w1, vI c0, vI c1] [])) rfl (hb hby d37_457) (by decide) (by decide)
  obtain ⟨b1, g1⟩ : ∃ z, z = h0.size := ⟨_, rfl⟩
  rw [← g1] at A1 D1 U1 st1
  have Un1 : Unt h1 b1 := U1
  have sz1 : h0.size ≤ b1 := Nat.le_trans (Keep.refl h0 []).1 (Nat.le_of_eq g1.symm)
  have gn1 : n0 ≤ b1 := Nat.le_trans Z0 sz1
  have O1 : Old Z n0 h1 := O0.ext E1
  have K1 : Keep h0 h1 [] := (Keep.refl h0 []).ext E1
  have F1_16 : Fld Z h1 b1 "java/lang/String" "value" "[B" .null := D1 (Or.inr (hw _ w_16)) (ty := (.array .byte)) (by decide)
  have F1_17 : Fld Z h1 b1 "java/lang/String" "coder" "B" (.int 0) := D1 (Or.inr (hw _ w_17)) (ty := .byte) (by decide)
  obtain ⟨T3, h3, k3, X3, e3, E3, A3, st3⟩ := newP X1 hx hZ (hw (Jvm.Cond.arrayClass (newarray.typeOf .char)) w_3) e1 (g := (mkF m 463 #[vI 1, vI 1, vI w0, vI w1, vI c0, vI c1] [(.int 37), (.ref b1), (.ref b1)])) rfl (hb hby d37_463) rfl (by decide) (cap := 37) (by decide) (by decide) (by decide) (by decide)
  obtain ⟨b3, g3⟩ : ∃ z, z = h1.size := ⟨_, rfl⟩
  rw [← g3] at A3 st3
  have sz3 : h0.size ≤ b3 := Nat.le_trans K1.1 (Nat.le_of_eq g3.symm)
  have gn3 : n0 ≤ b3 := Nat.le_trans Z0 sz3
  have O3 : Old Z n0 h3 := O1.ext E3
  have K3 : Keep h0 h3 [] := K1.ext E3
  have V3 : Arv Z h3 b3 k3 .char (37 : Int32) [(.int 0), (.int 0), (.int 0), (.int 0), (.int 0), (.int 0), (.int 0), (.int 0), (.int 0), (.int 0), (.int 0), (.int 0), (.int 0), (.int 0), (.int 0), (.int 0), (.int 0), (.int 0), (.int 0), (.int 0), (.int 0), (.int 0), (.int 0), (.int 0), (.int 0), (.int 0), (.int 0), (.int 0), (.int 0), (.int 0), (.int 0), (.int 0), (.int 0), (.int 0), (.int 0), (.int 0), (.int 0)] (.int 0) := (Arv.new A3 (by decide)).pad (pad_rep [] (.int 0) 37)
  have Vr5 : Arv Z h3 b3 k3 .char (37 : Int32) (((own_xs [w0, w1] [c0, c1]).take 0).map Value.int) (.int 0) := by
    have q := V3
    exact q.pad (fun i => (pad_rep [] _ 37 i).symm)
  obtain ⟨T6, h6, L6, X6, e6, W6, N6, O6, K6, V6, st6⟩ := own_stx (i := 0) X3 hx hZ e3 Vr5 N0 O3 K3 sz3 Z0 rfl ⟨by decide, by decide⟩ (own_l11 (w0 := w0) (w1 := w1) (c0 := c0) (c1 := c1) (by decide)) (by decide : nar .char (116 : Int32) = (116 : Int32)) (g := (mkF m 469 #[vI 1, vI 1, vI w0, vI w1, vI c0, vI c1] [(.int 116), (.int 0), (.ref b3), (.ref b3), (.ref b1), (.ref b1)])) rfl rfl (hb hby d37_469)
  obtain ⟨T7, h7, L7, X7, e7, W7, N7, O7, K7, V7, st7⟩ := own_stx (i := 1) X6 hx hZ e6 V6 N6 O6 K6 sz3 Z0 rfl ⟨by decide, by decide⟩ (own_l11 (w0 := w0) (w1 := w1) (c0 := c0) (c1 := c1) (by decide)) (by decide : nar .char (104 : Int32) = (104 : Int32)) (g := (mkF m 474 #[vI 1, vI 1, vI w0, vI w1, vI c0, vI c1] [(.int 104), (.int 1), (.ref b3), (.ref b3), (.ref b1), (.ref b1)])) rfl rfl (hb hby d37_474)
  obtain ⟨T8, h8, L8, X8, e8, W8, N8, O8, K8, V8, st8⟩ := own_stx (i := 2) X7 hx hZ e7 V7 N7 O7 K7 sz3 Z0 rfl ⟨by decide, by decide⟩ (own_l11 (w0 := w0) (w1 := w1) (c0 := c0) (c1 := c1) (by decide)) (by decide : nar .char (101 : Int32) = (101 : Int32)) (g := (mkF m 479 #[vI 1, vI 1, vI w0, vI w1, vI c0, vI c1] [(.int 101), (.int 2), (.ref b3), (.ref b3), (.ref b1), (.ref b1)])) rfl rfl (hb hby d37_479)
  obtain ⟨T9, h9, L9, X9, e9, W9, N9, O9, K9, V9, st9⟩ := own_stx (i := 3) X8 hx hZ e8 V8 N8 O8 K8 sz3 Z0 rfl ⟨by decide, by decide⟩ (own_l11 (w0 := w0) (w1 := w1) (c0 := c0) (c1 := c1) (by decide)) (by decide : nar .char (32 : Int32) = (32 : Int32)) (g := (mkF m 484 #[vI 1, vI 1, vI w0, vI w1, vI c0, vI c1] [(.int 32), (.int 3), (.ref b3), (.ref b3), (.ref b1), (.ref b1)])) rfl rfl (hb hby d37_484)
  obtain ⟨T10, h10, L10, X10, e10, W10, N10, O10, K10, V10, st10⟩ := own_stx (i := 4) X9 hx hZ e9 V9 N9 O9 K9 sz3 Z0 rfl ⟨by decide, by decide⟩ (own_l11 (w0 := w0) (w1 := w1) (c0 := c0) (c1 := c1) (by decide)) (by decide : nar .char (100 : Int32) = (100 : Int32)) (g := (mkF m 489 #[vI 1, vI 1, vI w0, vI w1, vI c0, vI c1] [(.int 100), (.int 4), (.ref b3), (.ref b3), (.ref b1), (.ref b1)])) rfl rfl (hb hby d37_489)
  obtain ⟨T11, h11, L11, X11, e11, W11, N11, O11, K11, V11, st11⟩ := own_stx (i := 5) X10 hx hZ e10 V10 N10 O10 K10 sz3 Z0 rfl ⟨by decide, by decide⟩ (own_l11 (w0 := w0) (w1 := w1) (c0 := c0) (c1 := c1) (by decide)) (by decide : nar .char (97 : Int32) = (97 : Int32)) (g := (mkF m 494 #[vI 1, vI 1, vI w0, vI w1, vI c0, vI c1] [(.int 97), (.int 5), (.ref b3), (.ref b3), (.ref b1), (.ref b1)])) rfl rfl (hb hby d37_494)
  obtain ⟨T12, h12, L12, X12, e12, W12, N12, O12, K12, V12, st12⟩ := own_stx (i := 6) X11 hx hZ e11 V11 N11 O11 K11 sz3 Z0 rfl ⟨by decide, by decide⟩ (own_l11 (w0 := w0) (w1 := w1) (c0 := c0) (c1 := c1) (by decide)) (by decide : nar .char (116 : Int32) = (116 : Int32)) (g := (mkF m 500 #[vI 1, vI 1, vI w0, vI w1, vI c0, vI c1] [(.int 116), (.int 6), (.ref b3), (.ref b3), (.ref b1), (.ref b1)])) rfl rfl (hb hby d37_500)
  obtain ⟨T13, h13, L13, X13, e13, W13, N13, O13, K13, V13, st13⟩ := own_stx (i := 7) X12 hx hZ e12 V12 N12 O12 K12 sz3 Z0 rfl ⟨by decide, by decide⟩ (own_l11 (w0 := w0) (w1 := w1) (c0 := c0) (c1 := c1) (by decide)) (by decide : nar .char (97 : Int32) = (97 : Int32)) (g := (mkF m 506 #[vI 1, vI 1, vI w0, vI w1, vI c0, vI c1] [(.int 97), (.int 7), (.ref b3), (.ref b3), (.ref b1), (.ref b1)])) rfl rfl (hb hby d37_506)
  obtain ⟨T14, h14, L14, X14, e14, W14, N14, O14, K14, V14, st14⟩ := own_stx (i := 8) X13 hx hZ e13 V13 N13 O13 K13 sz3 Z0 rfl ⟨by decide, by decide⟩ (own_l11 (w0 := w0) (w1 := w1) (c0 := c0) (c1 := c1) (by decide)) (by decide : nar .char (32 : Int32) = (32 : Int32)) (g := (mkF m 512 #[vI 1, vI 1, vI w0, vI w1, vI c0, vI c1] [(.int 32), (.int 8), (.ref b3), (.ref b3), (.ref b1), (.ref b1)])) rfl rfl (hb hby d37_512)
  obtain ⟨T15, h15, L15, X15, e15, W15, N15, O15, K15, V15, st15⟩ := own_stx (i := 9) X14 hx hZ e14 V14 N14 O14 K14 sz3 Z0 rfl ⟨by decide, by decide⟩ (own_l11 (w0 := w0) (w1 := w1) (c0 := c0) (c1 := c1) (by decide)) (by decide : nar .char (102 : Int32) = (102 : Int32)) (g := (mkF m 518 #[vI 1, vI 1, vI w0, vI w1, vI c0, vI c1] [(.int 102), (.int 9), (.ref b3), (.ref b3), (.ref b1), (.ref b1)])) rfl rfl (hb hby d37_518)
  obtain ⟨T16, h16, L16, X16, e16, W16, N16, O16, K16, V16, st16⟩ := own_stx (i := 10) X15 hx hZ e15 V15 N15 O15 K15 sz3 Z0 rfl ⟨by decide, by decide⟩ (own_l11 (w0 := w0) (w1 := w1) (c0 := c0) (c1 := c1) (by decide)) (by decide : nar .char (105 : Int32) = (105 : Int32)) (g := (mkF m 524 #[vI 1, vI 1, vI w0, vI w1, vI c0, vI c1] [(.int 105), (.int 10), (.ref b3), (.ref b3), (.ref b1), (.ref b1)])) rfl rfl (hb hby d37_524)
  obtain ⟨T17, h17, L17, X17, e17, W17, N17, O17, K17, V17, st17⟩ := own_stx (i := 11) X16 hx hZ e16 V16 N16 O16 K16 sz3 Z0 rfl ⟨by decide, by decide⟩ (own_l11 (w0 := w0) (w1 := w1) (c0 := c0) (c1 := c1) (by decide)) (by decide : nar .char (108 : Int32) = (108 : Int32)) (g := (mkF m 530 #[vI 1, vI 1, vI w0, vI w1, vI c0, vI c1] [(.int 108), (.int 11), (.ref b3), (.ref b3), (.ref b1), (.ref b1)])) rfl rfl (hb hby d37_530)
  obtain ⟨T18, h18, L18, X18, e18, W18, N18, O18, K18, V18, st18⟩ := own_stx (i := 12) X17 hx hZ e17 V17 N17 O17 K17 sz3 Z0 rfl ⟨by decide, by decide⟩ (own_l11 (w0 := w0) (w1 := w1) (c0 := c0) (c1 := c1) (by decide)) (by decide : nar .char (101 : Int32) = (101 : Int32)) (g := (mkF m 536 #[vI 1, vI 1, vI w0, vI w1, vI c0, vI c1] [(.int 101), (.int 12), (.ref b3), (.ref b3), (.ref b1), (.ref b1)])) rfl rfl (hb hby d37_536)
  obtain ⟨T19, h19, L19, X19, e19, W19, N19, O19, K19, V19, st19⟩ := own_stx (i := 13) X18 hx hZ e18 V18 N18 O18 K18 sz3 Z0 rfl ⟨by decide, by decide⟩ (own_l11 (w0 := w0) (w1 := w1) (c0 := c0) (c1 := c1) (by decide)) (by decide : nar .char (32 : Int32) = (32 : Int32)) (g := (mkF m 542 #[vI 1, vI 1, vI w0, vI w1, vI c0, vI c1] [(.int 32), (.int 13), (.ref b3), (.ref b3), (.ref b1), (.ref b1)])) rfl rfl (hb hby d37_542)
  obtain ⟨T20, h20, L20, X20, e20, W20, N20, O20, K20, V20, st20⟩ := own_stx (i := 14) X19 hx hZ e19 V19 N19 O19 K19 sz3 Z0 rfl ⟨by decide, by decide⟩ (own_l11 (w0 := w0) (w1 := w1) (c0 := c0) (c1 := c1) (by decide)) (by decide : nar .char (104 : Int32) = (104 : Int32)) (g := (mkF m 548 #[vI 1, vI 1, vI w0, vI w1, vI c0, vI c1] [(.int 104), (.int 14), (.ref b3), (.ref b3), (.ref b1), (.ref b1)])) rfl rfl (hb hby d37_548)
  obtain ⟨T21, h21, L21, X21, e21, W21, N21, O21, K21, V21, st21⟩ := own_stx (i := 15) X20 hx hZ e20 V20 N20 O20 K20 sz3 Z0 rfl ⟨by decide, by decide⟩ (own_l11 (w0 := w0) (w1 := w1) (c0 := c0) (c1 := c1) (by decide)) (by decide : nar .char (111 : Int32) = (111 : Int32)) (g := (mkF m 554 #[vI 1, vI 1, vI w0, vI w1, vI c0, vI c1] [(.int 111), (.int 15), (.ref b3), (.ref b3), (.ref b1), (.ref b1)])) rfl rfl (hb hby d37_554)
  obtain ⟨T22, h22, L22, X22, e22, W22, N22, O22, K22, V22, st22⟩ := own_stx (i := 16) X21 hx hZ e21 V21 N21 O21 K21 sz3 Z0 rfl ⟨by decide, by decide⟩ (own_l11 (w0 := w0) (w1 := w1) (c0 := c0) (c1 := c1) (by decide)) (by decide : nar .char (108 : Int32) = (108 : Int32)) (g := (mkF m 560 #[vI 1, vI 1, vI w0, vI w1, vI c0, vI c1] [(.int 108), (.int 16), (.ref b3), (.ref b3), (.ref b1), (.ref b1)])) rfl rfl (hb hby d37_560)
  obtain ⟨T23, h23, L23, X23, e23, W23, N23, O23, K23, V23, st23⟩ := own_stx (i := 17) X22 hx hZ e22 V22 N22 O22 K22 sz3 Z0 rfl ⟨by decide, by decide⟩ (own_l11 (w0 := w0) (w1 := w1) (c0 := c0) (c1 := c1) (by decide)) (by decide : nar .char (100 : Int32) = (100 : Int32)) (g := (mkF m 566 #[vI 1, vI 1, vI w0, vI w1, vI c0, vI c1] [(.int 100), (.int 17), (.ref b3), (.ref b3), (.ref b1), (.ref b1)])) rfl rfl (hb hby d37_566)
  obtain ⟨T24, h24, L24, X24, e24, W24, N24, O24, K24, V24, st24⟩ := own_stx (i := 18) X23 hx hZ e23 V23 N23 O23 K23 sz3 Z0 rfl ⟨by decide, by decide⟩ (own_l11 (w0 := w0) (w1 := w1) (c0 := c0) (c1 := c1) (by decide)) (by decide : nar .char (115 : Int32) = (115 : Int32)) (g := (mkF m 572 #[vI 1, vI 1, vI w0, vI w1, vI c0, vI c1] [(.int 115), (.int 18), (.ref b3), (.ref b3), (.ref b1), (.ref b1)])) rfl rfl (hb hby d37_572)
  obtain ⟨T25, h25, L25, X25, e25, W25, N25, O25, K25, V25, st25⟩ := own_stx (i := 19) X24 hx hZ e24 V24 N24 O24 K24 sz3 Z0 rfl ⟨by decide, by decide⟩ (own_l11 (w0 := w0) (w1 := w1) (c0 := c0) (c1 := c1) (by decide)) (by decide : nar .char (32 : Int32) = (32 : Int32)) (g := (mkF m 578 #[vI 1, vI 1, vI w0, vI w1, vI c0, vI c1] [(.int 32), (.int 19), (.ref b3), (.ref b3), (.ref b1), (.ref b1)])) rfl rfl (hb hby d37_578)
  obtain ⟨T26, h26, L26, X26, e26, W26, N26, O26, K26, V26, st26⟩ := own_stx (i := 20) X25 hx hZ e25 V25 N25 O25 K25 sz3 Z0 rfl ⟨by decide, by decide⟩ (own_l11 (w0 := w0) (w1 := w1) (c0 := c0) (c1 := c1) (by decide)) (by decide : nar .char (97 : Int32) = (97 : Int32)) (g := (mkF m 584 #[vI 1, vI 1, vI w0, vI w1, vI c0, vI c1] [(.int 97), (.int 20), (.ref b3), (.ref b3), (.ref b1), (.ref b1)])) rfl rfl (hb hby d37_584)
  obtain ⟨T27, h27, L27, X27, e27, W27, N27, O27, K27, V27, st27⟩ := own_stx (i := 21) X26 hx hZ e26 V26 N26 O26 K26 sz3 Z0 rfl ⟨by decide, by decide⟩ (own_l11 (w0 := w0) (w1 := w1) (c0 := c0) (c1 := c1) (by decide)) (by decide : nar .char (110 : Int32) = (110 : Int32)) (g := (mkF m 590 #[vI 1, vI 1, vI w0, vI w1, vI c0, vI c1] [(.int 110), (.int 21), (.ref b3), (.ref b3), (.ref b1), (.ref b1)])) rfl rfl (hb hby d37_590)
  obtain ⟨T28, h28, L28, X28, e28, W28, N28, O28, K28, V28, st28⟩ := own_stx (i := 22) X27 hx hZ e27 V27 N27 O27 K27 sz3 Z0 rfl ⟨by decide, by decide⟩ (own_l11 (w0 := w0) (w1 := w1) (c0 := c0) (c1 := c1) (by decide)) (by decide : nar .char (32 : Int32) = (32 : Int32)) (g := (mkF m 596 #[vI 1, vI 1, vI w0, vI w1, vI c0, vI c1] [(.int 32), (.int 22), (.ref b3), (.ref b3), (.ref b1), (.ref b1)])) rfl rfl (hb hby d37_596)
  obtain ⟨T29, h29, L29, X29, e29, W29, N29, O29, K29, V29, st29⟩ := own_stx (i := 23) X28 hx hZ e28 V28 N28 O28 K28 sz3 Z0 rfl ⟨by decide, by decide⟩ (own_l11 (w0 := w0) (w1 := w1) (c0 := c0) (c1 := c1) (by decide)) (by decide : nar .char (117 : Int32) = (117 : Int32)) (g := (mkF m 602 #[vI 1, vI 1, vI w0, vI w1, vI c0, vI c1] [(.int 117), (.int 23), (.ref b3), (.ref b3), (.ref b1), (.ref b1)])) rfl rfl (hb hby d37_602)
  obtain ⟨T30, h30, L30, X30, e30, W30, N30, O30, K30, V30, st30⟩ := own_stx (i := 24) X29 hx hZ e29 V29 N29 O29 K29 sz3 Z0 rfl ⟨by decide, by decide⟩ (own_l11 (w0 := w0) (w1 := w1) (c0 := c0) (c1 := c1) (by decide)) (by decide : nar .char (110 : Int32) = (110 : Int32)) (g := (mkF m 608 #[vI 1, vI 1, vI w0, vI w1, vI c0, vI c1] [(.int 110), (.int 24), (.ref b3), (.ref b3), (.ref b1), (.ref b1)])) rfl rfl (hb hby d37_608)
  obtain ⟨T31, h31, L31, X31, e31, W31, N31, O31, K31, V31, st31⟩ := own_stx (i := 25) X30 hx hZ e30 V30 N30 O30 K30 sz3 Z0 rfl ⟨by decide, by decide⟩ (own_l11 (w0 := w0) (w1 := w1) (c0 := c0) (c1 := c1) (by decide)) (by decide : nar .char (107 : Int32) = (107 : Int32)) (g := (mkF m 614 #[vI 1, vI 1, vI w0, vI w1, vI c0, vI c1] [(.int 107), (.int 25), (.ref b3), (.ref b3), (.ref b1), (.ref b1)])) rfl rfl (hb hby d37_614)
  obtain ⟨T32, h32, L32, X32, e32, W32, N32, O32, K32, V32, st32⟩ := own_stx (i := 26) X31 hx hZ e31 V31 N31 O31 K31 sz3 Z0 rfl ⟨by decide, by decide⟩ (own_l11 (w0 := w0) (w1 := w1) (c0 := c0) (c1 := c1) (by decide)) (by decide : nar .char (110 : Int32) = (110 : Int32)) (g := (mkF m 620 #[vI 1, vI 1, vI w0, vI w1, vI c0, vI c1] [(.int 110), (.int 26), (.ref b3), (.ref b3), (.ref b1), (.ref b1)])) rfl rfl (hb hby d37_620)
  obtain ⟨T33, h33, L33, X33, e33, W33, N33, O33, K33, V33, st33⟩ := own_stx (i := 27) X32 hx hZ e32 V32 N32 O32 K32 sz3 Z0 rfl ⟨by decide, by decide⟩ (own_l11 (w0 := w0) (w1 := w1) (c0 := c0) (c1 := c1) (by decide)) (by decide : nar .char (111 : Int32) = (111 : Int32)) (g := (mkF m 626 #[vI 1, vI 1, vI w0, vI w1, vI c0, vI c1] [(.int 111), (.int 27), (.ref b3), (.ref b3), (.ref b1), (.ref b1)])) rfl rfl (hb hby d37_626)
  obtain ⟨T34, h34, L34, X34, e34, W34, N34, O34, K34, V34, st34⟩ := own_stx (i := 28) X33 hx hZ e33 V33 N33 O33 K33 sz3 Z0 rfl ⟨by decide, by decide⟩ (own_l11 (w0 := w0) (w1 := w1) (c0 := c0) (c1 := c1) (by decide)) (by decide : nar .char (119 : Int32) = (119 : Int32)) (g := (mkF m 632 #[vI 1, vI 1, vI w0, vI w1, vI c0, vI c1] [(.int 119), (.int 28), (.ref b3), (.ref b3), (.ref b1), (.ref b1)])) rfl rfl (hb hby d37_632)
  obtain ⟨T35, h35, L35, X35, e35, W35, N35, O35, K35, V35, st35⟩ := own_stx (i := 29) X34 hx hZ e34 V34 N34 O34 K34 sz3 Z0 rfl ⟨by decide, by decide⟩ (own_l11 (w0 := w0) (w1 := w1) (c0 := c0) (c1 := c1) (by decide)) (by decide : nar .char (110 : Int32) = (110 : Int32)) (g := (mkF m 638 #[vI 1, vI 1, vI w0, vI w1, vI c0, vI c1] [(.int 110), (.int 29), (.ref b3), (.ref b3), (.ref b1), (.ref b1)])) rfl rfl (hb hby d37_638)
  obtain ⟨T36, h36, L36, X36, e36, W36, N36, O36, K36, V36, st36⟩ := own_stx (i := 30) X35 hx hZ e35 V35 N35 O35 K35 sz3 Z0 rfl ⟨by decide, by decide⟩ (own_l11 (w0 := w0) (w1 := w1) (c0 := c0) (c1 := c1) (by decide)) (by decide : nar .char (32 : Int32) = (32 : Int32)) (g := (mkF m 644 #[vI 1, vI 1, vI w0, vI w1, vI c0, vI c1] [(.int 32), (.int 30), (.ref b3), (.ref b3), (.ref b1), (.ref b1)])) rfl rfl (hb hby d37_644)
  obtain ⟨T37, h37, L37, X37, e37, W37, N37, O37, K37, V37, st37⟩ := own_stx (i := 31) X36 hx hZ e36 V36 N36 O36 K36 sz3 Z0 rfl ⟨by decide, by decide⟩ (own_l11 (w0 := w0) (w1 := w1) (c0 := c0) (c1 := c1) (by decide)) (own_narc r_w0) (g := (mkF m 649 #[vI 1, vI 1, vI w0, vI w1, vI c0, vI c1] [(.int w0), (.int 31), (.ref b3), (.ref b3), (.ref b1), (.ref b1)])) rfl rfl (hb hby d37_649)
  obtain ⟨T38, h38, L38, X38, e38, W38, N38, O38, K38, V38, st38⟩ := own_stx (i := 32) X37 hx hZ e37 V37 N37 O37 K37 sz3 Z0 rfl ⟨by decide, by decide⟩ (own_l11 (w0 := w0) (w1 := w1) (c0 := c0) (c1 := c1) (by decide)) (own_narc r_w1) (g := (mkF m 654 #[vI 1, vI 1, vI w0, vI w1, vI c0, vI c1] [(.int w1), (.int 32), (.ref b3), (.ref b3), (.ref b1), (.ref b1)])) rfl rfl (hb hby d37_654)
  obtain ⟨T39, h39, L39, X39, e39, W39, N39, O39, K39, V39, st39⟩ := own_stx (i := 33) X38 hx hZ e38 V38 N38 O38 K38 sz3 Z0 rfl ⟨by decide, by decide⟩ (own_l11 (w0 := w0) (w1 := w1) (c0 := c0) (c1 := c1) (by decide)) (by decide : nar .char (58 : Int32) = (58 : Int32)) (g := (mkF m 660 #[vI 1, vI 1, vI w0, vI w1, vI c0, vI c1] [(.int 58), (.int 33), (.ref b3), (.ref b3), (.ref b1), (.ref b1)])) rfl rfl (hb hby d37_660)
  obtain ⟨T40, h40, L40, X40, e40, W40, N40, O40, K40, V40, st40⟩ := own_stx (i := 34) X39 hx hZ e39 V39 N39 O39 K39 sz3 Z0 rfl ⟨by decide, by decide⟩ (own_l11 (w0 := w0) (w1 := w1) (c0 := c0) (c1 := c1) (by decide)) (by decide : nar .char (32 : Int32) = (32 : Int32)) (g := (mkF m 666 #[vI 1, vI 1, vI w0, vI w1, vI c0, vI c1] [(.int 32), (.int 34), (.ref b3), (.ref b3), (.ref b1), (.ref b1)])) rfl rfl (hb hby d37_666)
  obtain ⟨T41, h41, L41, X41, e41, W41, N41, O41, K41, V41, st41⟩ := own_stx (i := 35) X40 hx hZ e40 V40 N40 O40 K40 sz3 Z0 rfl ⟨by decide, by decide⟩ (own_l11 (w0 := w0) (w1 := w1) (c0 := c0) (c1 := c1) (by decide)) (own_narc r_c0) (g := (mkF m 672 #[vI 1, vI 1, vI w0, vI w1, vI c0, vI c1] [(.int c0), (.int 35), (.ref b3), (.ref b3), (.ref b1), (.ref b1)])) rfl rfl (hb hby d37_672)
  obtain ⟨T42, h42, L42, X42, e42, W42, N42, O42, K42, V42, st42⟩ := own_stx (i := 36) X41 hx hZ e41 V41 N41 O41 K41 sz3 Z0 rfl ⟨by decide, by decide⟩ (own_l11 (w0 := w0) (w1 := w1) (c0 := c0) (c1 := c1) (by decide)) (own_narc r_c1) (g := (mkF m 678 #[vI 1, vI 1, vI w0, vI w1, vI c0, vI c1] [(.int c1), (.int 36), (.ref b3), (.ref b3), (.ref b1), (.ref b1)])) rfl rfl (hb hby d37_678)
  have Vr43 : Arv Z h42 b3 k3 .char (37 : Int32) ((own_xs [w0, w1] [c0, c1]).map Value.int) (.int 0) := by
    have q := V42
    rw [show (own_xs [w0, w1] [c0, c1]).take (36 + 1) = (own_xs [w0, w1] [c0, c1]) from List.take_of_length_le (by show 37 ≤ 37; decide)] at q; exact q
  obtain ⟨_, _, ⟨T44, L44, k44, n44⟩, -, X44, ⟨Lc44, hQ44, l44, y44, z44⟩, st44⟩ := X42.specialBack hx (y := mN13) rfl hown (mvT hZ (hw _ w_4)) (mvT hZ (hw _ w_5)) (mvT hZ (hw _ w_6)) (by decide) (backOf (W := 1) (rmstrC1 l Z a0 hw [] b1 b3 .null (.int 0) 37 k3 (own_xs [w0, w1] [c0, c1]) cz h42 n0 O42 ((((((((((((((((((((((((((((((((((((((A1.ext E3).wr W6).wr W7).wr W8).wr W9).wr W10).wr W11).wr W12).wr W13).wr W14).wr W15).wr W16).wr W17).wr W18).wr W19).wr W20).wr W21).wr W22).wr W23).wr W24).wr W25).wr W26).wr W27).wr W28).wr W29).wr W30).wr W31).wr W32).wr W33).wr W34).wr W35).wr W36).wr W37).wr W38).wr W39).wr W40).wr W41).wr W42) gn1 ((((((((((((((((((((((((((((((((((((((F1_16.ext E3).other W6 (Or.inl (Nat.ne_of_lt (Nat.lt_of_lt_of_le A1.lt (Nat.le_of_eq g3.symm))))).other W7 (Or.inl (Nat.ne_of_lt (Nat.lt_of_lt_of_le A1.lt (Nat.le_of_eq g3.symm))))).other W8 (Or.inl (Nat.ne_of_lt (Nat.lt_of_lt_of_le A1.lt (Nat.le_of_eq g3.symm))))).other W9 (Or.inl (Nat.ne_of_lt (Nat.lt_of_lt_of_le A1.lt (Nat.le_of_eq g3.symm))))).other W10 (Or.inl (Nat.ne_of_lt (Nat.lt_of_lt_of_le A1.lt (Nat.le_of_eq g3.symm))))).other W11 (Or.inl (Nat.ne_of_lt (Nat.lt_of_lt_of_le A1.lt (Nat.le_of_eq g3.symm))))).other W12 (Or.inl (Nat.ne_of_lt (Nat.lt_of_lt_of_le A1.lt (Nat.le_of_eq g3.symm))))).other W13 (Or.inl (Nat.ne_of_lt (Nat.lt_of_lt_of_le A1.lt (Nat.le_of_eq g3.symm))))).other W14 (Or.inl (Nat.ne_of_lt (Nat.lt_of_lt_of_le A1.lt (Nat.le_of_eq g3.symm))))).other W15 (Or.inl (Nat.ne_of_lt (Nat.lt_of_lt_of_le A1.lt (Nat.le_of_eq g3.symm))))).other W16 (Or.inl (Nat.ne_of_lt (Nat.lt_of_lt_of_le A1.lt (Nat.le_of_eq g3.symm))))).other W17 (Or.inl (Nat.ne_of_lt (Nat.lt_of_lt_of_le A1.lt (Nat.le_of_eq g3.symm))))).other W18 (Or.inl (Nat.ne_of_lt (Nat.lt_of_lt_of_le A1.lt (Nat.le_of_eq g3.symm))))).other W19 (Or.inl (Nat.ne_of_lt (Nat.lt_of_lt_of_le A1.lt (Nat.le_of_eq g3.symm))))).other W20 (Or.inl (Nat.ne_of_lt (Nat.lt_of_lt_of_le A1.lt (Nat.le_of_eq g3.symm))))).other W21 (Or.inl (Nat.ne_of_lt (Nat.lt_of_lt_of_le A1.lt (Nat.le_of_eq g3.symm))))).other W22 (Or.inl (Nat.ne_of_lt (Nat.lt_of_lt_of_le A1.lt (Nat.le_of_eq g3.symm))))).other W23 (Or.inl (Nat.ne_of_lt (Nat.lt_of_lt_of_le A1.lt (Nat.le_of_eq g3.symm))))).other W24 (Or.inl (Nat.ne_of_lt (Nat.lt_of_lt_of_le A1.lt (Nat.le_of_eq g3.symm))))).other W25 (Or.inl (Nat.ne_of_lt (Nat.lt_of_lt_of_le A1.lt (Nat.le_of_eq g3.symm))))).other W26 (Or.inl (Nat.ne_of_lt (Nat.lt_of_lt_of_le A1.lt (Nat.le_of_eq g3.symm))))).other W27 (Or.inl (Nat.ne_of_lt (Nat.lt_of_lt_of_le A1.lt (Nat.le_of_eq g3.symm))))).other W28 (Or.inl (Nat.ne_of_lt (Nat.lt_of_lt_of_le A1.lt (Nat.le_of_eq g3.symm))))).other W29 (Or.inl (Nat.ne_of_lt (Nat.lt_of_lt_of_le A1.lt (Nat.le_of_eq g3.symm))))).other W30 (Or.inl (Nat.ne_of_lt (Nat.lt_of_lt_of_le A1.lt (Nat.le_of_eq g3.symm))))).other W31 (Or.inl (Nat.ne_of_lt (Nat.lt_of_lt_of_le A1.lt (Nat.le_of_eq g3.symm))))).other W32 (Or.inl (Nat.ne_of_lt (Nat.lt_of_lt_of_le A1.lt (Nat.le_of_eq g3.symm))))).other W33 (Or.inl (Nat.ne_of_lt (Nat.lt_of_lt_of_le A1.lt (Nat.le_of_eq g3.symm))))).other W34 (Or.inl (Nat.ne_of_lt (Nat.lt_of_lt_of_le A1.lt (Nat.le_of_eq g3.symm))))).other W35 (Or.inl (Nat.ne_of_lt (Nat.lt_of_lt_of_le A1.lt (Nat.le_of_eq g3.symm))))).other W36 (Or.inl (Nat.ne_of_lt (Nat.lt_of_lt_of_le A1.lt (Nat.le_of_eq g3.symm))))).other W37 (Or.inl (Nat.ne_of_lt (Nat.lt_of_lt_of_le A1.lt (Nat.le_of_eq g3.symm))))).other W38 (Or.inl (Nat.ne_of_lt (Nat.lt_of_lt_of_le A1.lt (Nat.le_of_eq g3.symm))))).other W39 (Or.inl (Nat.ne_of_lt (Nat.lt_of_lt_of_le A1.lt (Nat.le_of_eq g3.symm))))).other W40 (Or.inl (Nat.ne_of_lt (Nat.lt_of_lt_of_le A1.lt (Nat.le_of_eq g3.symm))))).other W41 (Or.inl (Nat.ne_of_lt (Nat.lt_of_lt_of_le A1.lt (Nat.le_of_eq g3.symm))))).other W42 (Or.inl (Nat.ne_of_lt (Nat.lt_of_lt_of_le A1.lt (Nat.le_of_eq g3.symm))))) ((((((((((((((((((((((((((((((((((((((F1_17.ext E3).other W6 (Or.inl (Nat.ne_of_lt (Nat.lt_of_lt_of_le A1.lt (Nat.le_of_eq g3.symm))))).other W7 (Or.inl (Nat.ne_of_lt (Nat.lt_of_lt_of_le A1.lt (Nat.le_of_eq g3.symm))))).other W8 (Or.inl (Nat.ne_of_lt (Nat.lt_of_lt_of_le A1.lt (Nat.le_of_eq g3.symm))))).other W9 (Or.inl (Nat.ne_of_lt (Nat.lt_of_lt_of_le A1.lt (Nat.le_of_eq g3.symm))))).other W10 (Or.inl (Nat.ne_of_lt (Nat.lt_of_lt_of_le A1.lt (Nat.le_of_eq g3.symm))))).other W11 (Or.inl (Nat.ne_of_lt (Nat.lt_of_lt_of_le A1.lt (Nat.le_of_eq g3.symm))))).other W12 (Or.inl (Nat.ne_of_lt (Nat.lt_of_lt_of_le A1.lt (Nat.le_of_eq g3.symm))))).other W13 (Or.inl (Nat.ne_of_lt (Nat.lt_of_lt_of_le A1.lt (Nat.le_of_eq g3.symm))))).other W14 (Or.inl (Nat.ne_of_lt (Nat.lt_of_lt_of_le A1.lt (Nat.le_of_eq g3.symm))))).other W15 (Or.inl (Nat.ne_of_lt (Nat.lt_of_lt_of_le A1.lt (Nat.le_of_eq g3.symm))))).other W16 (Or.inl (Nat.ne_of_lt (Nat.lt_of_lt_of_le A1.lt (Nat.le_of_eq g3.symm))))).other W17 (Or.inl (Nat.ne_of_lt (Nat.lt_of_lt_of_le A1.lt (Nat.le_of_eq g3.symm))))).other W18 (Or.inl (Nat.ne_of_lt (Nat.lt_of_lt_of_le A1.lt (Nat.le_of_eq g3.symm))))).other W19 (Or.inl (Nat.ne_of_lt (Nat.lt_of_lt_of_le A1.lt (Nat.le_of_eq g3.symm))))).other W20 (Or.inl (Nat.ne_of_lt (Nat.lt_of_lt_of_le A1.lt (Nat.le_of_eq g3.symm))))).other W21 (Or.inl (Nat.ne_of_lt (Nat.lt_of_lt_of_le A1.lt (Nat.le_of_eq g3.symm))))).other W22 (Or.inl (Nat.ne_of_lt (Nat.lt_of_lt_of_le A1.lt (Nat.le_of_eq g3.symm))))).other W23 (Or.inl (Nat.ne_of_lt (Nat.lt_of_lt_of_le A1.lt (Nat.le_of_eq g3.symm))))).other W24 (Or.inl (Nat.ne_of_lt (Nat.lt_of_lt_of_le A1.lt (Nat.le_of_eq g3.symm))))).other W25 (Or.inl (Nat.ne_of_lt (Nat.lt_of_lt_of_le A1.lt (Nat.le_of_eq g3.symm))))).other W26 (Or.inl (Nat.ne_of_lt (Nat.lt_of_lt_of_le A1.lt (Nat.le_of_eq g3.symm))))).other W27 (Or.inl (Nat.ne_of_lt (Nat.lt_of_lt_of_le A1.lt (Nat.le_of_eq g3.symm))))).other W28 (Or.inl (Nat.ne_of_lt (Nat.lt_of_lt_of_le A1.lt (Nat.le_of_eq g3.symm))))).other W29 (Or.inl (Nat.ne_of_lt (Nat.lt_of_lt_of_le A1.lt (Nat.le_of_eq g3.symm))))).other W30 (Or.inl (Nat.ne_of_lt (Nat.lt_of_lt_of_le A1.lt (Nat.le_of_eq g3.symm))))).other W31 (Or.inl (Nat.ne_of_lt (Nat.lt_of_lt_of_le A1.lt (Nat.le_of_eq g3.symm))))).other W32 (Or.inl (Nat.ne_of_lt (Nat.lt_of_lt_of_le A1.lt (Nat.le_of_eq g3.symm))))).other W33 (Or.inl (Nat.ne_of_lt (Nat.lt_of_lt_of_le A1.lt (Nat.le_of_eq g3.symm))))).other W34 (Or.inl (Nat.ne_of_lt (Nat.lt_of_lt_of_le A1.lt (Nat.le_of_eq g3.symm))))).other W35 (Or.inl (Nat.ne_of_lt (Nat.lt_of_lt_of_le A1.lt (Nat.le_of_eq g3.symm))))).other W36 (Or.inl (Nat.ne_of_lt (Nat.lt_of_lt_of_le A1.lt (Nat.le_of_eq g3.symm))))).other W37 (Or.inl (Nat.ne_of_lt (Nat.lt_of_lt_of_le A1.lt (Nat.le_of_eq g3.symm))))).other W38 (Or.inl (Nat.ne_of_lt (Nat.lt_of_lt_of_le A1.lt (Nat.le_of_eq g3.symm))))).other W39 (Or.inl (Nat.ne_of_lt (Nat.lt_of_lt_of_le A1.lt (Nat.le_of_eq g3.symm))))).other W40 (Or.inl (Nat.ne_of_lt (Nat.lt_of_lt_of_le A1.lt (Nat.le_of_eq g3.symm))))).other W41 (Or.inl (Nat.ne_of_lt (Nat.lt_of_lt_of_le A1.lt (Nat.le_of_eq g3.symm))))).other W42 (Or.inl (Nat.ne_of_lt (Nat.lt_of_lt_of_le A1.lt (Nat.le_of_eq g3.symm))))) Vr43 (by decide) (by decide) rfl (own_chx (own_ch2 r_w0 r_w1) (own_ch2 r_c0 r_c1)) hp0 hp1 hp2 hp3 hcz) hZ (hw _ w_6) (hw _ w_2) (by decide) (by decide)) (g := (mkF m 679 #[vI 1, vI 1, vI w0, vI w1, vI c0, vI c1] [(.ref b3), (.ref b1), (.ref b1)])) rfl (by rw [hml]; rfl) (Steps.refl _) (a := b1) (argsL := [(.ref b3)]) (rest := [(.ref b1)]) (lenOf pd__AC_V rfl) rfl (by show 2 * 0 + _ ≤ _; exact Nat.le_of_eq rfl) (hb hby d37_679) (fun _ _ => ⟨rfl, e42, (by decide : 2 + 2 ≤ _), (by decide : 41 + 200 ≤ _)⟩)
  dsimp only [Pt.U, Pt.locs, Pt.cells, Pt.slots] at X44 l44 y44 z44 st44 hQ44
  subst l44 y44 z44
  obtain ⟨t_44, kt_44, rfl, N44q, Kc44, r44_1, r44_2, r44_3, r44_4, r44_5⟩ := hQ44
  have N44 := Fr.app N42 N44q
  have sz45 : h0.size ≤ t_44 := Nat.le_trans K42.1 r44_1
  have gn45 : n0 ≤ t_44 := Nat.le_trans Z0 sz45
  have O44 : Old Z n0 T44.heap := O42.keep Kc44 (allS gn1 all0)
  have K44 : Keep h0 T44.heap [] := K42.trans Kc44 (allS (Or.inr sz1) all0)
  obtain ⟨fs, hr, hrun, hended, hW, hsame⟩ := X44.leave (v := some (.ref b1)) (fun h => by rw [Bd.returns] at h; cases h)
  refine ⟨_, _, pre0 _ ?_, hrun, hended, _, _, rfl, ?_, ⟨_, rfl⟩, hW, hsame.mono (by decide) (by decide)⟩
  · refine XS.iloadN X0.here hx rfl (hb hby d37_0) rfl ?_
    refine XS.ifYes X0.here hx rfl (pc0 := 1) (pc' := 11) rfl (hb hby d37_1) rfl ((if0 _ _).trans (feq (by decide : ¬ ((1 : Int32) = (0 : Int32)))).2) (by decide) (by decide) ?_
    refine XS.iloadN X0.here hx rfl (hb hby d37_11) rfl ?_
    refine XS.ifNo X0.here hx rfl (hb hby d37_12) rfl ((if0 _ _).trans (feq (by decide : ¬ ((1 : Int32) = (0 : Int32)))).1) ?_
    refine XS.iloadN X0.here hx rfl (hb hby d37_15) rfl ?_
    refine XS.ifYes X0.here hx rfl (pc0 := 16) (pc' := 233) rfl (hb hby d37_16) rfl ((if0 _ _).trans (feq (by decide : ¬ ((1 : Int32) = (0 : Int32)))).2) (by decide) (by decide) ?_
    refine XS.iloadN X0.here hx rfl (hb hby d37_233) rfl ?_
    refine XS.ifYes X0.here hx rfl (pc0 := 234) (pc' := 457) rfl (hb hby d37_234) rfl ((if0 _ _).trans (feq (by decide : ¬ ((1 : Int32) = (0 : Int32)))).2) (by decide) (by decide) ?_
    refine st1 _ ?_
    refine XS.dup X1.here hx rfl (hb hby d37_460) rfl rfl ?_
    refine XS.bipush X1.here hx rfl (hb hby d37_461) ?_
    show Steps _ _ _ (T1.setTop (mkF m 463 #[vI 1, vI 1, vI w0, vI w1, vI c0, vI c1] [(.int 37), (.ref b1), (.ref b1)])) _
    refine st3 _ ?_
    refine XS.dup X3.here hx rfl (hb hby d37_465) rfl rfl ?_
    refine XS.iconst X3.here hx rfl (hb hby d37_466) ?_
    refine XS.bipush X3.here hx rfl (hb hby d37_467) ?_
    refine st6 _ ?_
    refine XS.dup X6.here hx rfl (hb hby d37_470) rfl rfl ?_
    refine XS.iconst X6.here hx rfl (hb hby d37_471) ?_
    refine XS.bipush X6.here hx rfl (hb hby d37_472) ?_
    refine st7 _ ?_
    refine XS.dup X7.here hx rfl (hb hby d37_475) rfl rfl ?_
    refine XS.iconst X7.here hx rfl (hb hby d37_476) ?_
    refine XS.bipush X7.here hx rfl (hb hby d37_477) ?_
    refine st8 _ ?_
    refine XS.dup X8.here hx rfl (hb hby d37_480) rfl rfl ?_
    refine XS.iconst X8.here hx rfl (hb hby d37_481) ?_
    refine XS.bipush X8.here hx rfl (hb hby d37_482) ?_
    refine st9 _ ?_
    refine XS.dup X9.here hx rfl (hb hby d37_485) rfl rfl ?_
    refine XS.iconst X9.here hx rfl (hb hby d37_486) ?_
    refine XS.bipush X9.here hx rfl (hb hby d37_487) ?_
    refine st10 _ ?_
    refine XS.dup X10.here hx rfl (hb hby d37_490) rfl rfl ?_
    refine XS.iconst X10.here hx rfl (hb hby d37_491) ?_
    refine XS.bipush X10.here hx rfl (hb hby d37_492) ?_
    show Steps _ _ _ (T10.setTop (mkF m 494 #[vI 1, vI 1, vI w0, vI w1, vI c0, vI c1] [(.int 97), (.int 5), (.ref b3), (.ref b3), (.ref b1), (.ref b1)])) _
    refine st11 _ ?_
    refine XS.dup X11.here hx rfl (hb hby d37_495) rfl rfl ?_
    refine XS.bipush X11.here hx rfl (hb hby d37_496) ?_
    refine XS.bipush X11.here hx rfl (hb hby d37_498) ?_
    refine st12 _ ?_
    refine XS.dup X12.here hx rfl (hb hby d37_501) rfl rfl ?_
    refine XS.bipush X12.here hx rfl (hb hby d37_502) ?_
    refine XS.bipush X12.here hx rfl (hb hby d37_504) ?_
    refine st13 _ ?_
    refine XS.dup X13.here hx rfl (hb hby d37_507) rfl rfl ?_
    refine XS.bipush X13.here hx rfl (hb hby d37_508) ?_
    refine XS.bipush X13.here hx rfl (hb hby d37_510) ?_
    refine st14 _ ?_
    refine XS.dup X14.here hx rfl (hb hby d37_513) rfl rfl ?_
    refine XS.bipush X14.here hx rfl (hb hby d37_514) ?_
    refine XS.bipush X14.here hx rfl (hb hby d37_516) ?_
    refine st15 _ ?_
    refine XS.dup X15.here hx rfl (hb hby d37_519) rfl rfl ?_
    refine XS.bipush X15.here hx rfl (hb hby d37_520) ?_
    refine XS.bipush X15.here hx rfl (hb hby d37_522) ?_
    refine st16 _ ?_
    refine XS.dup X16.here hx rfl (hb hby d37_525) rfl rfl ?_
    refine XS.bipush X16.here hx rfl (hb hby d37_526) ?_
    refine XS.bipush X16.here hx rfl (hb hby d37_528) ?_
    show Steps _ _ _ (T16.setTop (mkF m 530 #[vI 1, vI 1, vI w0, vI w1, vI c0, vI c1] [(.int 108), (.int 11), (.ref b3), (.ref b3), (.ref b1), (.ref b1)])) _
    refine st17 _ ?_
    refine XS.dup X17.here hx rfl (hb hby d37_531) rfl rfl ?_
    refine XS.bipush X17.here hx rfl (hb hby d37_532) ?_
    refine XS.bipush X17.here hx rfl (hb hby d37_534) ?_
    refine st18 _ ?_
    refine XS.dup X18.here hx rfl (hb hby d37_537) rfl rfl ?_
    refine XS.bipush X18.here hx rfl (hb hby d37_538) ?_
    refine XS.bipush X18.here hx rfl (hb hby d37_540) ?_
    refine st19 _ ?_
    refine XS.dup X19.here hx rfl (hb hby d37_543) rfl rfl ?_
    refine XS.bipush X19.here hx rfl (hb hby d37_544) ?_
    refine XS.bipush X19.here hx rfl (hb hby d37_546) ?_
    refine st20 _ ?_
    refine XS.dup X20.here hx rfl (hb hby d37_549) rfl rfl ?_
    refine XS.bipush X20.here hx rfl (hb hby d37_550) ?_
    refine XS.bipush X20.here hx rfl (hb hby d37_552) ?_
    refine st21 _ ?_
    refine XS.dup X21.here hx rfl (hb hby d37_555) rfl rfl ?_
    refine XS.bipush X21.here hx rfl (hb hby d37_556) ?_
    refine XS.bipush X21.here hx rfl (hb hby d37_558) ?_
    refine st22 _ ?_
    refine XS.dup X22.here hx rfl (hb hby d37_561) rfl rfl ?_
    refine XS.bipush X22.here hx rfl (hb hby d37_562) ?_
    refine XS.bipush X22.here hx rfl (hb hby d37_564) ?_
    show Steps _ _ _ (T22.setTop (mkF m 566 #[vI 1, vI 1, vI w0, vI w1, vI c0, vI c1] [(.int 100), (.int 17), (.ref b3), (.ref b3), (.ref b1), (.ref b1)])) _
    refine st23 _ ?_
    refine XS.dup X23.here hx rfl (hb hby d37_567) rfl rfl ?_
    refine XS.bipush X23.here hx rfl (hb hby d37_568) ?_
    refine XS.bipush X23.here hx rfl (hb hby d37_570) ?_
    refine st24 _ ?_
    refine XS.dup X24.here hx rfl (hb hby d37_573) rfl rfl ?_
    refine XS.bipush X24.here hx rfl (hb hby d37_574) ?_
    refine XS.bipush X24.here hx rfl (hb hby d37_576) ?_
    refine st25 _ ?_
    refine XS.dup X25.here hx rfl (hb hby d37_579) rfl rfl ?_
    refine XS.bipush X25.here hx rfl (hb hby d37_580) ?_
    refine XS.bipush X25.here hx rfl (hb hby d37_582) ?_
    refine st26 _ ?_
    refine XS.dup X26.here hx rfl (hb hby d37_585) rfl rfl ?_
    refine XS.bipush X26.here hx rfl (hb hby d37_586) ?_
    refine XS.bipush X26.here hx rfl (hb hby d37_588) ?_
    refine st27 _ ?_
    refine XS.dup X27.here hx rfl (hb hby d37_591) rfl rfl ?_
    refine XS.bipush X27.here hx rfl (hb hby d37_592) ?_
    refine XS.bipush X27.here hx rfl (hb hby d37_594) ?_
    refine st28 _ ?_
    refine XS.dup X28.here hx rfl (hb hby d37_597) rfl rfl ?_
    refine XS.bipush X28.here hx rfl (hb hby d37_598) ?_
    refine XS.bipush X28.here hx rfl (hb hby d37_600) ?_
    show Steps _ _ _ (T28.setTop (mkF m 602 #[vI 1, vI 1, vI w0, vI w1, vI c0, vI c1] [(.int 117), (.int 23), (.ref b3), (.ref b3), (.ref b1), (.ref b1)])) _
    refine st29 _ ?_
    refine XS.dup X29.here hx rfl (hb hby d37_603) rfl rfl ?_
    refine XS.bipush X29.here hx rfl (hb hby d37_604) ?_
    refine XS.bipush X29.here hx rfl (hb hby d37_606) ?_
    refine st30 _ ?_
    refine XS.dup X30.here hx rfl (hb hby d37_609) rfl rfl ?_
    refine XS.bipush X30.here hx rfl (hb hby d37_610) ?_
    refine XS.bipush X30.here hx rfl (hb hby d37_612) ?_
    refine st31 _ ?_
    refine XS.dup X31.here hx rfl (hb hby d37_615) rfl rfl ?_
    refine XS.bipush X31.here hx rfl (hb hby d37_616) ?_
    refine XS.bipush X31.here hx rfl (hb hby d37_618) ?_
    refine st32 _ ?_
    refine XS.dup X32.here hx rfl (hb hby d37_621) rfl rfl ?_
    refine XS.bipush X32.here hx rfl (hb hby d37_622) ?_
    refine XS.bipush X32.here hx rfl (hb hby d37_624) ?_
    refine st33 _ ?_
    refine XS.dup X33.here hx rfl (hb hby d37_627) rfl rfl ?_
    refine XS.bipush X33.here hx rfl (hb hby d37_628) ?_
    refine XS.bipush X33.here hx rfl (hb hby d37_630) ?_
    refine st34 _ ?_
    refine XS.dup X34.here hx rfl (hb hby d37_633) rfl rfl ?_
    refine XS.bipush X34.here hx rfl (hb hby d37_634) ?_
    refine XS.bipush X34.here hx rfl (hb hby d37_636) ?_
    show Steps _ _ _ (T34.setTop (mkF m 638 #[vI 1, vI 1, vI w0, vI w1, vI c0, vI c1] [(.int 110), (.int 29), (.ref b3), (.ref b3), (.ref b1), (.ref b1)])) _
    refine st35 _ ?_
    refine XS.dup X35.here hx rfl (hb hby d37_639) rfl rfl ?_
    refine XS.bipush X35.here hx rfl (hb hby d37_640) ?_
    refine XS.bipush X35.here hx rfl (hb hby d37_642) ?_
    refine st36 _ ?_
    refine XS.dup X36.here hx rfl (hb hby d37_645) rfl rfl ?_
    refine XS.bipush X36.here hx rfl (hb hby d37_646) ?_
    refine XS.iloadN X36.here hx rfl (hb hby d37_648) rfl ?_
    refine st37 _ ?_
    refine XS.dup X37.here hx rfl (hb hby d37_650) rfl rfl ?_
    refine XS.bipush X37.here hx rfl (hb hby d37_651) ?_
    refine XS.iloadN X37.here hx rfl (hb hby d37_653) rfl ?_
    refine st38 _ ?_
    refine XS.dup X38.here hx rfl (hb hby d37_655) rfl rfl ?_
    refine XS.bipush X38.here hx rfl (hb hby d37_656) ?_
    refine XS.bipush X38.here hx rfl (hb hby d37_658) ?_
    refine st39 _ ?_
    refine XS.dup X39.here hx rfl (hb hby d37_661) rfl rfl ?_
    refine XS.bipush X39.here hx rfl (hb hby d37_662) ?_
    refine XS.bipush X39.here hx rfl (hb hby d37_664) ?_
    refine st40 _ ?_
    refine XS.dup X40.here hx rfl (hb hby d37_667) rfl rfl ?_
    refine XS.bipush X40.here hx rfl (hb hby d37_668) ?_
    refine XS.iload X40.here hx rfl (hb hby d37_670) rfl ?_
    show Steps _ _ _ (T40.setTop (mkF m 672 #[vI 1, vI 1, vI w0, vI w1, vI c0, vI c1] [(.int c0), (.int 35), (.ref b3), (.ref b3), (.ref b1), (.ref b1)])) _
    refine st41 _ ?_
    refine XS.dup X41.here hx rfl (hb hby d37_673) rfl rfl ?_
    refine XS.bipush X41.here hx rfl (hb hby d37_674) ?_
    refine XS.iload X41.here hx rfl (hb hby d37_676) rfl ?_
    refine st42 _ ?_
    refine st44.trans ?_
    jvm_step X44.here [X44.here.top, hx, (hb hby d37_682), X44.method', Bd.returns, Value.isRef, FieldType.isReference]
    first | (intro acts; rw [hr _ acts rfl rfl rfl]) | rw [hr _ _ rfl rfl rfl]
    exact Steps.refl _
  · show Qexpd11 Z w0 w1 c0 c1 cz h0 n0 _ T44.heap _
    exact ⟨b1, t_44, kt_44, rfl, N44, K44, sz1, r44_2, r44_3, r44_4, r44_5⟩
theorem d37_8 : decode c37_ 8 = .ok (.ldc 32, 2) := by decide +kernel
theorem d37_10 : decode c37_ 10 = .ok (.areturn, 1) := by decide +kernel
theorem ef_expd00 (m : MethodId) (x0 : Int32) (x1 : Int32) (x2 : Int32) (x3 : Int32) (x4 : Int32) (x5 : Int32) : entryFrame m #[(.int x0), (.int x1), (.int x2), (.int x3), (.int x4), (.int x5)] 6 = mkF m 0 #[vI x0, vI x1, vI x2, vI x3, vI x4, vI x5] [] := by first | (simp [entryFrame, mkF, argsToLocals, Value.category]; done) | rfl
def Qexpd00 (Z : State) (w0 : Int32) (w1 : Int32) (c0 : Int32) (c1 : Int32) (h0 : Heap) (n0 : Nat) (v : Option Value) (h : Heap) (L : List Loc) : Prop := ∃ (r : Addr), ∃ (t : Addr), ∃ (kt : ClassId), v = some (.ref r) ∧ Fr n0 L ∧ Keep h0 h [] ∧ Exa Z h r "java/lang/String" ∧ Fld Z h r "java/lang/String" "value" "[B" (.ref t) ∧ Fld Z h r "java/lang/String" "coder" "B" (.int (own_i (own_cd (own_xs own_nil own_nil)))) ∧ Arv Z h t kt .byte (own_i (own_wd (own_cd (own_xs own_nil own_nil)) (own_xs own_nil own_nil).length)) ((own_enc (own_cd (own_xs own_nil own_nil)) (own_xs own_nil own_nil)).map Value.int) (.int 0)
set_option maxRecDepth 65536 in
set_option maxHeartbeats 40000000 in
theorem rmexpd00 (l : Launch) (Z : State) (a0 : Array Value) (hw : ∀ d ∈ tables_1, d.before a0 Z = true) (ws : List Jvm.Cond) (w0 : Int32) (w1 : Int32) (c0 : Int32) (c1 : Int32) (h0 : Heap) (n0 : Nat) (O0 : Old Z n0 h0)  :
    MetFree l mN53 (head1 (Jvm.Cond.code mN53 method_3_code 6 (some (.object "java/lang/String")) :: ws) ({ frames := 0, cells := 2, slots := 136, locals := 0 } : Room)) (fun as_ U => as_ = #[(.int 0), (.int 0), (.int w0), (.int w1), (.int c0), (.int c1)] ∧ Z.Warmed39 U.vm ∧ U.heap = h0 ∧ CHv Z own_EL U.vm h0) (fun _ _ _ _ _ => True) (fun _ U o U' => ∃ v L, o = .returned v ∧ Qexpd00 Z w0 w1 c0 c1 h0 n0 v U'.heap L ∧ CHr Z own_EL U.vm U.heap U'.vm U'.heap ∧ ReturnedEndW U o U' L ({ frames := 0, cells := 2, slots := 136, locals := 0 } : Room).cells ({ frames := 0, cells := 2, slots := 136, locals := 0 } : Room).slots) := by
  refine MetFree.of_bodySF (plainFor_of_name pn_com_example_levy_levy_store_StoreExceptionUnknownPinLaw) hisR ?_
  intro p e s m args below meth c s₁ Bd hml0 hP hK
  obtain ⟨rfl, hZ, hh, HC0⟩ := hP
  have hx := Bd.exec
  have hby := Bd.bytes
  have hml : c.maxLocals = 6 := hml0
  have hown : s.vm.findClass "com/example/levy/levy/store/StoreExceptionUnknownPinLaw" = some m.cls := findClass_of_methodNamed Bd.named
  have hnm := (name_of_methodNamed Bd.named Bd.method).1
  have X0 : Stand p l e ({ frames := 0, cells := 2, slots := 136, locals := 0 } : Room) (s.setVm s.vm) m #[(.int 0), (.int 0), (.int w0), (.int w1), (.int c0), (.int c1)] below meth c s₁ [] 0 0 := Stand.of_body Bd
  have hS : s.Since s.vm 0 := (State.WarmedH.refl s).since 0
  have hk : 0 ≤ h0.size := Nat.zero_le _
  have hEL := own_EW hw
  have wS := own_wS hw
  have hZ : Z.Warmed39 (s.setVm s.vm).vm := hZ
  have hown : (s.setVm s.vm).vm.findClass "com/example/levy/levy/store/StoreExceptionUnknownPinLaw" = some m.cls := hown
  have e0 : s₁.heap = h0 := by rw [← hh, Bd.state]; rfl
  have N0 := Fr.nil n0
  have Z0 := own_z0 O0
  have pre0 : ∀ tg_, Steps p.tables e below (s₁.setTop (mkF m 0 #[vI 0, vI 0, vI w0, vI w1, vI c0, vI c1] [])) tg_ → Steps p.tables e below (s₁.setTop (entryFrame m #[(.int 0), (.int 0), (.int w0), (.int w1), (.int c0), (.int c1)] 6)) tg_ := fun tg_ kt_ => castTop (ef_expd00 m (0 : Int32) (0 : Int32) w0 w1 c0 c1) kt_
  have hZ0_ := hZ
  obtain ⟨a1, T1, h1, kq1, sb1, kb1, X1, e1, E1, hS, hk, hZ, hown, A1, Fc1, Fv1, V1, lt1, lu1, R1, Li1, Sf1, st1⟩ := ldcCH X0 hx hZ hown (hw _ w_225) wS e0 hS hk hEL (by decide) HC0 (vs := [(.int 116), (.int 104), (.int 101), (.int 32), (.int 100), (.int 97), (.int 116), (.int 97), (.int 32), (.int 102), (.int 105), (.int 108), (.int 101), (.int 32), (.int 104), (.int 111), (.int 108), (.int 100), (.int 115), (.int 32), (.int 97), (.int 110), (.int 32), (.int 117), (.int 110), (.int 107), (.int 110), (.int 111), (.int 119), (.int 110), (.int 32), (.int 58), (.int 32)]) (z := (33 : Int32)) ⟨by decide, by decide⟩ (by decide) (by decide) (g := (mkF m 8 #[vI 0, vI 0, vI w0, vI w1, vI c0, vI c1] [])) rfl (hb hby d37_8) (n := 132) (by decide) (by decide) (by decide) (by decide)
  have hZ1 := hZ
  have O1 : Old Z n0 h1 := O0.ext E1
  have K1 : Keep h0 h1 [] := (Keep.refl h0 []).ext E1
  have HC1 := R1.1
  have RC1 := (CHr.refl HC0).trans R1
  have Fr2 : Fld Z h1 a1 "java/lang/String" "coder" "B" (.int (own_i (own_cd (own_xs own_nil own_nil)))) := by
    have q := Fc1
    exact q
  have Fr3 : Arv Z h1 sb1 kb1 .byte (own_i (own_wd (own_cd (own_xs own_nil own_nil)) (own_xs own_nil own_nil).length)) ((own_enc (own_cd (own_xs own_nil own_nil)) (own_xs own_nil own_nil)).map Value.int) (.int 0) := by
    have q := V1
    exact q
  obtain ⟨fs, hr, hrun, hended, hRE⟩ := X1.leaveW hS (show _ ≤ T1.heap.size by rw [e1]; exact hk) (v := some (.ref a1)) (fun h => by rw [Bd.returns] at h; cases h)
  refine ⟨_, _, pre0 _ ?_, hrun, hended, _, _, rfl, ?_, ?_, ⟨hRE.1, hRE.2.1, hRE.2.2.1, hRE.2.2.2.mono (by decide) (by decide)⟩⟩
  · refine XS.iloadN X0.here hx rfl (hb hby d37_0) rfl ?_
    refine XS.ifNo X0.here hx rfl (hb hby d37_1) rfl ((if0 _ _).trans (teq (by decide : (0 : Int32) = (0 : Int32))).2) ?_
    refine XS.iloadN X0.here hx rfl (hb hby d37_4) rfl ?_
    refine XS.ifNo X0.here hx rfl (hb hby d37_5) rfl ((if0 _ _).trans (teq (by decide : (0 : Int32) = (0 : Int32))).2) ?_
    refine st1 _ ?_
    jvm_step X1.here [X1.here.top, hx, (hb hby d37_10), X1.method', Bd.returns, Value.isRef, FieldType.isReference]
    first | (intro acts; rw [hr _ acts rfl rfl rfl]) | rw [hr _ _ rfl rfl rfl]
    exact Steps.refl _
  · show Qexpd00 Z w0 w1 c0 c1 h0 n0 _ T1.heap _
    rw [e1]
    exact ⟨a1, sb1, kb1, rfl, N0, K1, A1, Fv1, Fr2, Fr3⟩
  · rw [hh]
    show CHr Z own_EL s.vm h0 T1.vm T1.heap
    rw [e1]
    exact RC1.trans (CHv.at X1 hZ hEL HC1)
theorem w_22 : (Cond.methodLink "com/example/levy/levy/store/StoreExceptionUnknownPinLaw" (12 : Nat) mN52) ∈ tables_1 := List.mem_of_getElem? (i := 22) (by decide +kernel)
theorem w_25 : (Cond.code mN52 prog_37_method_3_code (2 : Nat) (Option.some (FieldType.object "com/example/levy/levy/store/StoreException"))) ∈ tables_1 := List.mem_of_getElem? (i := 25) (by decide +kernel)
theorem pd__Ljava_lang_String_Ljava_lang_String__Lcom_example_levy_levy_store_StoreException_ : parseMethodDescriptor "(Ljava/lang/String;Ljava/lang/String;)Lcom/example/levy/levy/store/StoreException;" = some ⟨[(.object "java/lang/String"), (.object "java/lang/String")], some (.object "com/example/levy/levy/store/StoreException")⟩ := by decide +kernel
theorem w_23 : (Cond.static mN52) ∈ tables_1 := List.mem_of_getElem? (i := 23) (by decide +kernel)
abbrev mN54 : MethodName := ⟨"com/example/levy/levy/store/StoreException", "getMessage", "()Ljava/lang/String;"⟩
theorem w_215 : (Cond.methodLink "com/example/levy/levy/store/StoreExceptionUnknownPinLaw" (18 : Nat) mN54) ∈ tables_1 := List.mem_of_getElem? (i := 215) (by decide +kernel)
theorem w_220 : (Cond.code mN51 jdk_78_method_6_code (1 : Nat) (Option.some (FieldType.object "java/lang/String"))) ∈ tables_1 := List.mem_of_getElem? (i := 220) (by decide +kernel)
theorem w_219 : (Cond.selects "com/example/levy/levy/store/StoreException" mN54 mN51) ∈ tables_1 := List.mem_of_getElem? (i := 219) (by decide +kernel)
theorem w_216 : (Cond.sameMethod "com/example/levy/levy/store/StoreException" "java/lang/Throwable" "getMessage" "()Ljava/lang/String;") ∈ tables_1 := List.mem_of_getElem? (i := 216) (by decide +kernel)
theorem w_217 : (Cond.declares mN51) ∈ tables_1 := List.mem_of_getElem? (i := 217) (by decide +kernel)
theorem w_218 : (Cond.instanceMethod mN51) ∈ tables_1 := List.mem_of_getElem? (i := 218) (by decide +kernel)
theorem w_221 : (Cond.methodLink "com/example/levy/levy/store/StoreExceptionUnknownPinLaw" (22 : Nat) mN53) ∈ tables_1 := List.mem_of_getElem? (i := 221) (by decide +kernel)
theorem w_224 : (Cond.code mN53 method_3_code (6 : Nat) (Option.some (FieldType.object "java/lang/String"))) ∈ tables_1 := List.mem_of_getElem? (i := 224) (by decide +kernel)
theorem w_223 : (Cond.initialized "com/example/levy/levy/store/StoreExceptionUnknownPinLaw") ∈ tables_1 := List.mem_of_getElem? (i := 223) (by decide +kernel)
theorem pd__ZZCCCC_Ljava_lang_String_ : parseMethodDescriptor "(ZZCCCC)Ljava/lang/String;" = some ⟨[.boolean, .boolean, .char, .char, .char, .char], some (.object "java/lang/String")⟩ := by decide +kernel
theorem w_222 : (Cond.static mN53) ∈ tables_1 := List.mem_of_getElem? (i := 222) (by decide +kernel)
theorem w_226 : (Cond.methodLink "com/example/levy/levy/store/StoreExceptionUnknownPinLaw" (28 : Nat) mN45) ∈ tables_1 := List.mem_of_getElem? (i := 226) (by decide +kernel)
theorem w_230 : (Cond.code mN45 jdk_42_method_66_code (3 : Nat) (Option.some FieldType.boolean)) ∈ tables_1 := List.mem_of_getElem? (i := 230) (by decide +kernel)
theorem pd__Ljava_lang_Object__Z : parseMethodDescriptor "(Ljava/lang/Object;)Z" = some ⟨[(.object "java/lang/Object")], some .boolean⟩ := by decide +kernel
theorem w_229 : (Cond.selects "java/lang/String" mN45 mN45) ∈ tables_1 := List.mem_of_getElem? (i := 229) (by decide +kernel)
theorem w_227 : (Cond.declares mN45) ∈ tables_1 := List.mem_of_getElem? (i := 227) (by decide +kernel)
theorem w_228 : (Cond.instanceMethod mN45) ∈ tables_1 := List.mem_of_getElem? (i := 228) (by decide +kernel)
theorem ef_law (m : MethodId) (x0 : Int32) (x1 : Int32) (x2 : Int32) : entryFrame m #[(.int x0), (.int x1), (.int x2)] maxLocals = mkF m 0 #[vI x0, vI x1, vI x2, .unset, .unset, .unset, .unset, .unset, .unset, .unset, .unset, .unset, .unset] [] := by first | (simp [entryFrame, mkF, argsToLocals, Value.category, maxLocals]; done) | rfl
def Qlaw (Z : State) (i0 : Int32) (i1 : Int32) (i2 : Int32) (cz : Int32) (sf : Value) (us : Value) (se : Value) (h0 : Heap) (n0 : Nat) (v : Option Value) (h : Heap) (L : List Loc) : Prop := v = some (.int 1) ∧ Fr n0 L ∧ Keep h0 h []
set_option maxRecDepth 65536 in
set_option maxHeartbeats 40000000 in
theorem rmlaw (l : Launch) (Z : State) (a0 : Array Value) (hw : ∀ d ∈ tables_1, d.before a0 Z = true) (ws : List Jvm.Cond) (i0 : Int32) (i1 : Int32) (i2 : Int32) (cz : Int32) (sf : Value) (us : Value) (se : Value) (h0 : Heap) (n0 : Nat) (O0 : Old Z n0 h0) (hp0 : Sta Z Z.heap "java/lang/StringUTF16" "$assertionsDisabled" "Z" (.int 1)) (hp1 : Sta Z Z.heap "java/lang/StringUTF16" "HI_BYTE_SHIFT" "I" (.int 0)) (hp2 : Sta Z Z.heap "java/lang/StringUTF16" "LO_BYTE_SHIFT" "I" (.int 8)) (hp3 : Sta Z Z.heap "jdk/internal/util/Preconditions" "SIOOBE_FORMATTER" "Ljava/util/function/BiFunction;" sf) (hsf : (sf.isRef = true)) (hp5 : Sta Z Z.heap "java/lang/String" "COMPACT_STRINGS" "Z" (.int cz)) (hcz : (¬ (cz = (0 : Int32)))) (hl : (l.stackTraces = true)) (hp8 : Sta Z Z.heap "java/lang/Throwable" "UNASSIGNED_STACK" "[Ljava/lang/StackTraceElement;" us) (hp9 : Sta Z Z.heap "java/lang/Throwable" "SUPPRESSED_SENTINEL" "Ljava/util/List;" se) (hus : (us.isRef = true)) (hse : (se.isRef = true)) :
    MetFree l x (head1 (Jvm.Cond.code x code maxLocals ret :: ws) room_1) (fun as_ U => as_ = #[(.int i0), (.int i1), (.int i2)] ∧ Z.Warmed39 U.vm ∧ U.heap = h0 ∧ CHv Z own_EL U.vm h0) (fun _ _ _ s _ => framesKnown s = true ∧ tablesKnown s = true) (fun _ U o U' => ∃ v L, o = .returned v ∧ Qlaw Z i0 i1 i2 cz sf us se h0 n0 v U'.heap L ∧ CHr Z own_EL U.vm U.heap U'.vm U'.heap ∧ ReturnedEndW U o U' L room_1.cells room_1.slots) := by
  refine MetFree.of_bodySF (plainFor_of_name pn_com_example_levy_levy_store_StoreExceptionUnknownPinLaw) hisR ?_
  intro p e s m args below meth c s₁ Bd hml0 hP hK
  obtain ⟨rfl, hZ, hh, HC0⟩ := hP
  have hx := Bd.exec
  have hby := Bd.bytes
  have hml : c.maxLocals = 13 := hml0
  have hown : s.vm.findClass "com/example/levy/levy/store/StoreExceptionUnknownPinLaw" = some m.cls := findClass_of_methodNamed Bd.named
  have hnm := (name_of_methodNamed Bd.named Bd.method).1
  have X0 : Stand p l e room_1 (s.setVm s.vm) m #[(.int i0), (.int i1), (.int i2)] below meth c s₁ [] 0 0 := Stand.of_body Bd
  have hS : s.Since s.vm 0 := (State.WarmedH.refl s).since 0
  have hk : 0 ≤ h0.size := Nat.zero_le _
  have hEL := own_EW hw
  have wS := own_wS hw
  have hZ : Z.Warmed39 (s.setVm s.vm).vm := hZ
  have hown : (s.setVm s.vm).vm.findClass "com/example/levy/levy/store/StoreExceptionUnknownPinLaw" = some m.cls := hown
  have e0 : s₁.heap = h0 := by rw [← hh, Bd.state]; rfl
  have hTK := own_tk hK.2
  have hBelow := own_fk X0.frames hK.1
  have N0 := Fr.nil n0
  have Z0 := own_z0 O0
  have pre0 : ∀ tg_, Steps p.tables e below (s₁.setTop (mkF m 0 #[vI i0, vI i1, vI i2, .unset, .unset, .unset, .unset, .unset, .unset, .unset, .unset, .unset, .unset] [])) tg_ → Steps p.tables e below (s₁.setTop (entryFrame m #[(.int i0), (.int i1), (.int i2)] maxLocals)) tg_ := fun tg_ kt_ => castTop (ef_law m i0 i1 i2) kt_
  have hZ0_ := hZ
  refine own_cut (fun G_ => ∀ (vm_ : Vm) (kk_ : Nat) (T_ : State) (h_ : Heap) (L_ : List Loc) (lw : Int32) (lc : Int32) (w0 : Int32) (w1 : Int32) (c0 : Int32) (c1 : Int32) (wa : Addr) (tw : Addr) (kw : ClassId) (dw : List Int32) (ca : Addr) (tc : Addr) (kc : ClassId) (dc : List Int32) (X_ : Stand p l e room_1 (s.setVm vm_) m #[(.int i0), (.int i1), (.int i2)] below meth c T_ L_ 20 1200) (e_ : T_.heap = h_) (hS : s.Since vm_ kk_) (hk : kk_ ≤ h_.size) (hZ : Z.Warmed39 (s.setVm vm_).vm) (hown : (s.setVm vm_).vm.findClass "com/example/levy/levy/store/StoreExceptionUnknownPinLaw" = some m.cls) (O_ : Old Z n0 h_) (K_ : Keep h0 h_ []) (N_ : Fr n0 L_) (HC_ : CHv Z own_EL vm_ h_) (RC_ : CHr Z own_EL s.vm h0 vm_ h_) (hj0 : Exa Z h_ wa "java/lang/String") (hj1 : Fld Z h_ wa "java/lang/String" "value" "[B" (.ref tw)) (hj2 : Fld Z h_ wa "java/lang/String" "coder" "B" (.int (own_i (own_cd dw)))) (hj3 : Arv Z h_ tw kw .byte (own_i (own_wd (own_cd dw) dw.length)) ((own_enc (own_cd dw) dw).map Value.int) (.int 0)) (hfw : ((lw = (1 : Int32) ∧ dw = [w0, w1]) ∨ (lw = (0 : Int32) ∧ dw = own_nil))) (hdw : (own_Ch dw)) (hlw : (dw.length = 0 ∨ dw.length = 2)) (hj7 : Exa Z h_ ca "java/lang/String") (hj8 : Fld Z h_ ca "java/lang/String" "value" "[B" (.ref tc)) (hj9 : Fld Z h_ ca "java/lang/String" "coder" "B" (.int (own_i (own_cd dc)))) (hj10 : Arv Z h_ tc kc .byte (own_i (own_wd (own_cd dc) dc.length)) ((own_enc (own_cd dc) dc).map Value.int) (.int 0)) (hfc : ((lc = (1 : Int32) ∧ dc = [c0, c1]) ∨ (lc = (0 : Int32) ∧ dc = own_nil))) (hdc : (own_Ch dc)) (hlc_ : (dc.length = 0 ∨ dc.length = 2)) (r_w0 : (¬ w0 < (0 : Int32) ∧ ¬ (65535 : Int32) < w0)) (r_w1 : (¬ w1 < (0 : Int32) ∧ ¬ (65535 : Int32) < w1)) (r_c0 : (¬ c0 < (0 : Int32) ∧ ¬ (65535 : Int32) < c0)) (r_c1 : (¬ c1 < (0 : Int32) ∧ ¬ (65535 : Int32) < c1)) (pre_ : ∀ tg_, Steps p.tables e below (T_.setTop (mkF m 126 #[vI i0, vI i1, vI i2, vI lw, vI lc, vI w0, vI w1, vI c0, vI c1, vR wa, vR ca, .unset, .unset] [])) tg_ → Steps p.tables e below (s₁.setTop (entryFrame m #[(.int i0), (.int i1), (.int i2)] maxLocals)) tg_), G_) ?_ ?_
  · intro vm_ kk_ T_ h_ L_ lw lc w0 w1 c0 c1 wa tw kw dw ca tc kc dc X_ e_ hS hk hZ hown O_ K_ N_ HC_ RC_ hj0 hj1 hj2 hj3 hfw hdw hlw hj7 hj8 hj9 hj10 hfc hdc hlc_ r_w0 r_w1 r_c0 r_c1 pre_
    have hZ_j2 := hZ
    obtain ⟨_, _, ⟨T1, L1, k1, n1⟩, -, Xh1, Sh1, gh1, ⟨Lc1, hQ1, l1, y1, z1, R1⟩, st1⟩ := callSS X_ hx (y := mN52) hown (mvT hZ (hw _ w_22)) (mvT hZ (hw _ w_23)) (mvT hZ (hw _ w_24)) (mvT hZ (hw _ w_25)) (by decide) (own_backSHK (s := s) (W := 0) (rmunknown l Z a0 hw [] wa ca tw kw dw tc kc dc cz sf us se h_ n0 O_ hj0 hj1 hj2 hj3 hj7 hj8 hj9 hj10 hp0 hp1 hp2 hp3 hsf hp5 hcz hl hp8 hp9 hus hse hdw hdc hlw hlc_) hZ (hw _ w_25) (hw _ w_24) (by decide) (by decide) hEL HC_ (Vm.MethodsKnown.alikeC hS.1.alike hTK) (Vm.FramesKnown.alikeC hS.1.alike hBelow)) (g := (mkF m 130 #[vI i0, vI i1, vI i2, vI lw, vI lc, vI w0, vI w1, vI c0, vI c1, vR wa, vR ca, .unset, .unset] [(.ref ca), (.ref wa)])) rfl (by rw [hml]; rfl) (argsL := [(.ref wa), (.ref ca)]) (rest := []) (lenOf pd__Ljava_lang_String_Ljava_lang_String__Lcom_example_levy_levy_store_StoreException_ rfl) rfl (by show 2 * 0 + _ ≤ _; exact Nat.le_of_eq rfl) (hb hby at_130) (fun _ _ => ⟨rfl, e_, (by decide : 20 + 18 ≤ _), (by decide : 1200 + 5034 ≤ _)⟩)
    dsimp only [Pt.U, Pt.locs, Pt.cells, Pt.slots] at Xh1 Sh1 gh1 l1 y1 z1 R1 st1 hQ1
    subst l1 y1 z1
    obtain ⟨X1, hS, hZ, hown⟩ := rebS hS (show _ ≤ T_.heap.size by rw [e_]; exact hk) Xh1 Sh1 gh1 hZ hown
    have hk := Nat.le_refl T1.heap.size
    have hZ1 := hZ
    obtain ⟨r_1, ms_1, tm_1, km_1, rfl, N1q, Kc1, r1_1, r1_2, r1_3, r1_4, r1_5, r1_6, r1_7, r1_8⟩ := hQ1
    have N1 := Fr.app N_ N1q
    have sz2 : h0.size ≤ r_1 := Nat.le_trans K_.1 r1_1
    have gn2 : n0 ≤ r_1 := Nat.le_trans Z0 sz2
    have sz4 : h0.size ≤ ms_1 := Nat.le_trans K_.1 r1_2
    have gn4 : n0 ≤ ms_1 := Nat.le_trans Z0 sz4
    have O1 : Old Z n0 T1.heap := O_.keep Kc1 all0
    have K1 : Keep h0 T1.heap [] := K_.trans Kc1 all0
    have HC1 := R1.1
    have RC1 := RC_.trans R1
    obtain ⟨cq6, kq6, q6a, q6b, q6c⟩ := isOf hZ rfl r1_3
    obtain ⟨_, _, ⟨T6, L6, k6, n6⟩, -, X6, ⟨Lc6, hQ6, l6, y6, z6⟩, st6⟩ := X1.virtualBackUp hx (owner := "java/lang/Throwable") (x := mN54) (y := mN51) hown (mvT hZ (hw _ w_215)) (mvT hZ (hw _ w_216)) (mvT hZ (hw _ w_217)) (by decide) (mvT hZ (hw _ w_219)) (mvT hZ (hw _ w_218)) (backOf (W := 0) (rmgetMsg l Z a0 hw [] r_1 ms_1 T1.heap n0 O1 r1_4) hZ (hw _ w_220) (hw _ w_176) (by decide) (by decide)) q6a q6c (g := (mkF m 144 #[vI i0, vI i1, vI i2, vI lw, vI lc, vI w0, vI w1, vI c0, vI c1, vR wa, vR ca, vR r_1, .unset] [(.ref r_1)])) rfl (by rw [hml]; rfl) (Steps.refl _) (argsL := []) (rest := []) (lenOf pd___Ljava_lang_String_ rfl) rfl (by show 2 * 0 + _ ≤ _; exact Nat.le_of_eq rfl) (hb hby at_144) (fun _ _ => ⟨rfl, rfl, (by decide : 38 + 0 ≤ _), (by decide : 6234 + 0 ≤ _)⟩)
    dsimp only [Pt.U, Pt.locs, Pt.cells, Pt.slots] at X6 l6 y6 z6 st6 hQ6
    subst l6 y6 z6
    obtain ⟨rfl, N6q, eh6⟩ := hQ6
    have N6 := Fr.app N1 N6q
    have pre7 := fun tg_ (kt_ : Steps p.tables e below (T6.setTop (mkF m 154 #[vI i0, vI i1, vI i2, vI lw, vI lc, vI w0, vI w1, vI c0, vI c1, vR wa, vR ca, vR r_1, vR ms_1] [])) tg_) => pre_ tg_ (by
      refine XS.aload X_.here hx rfl (hb hby at_126) rfl rfl ?_
      refine XS.aload X_.here hx rfl (hb hby at_128) rfl rfl ?_
      refine st1.trans ?_
      refine XS.astore X1.here hx rfl (hb hby at_133) rfl rfl (l' := #[vI i0, vI i1, vI i2, vI lw, vI lc, vI w0, vI w1, vI c0, vI c1, vR wa, vR ca, vR r_1, .unset]) rfl ?_
      refine XS.aload X1.here hx rfl (hb hby at_135) rfl rfl ?_
      refine XS.ifnonnullYes X1.here hx rfl (pc0 := 137) (pc' := 142) rfl (hb hby at_137) rfl (by decide) (by decide) ?_
      refine XS.aload X1.here hx rfl (hb hby at_142) rfl rfl ?_
      refine st6.trans ?_
      refine XS.astore X6.here hx rfl (hb hby at_147) rfl rfl (l' := #[vI i0, vI i1, vI i2, vI lw, vI lc, vI w0, vI w1, vI c0, vI c1, vR wa, vR ca, vR r_1, vR ms_1]) rfl ?_
      refine XS.aload X6.here hx rfl (hb hby at_149) rfl rfl ?_
      refine XS.ifnullNo X6.here hx rfl (hb hby at_151) rfl ?_
      exact kt_)
    rcases hfw with ⟨rfl, rfl⟩ | ⟨rfl, rfl⟩
    · rcases hfc with ⟨rfl, rfl⟩ | ⟨rfl, rfl⟩
      · obtain ⟨_, _, ⟨T8, L8, k8, n8⟩, -, X8, ⟨Lc8, hQ8, l8, y8, z8⟩, st8⟩ := Jvm.LawKit.callS X6 hx (y := mN53) hown (mvT hZ (hw _ w_221)) (mvT hZ (hw _ w_222)) (mvT hZ (hw _ w_223)) (mvT hZ (hw _ w_224)) (by decide) (backOf (W := 1) (rmexpd11 l Z a0 hw [] w0 w1 c0 c1 cz T1.heap n0 O1 hp0 hp1 hp2 hp5 hcz r_w0 r_w1 r_c0 r_c1) hZ (hw _ w_224) (hw _ w_223) (by decide) (by decide)) (g := (mkF m 167 #[vI i0, vI i1, vI i2, vI 1, vI 1, vI w0, vI w1, vI c0, vI c1, vR wa, vR ca, vR r_1, vR ms_1] [(.int c1), (.int c0), (.int w1), (.int w0), (.int 1), (.int 1), (.ref ms_1)])) rfl (by rw [hml]; rfl) (argsL := [(.int 1), (.int 1), (.int w0), (.int w1), (.int c0), (.int c1)]) (rest := [(.ref ms_1)]) (lenOf pd__ZZCCCC_Ljava_lang_String_ rfl) rfl (by show 2 * 0 + _ ≤ _; exact Nat.le_of_eq rfl) (hb hby at_167) (fun _ _ => ⟨rfl, eh6, (by decide : 38 + 4 ≤ _), (by decide : 6234 + 241 ≤ _)⟩)
        dsimp only [Pt.U, Pt.locs, Pt.cells, Pt.slots] at X8 l8 y8 z8 st8 hQ8
        subst l8 y8 z8
        obtain ⟨r_8, t_8, kt_8, rfl, N8q, Kc8, r8_1, r8_2, r8_3, r8_4, r8_5⟩ := hQ8
        have N8 := Fr.app N6 N8q
        have sz9 : h0.size ≤ r_8 := Nat.le_trans K1.1 r8_1
        have gn9 : n0 ≤ r_8 := Nat.le_trans Z0 sz9
        have O8 : Old Z n0 T8.heap := O1.keep Kc8 all0
        have K8 : Keep h0 T8.heap [] := K1.trans Kc8 all0
        have hk := Nat.le_trans hk Kc8.1
        have HC8 := CHv.keep Kc8 all0 HC1
        have RC8 := RC1.trans (CHr.keep Kc8 all0 HC1)
        obtain ⟨cq11, kq11, q11a, q11b, q11c⟩ := isOf hZ rfl (r1_5.keep Kc8)
        obtain ⟨_, _, ⟨T11, L11, k11, n11⟩, -, X11, ⟨Lc11, hQ11, l11, y11, z11⟩, st11⟩ := X8.virtualBack hx (y := mN45) (z := mN45) hown (mvT hZ (hw _ w_226)) (mvT hZ (hw _ w_227)) (notFace_of_selects (args := #[]) (mvT hZ (hw _ w_229))) (mvT hZ (hw _ w_229)) (mvT hZ (hw _ w_228)) (by decide) (backOf (W := 0) (rmseqT l Z a0 hw [] ms_1 r_8 tm_1 km_1 (own_xs [w0, w1] [c0, c1]) t_8 kt_8 cz T8.heap n0 O8 (r1_5.keep Kc8) (r1_6.keep Kc8 nin0) (r1_7.keep Kc8 nin0) (r1_8.keep Kc8 nin0) r8_2 r8_3 r8_4 r8_5 hp5 hcz (Nat.le_of_ble_eq_true rfl)) hZ (hw _ w_230) (hw _ w_2) (by decide) (by decide)) q11a q11c (g := (mkF m 170 #[vI i0, vI i1, vI i2, vI 1, vI 1, vI w0, vI w1, vI c0, vI c1, vR wa, vR ca, vR r_1, vR ms_1] [(.ref r_8), (.ref ms_1)])) rfl (by rw [hml]; rfl) (Steps.refl _) (argsL := [(.ref r_8)]) (rest := []) (lenOf pd__Ljava_lang_Object__Z rfl) rfl (by show 2 * 0 + _ ≤ _; exact Nat.le_of_eq rfl) (hb hby at_170) (fun _ _ => ⟨rfl, rfl, (by decide : 42 + 0 ≤ _), (by decide : 6475 + 0 ≤ _)⟩)
        dsimp only [Pt.U, Pt.locs, Pt.cells, Pt.slots] at X11 l11 y11 z11 st11 hQ11
        subst l11 y11 z11
        obtain ⟨rfl, N11q, eh11⟩ := hQ11
        have N11 := Fr.app N8 N11q
        obtain ⟨fs, hr, hrun, hended, hRE⟩ := X11.leaveW hS (show _ ≤ T11.heap.size by rw [eh11]; exact hk) (v := some (.int 1)) (fun h => by rw [Bd.returns] at h; cases h)
        refine ⟨_, _, pre7 _ ?_, hrun, hended, _, _, rfl, ?_, ?_, ⟨hRE.1, hRE.2.1, hRE.2.2.1, hRE.2.2.2.mono (by decide) (by decide)⟩⟩
        · refine XS.aload X6.here hx rfl (hb hby at_154) rfl rfl ?_
          refine XS.iloadN X6.here hx rfl (hb hby at_156) rfl ?_
          refine XS.iload X6.here hx rfl (hb hby at_157) rfl ?_
          refine XS.iload X6.here hx rfl (hb hby at_159) rfl ?_
          refine XS.iload X6.here hx rfl (hb hby at_161) rfl ?_
          refine XS.iload X6.here hx rfl (hb hby at_163) rfl ?_
          refine XS.iload X6.here hx rfl (hb hby at_165) rfl ?_
          show Steps _ _ _ (T6.setTop (mkF m 167 #[vI i0, vI i1, vI i2, vI 1, vI 1, vI w0, vI w1, vI c0, vI c1, vR wa, vR ca, vR r_1, vR ms_1] [(.int c1), (.int c0), (.int w1), (.int w0), (.int 1), (.int 1), (.ref ms_1)])) _
          refine st8 _ ?_
          refine st11.trans ?_
          refine XS.ifNo X11.here hx rfl (hb hby at_173) rfl ((if0 _ _).trans (feq (by decide : ¬ ((1 : Int32) = (0 : Int32)))).1) ?_
          refine XS.iconst X11.here hx rfl (hb hby at_176) ?_
          refine XS.goto X11.here hx rfl (pc0 := 177) (pc' := 181) rfl (hb hby at_177) (by decide) (by decide) ?_
          exact retN X11 hx (t := .boolean) Bd.returns (by simp) (hb hby at_181) hr
        · show Qlaw Z i0 i1 i2 cz sf us se h0 n0 _ T11.heap _
          rw [eh11]
          exact ⟨rfl, N11, K8⟩
        · rw [hh]
          show CHr Z own_EL s.vm h0 T11.vm T11.heap
          rw [eh11]
          exact RC8.trans (CHv.at X11 hZ hEL HC8)
      · obtain ⟨_, _, ⟨T12, L12, k12, n12⟩, -, X12, ⟨Lc12, hQ12, l12, y12, z12⟩, st12⟩ := Jvm.LawKit.callS X6 hx (y := mN53) hown (mvT hZ (hw _ w_221)) (mvT hZ (hw _ w_222)) (mvT hZ (hw _ w_223)) (mvT hZ (hw _ w_224)) (by decide) (backOf (W := 1) (rmexpd10 l Z a0 hw [] w0 w1 c0 c1 cz T1.heap n0 O1 hp0 hp1 hp2 hp5 hcz r_w0 r_w1 r_c0 r_c1) hZ (hw _ w_224) (hw _ w_223) (by decide) (by decide)) (g := (mkF m 167 #[vI i0, vI i1, vI i2, vI 1, vI 0, vI w0, vI w1, vI c0, vI c1, vR wa, vR ca, vR r_1, vR ms_1] [(.int c1), (.int c0), (.int w1), (.int w0), (.int 0), (.int 1), (.ref ms_1)])) rfl (by rw [hml]; rfl) (argsL := [(.int 1), (.int 0), (.int w0), (.int w1), (.int c0), (.int c1)]) (rest := [(.ref ms_1)]) (lenOf pd__ZZCCCC_Ljava_lang_String_ rfl) rfl (by show 2 * 0 + _ ≤ _; exact Nat.le_of_eq rfl) (hb hby at_167) (fun _ _ => ⟨rfl, eh6, (by decide : 38 + 4 ≤ _), (by decide : 6234 + 239 ≤ _)⟩)
        dsimp only [Pt.U, Pt.locs, Pt.cells, Pt.slots] at X12 l12 y12 z12 st12 hQ12
        subst l12 y12 z12
        obtain ⟨r_12, t_12, kt_12, rfl, N12q, Kc12, r12_1, r12_2, r12_3, r12_4, r12_5⟩ := hQ12
        have N12 := Fr.app N6 N12q
        have sz13 : h0.size ≤ r_12 := Nat.le_trans K1.1 r12_1
        have gn13 : n0 ≤ r_12 := Nat.le_trans Z0 sz13
        have O12 : Old Z n0 T12.heap := O1.keep Kc12 all0
        have K12 : Keep h0 T12.heap [] := K1.trans Kc12 all0
        have hk := Nat.le_trans hk Kc12.1
        have HC12 := CHv.keep Kc12 all0 HC1
        have RC12 := RC1.trans (CHr.keep Kc12 all0 HC1)
        obtain ⟨cq15, kq15, q15a, q15b, q15c⟩ := isOf hZ rfl (r1_5.keep Kc12)
        obtain ⟨_, _, ⟨T15, L15, k15, n15⟩, -, X15, ⟨Lc15, hQ15, l15, y15, z15⟩, st15⟩ := X12.virtualBack hx (y := mN45) (z := mN45) hown (mvT hZ (hw _ w_226)) (mvT hZ (hw _ w_227)) (notFace_of_selects (args := #[]) (mvT hZ (hw _ w_229))) (mvT hZ (hw _ w_229)) (mvT hZ (hw _ w_228)) (by decide) (backOf (W := 0) (rmseqT l Z a0 hw [] ms_1 r_12 tm_1 km_1 (own_xs [w0, w1] own_nil) t_12 kt_12 cz T12.heap n0 O12 (r1_5.keep Kc12) (r1_6.keep Kc12 nin0) (r1_7.keep Kc12 nin0) (r1_8.keep Kc12 nin0) r12_2 r12_3 r12_4 r12_5 hp5 hcz (Nat.le_of_ble_eq_true rfl)) hZ (hw _ w_230) (hw _ w_2) (by decide) (by decide)) q15a q15c (g := (mkF m 170 #[vI i0, vI i1, vI i2, vI 1, vI 0, vI w0, vI w1, vI c0, vI c1, vR wa, vR ca, vR r_1, vR ms_1] [(.ref r_12), (.ref ms_1)])) rfl (by rw [hml]; rfl) (Steps.refl _) (argsL := [(.ref r_12)]) (rest := []) (lenOf pd__Ljava_lang_Object__Z rfl) rfl (by show 2 * 0 + _ ≤ _; exact Nat.le_of_eq rfl) (hb hby at_170) (fun _ _ => ⟨rfl, rfl, (by decide : 42 + 0 ≤ _), (by decide : 6473 + 0 ≤ _)⟩)
        dsimp only [Pt.U, Pt.locs, Pt.cells, Pt.slots] at X15 l15 y15 z15 st15 hQ15
        subst l15 y15 z15
        obtain ⟨rfl, N15q, eh15⟩ := hQ15
        have N15 := Fr.app N12 N15q
        obtain ⟨fs, hr, hrun, hended, hRE⟩ := X15.leaveW hS (show _ ≤ T15.heap.size by rw [eh15]; exact hk) (v := some (.int 1)) (fun h => by rw [Bd.returns] at h; cases h)
        refine ⟨_, _, pre7 _ ?_, hrun, hended, _, _, rfl, ?_, ?_, ⟨hRE.1, hRE.2.1, hRE.2.2.1, hRE.2.2.2.mono (by decide) (by decide)⟩⟩
        · refine XS.aload X6.here hx rfl (hb hby at_154) rfl rfl ?_
          refine XS.iloadN X6.here hx rfl (hb hby at_156) rfl ?_
          refine XS.iload X6.here hx rfl (hb hby at_157) rfl ?_
          refine XS.iload X6.here hx rfl (hb hby at_159) rfl ?_
          refine XS.iload X6.here hx rfl (hb hby at_161) rfl ?_
          refine XS.iload X6.here hx rfl (hb hby at_163) rfl ?_
          refine XS.iload X6.here hx rfl (hb hby at_165) rfl ?_
          show Steps _ _ _ (T6.setTop (mkF m 167 #[vI i0, vI i1, vI i2, vI 1, vI 0, vI w0, vI w1, vI c0, vI c1, vR wa, vR ca, vR r_1, vR ms_1] [(.int c1), (.int c0), (.int w1), (.int w0), (.int 0), (.int 1), (.ref ms_1)])) _
          refine st12 _ ?_
          refine st15.trans ?_
          refine XS.ifNo X15.here hx rfl (hb hby at_173) rfl ((if0 _ _).trans (feq (by decide : ¬ ((1 : Int32) = (0 : Int32)))).1) ?_
          refine XS.iconst X15.here hx rfl (hb hby at_176) ?_
          refine XS.goto X15.here hx rfl (pc0 := 177) (pc' := 181) rfl (hb hby at_177) (by decide) (by decide) ?_
          exact retN X15 hx (t := .boolean) Bd.returns (by simp) (hb hby at_181) hr
        · show Qlaw Z i0 i1 i2 cz sf us se h0 n0 _ T15.heap _
          rw [eh15]
          exact ⟨rfl, N15, K12⟩
        · rw [hh]
          show CHr Z own_EL s.vm h0 T15.vm T15.heap
          rw [eh15]
          exact RC12.trans (CHv.at X15 hZ hEL HC12)
    · rcases hfc with ⟨rfl, rfl⟩ | ⟨rfl, rfl⟩
      · obtain ⟨_, _, ⟨T16, L16, k16, n16⟩, -, X16, ⟨Lc16, hQ16, l16, y16, z16⟩, st16⟩ := Jvm.LawKit.callS X6 hx (y := mN53) hown (mvT hZ (hw _ w_221)) (mvT hZ (hw _ w_222)) (mvT hZ (hw _ w_223)) (mvT hZ (hw _ w_224)) (by decide) (backOf (W := 1) (rmexpd01 l Z a0 hw [] w0 w1 c0 c1 cz T1.heap n0 O1 hp0 hp1 hp2 hp5 hcz r_w0 r_w1 r_c0 r_c1) hZ (hw _ w_224) (hw _ w_223) (by decide) (by decide)) (g := (mkF m 167 #[vI i0, vI i1, vI i2, vI 0, vI 1, vI w0, vI w1, vI c0, vI c1, vR wa, vR ca, vR r_1, vR ms_1] [(.int c1), (.int c0), (.int w1), (.int w0), (.int 1), (.int 0), (.ref ms_1)])) rfl (by rw [hml]; rfl) (argsL := [(.int 0), (.int 1), (.int w0), (.int w1), (.int c0), (.int c1)]) (rest := [(.ref ms_1)]) (lenOf pd__ZZCCCC_Ljava_lang_String_ rfl) rfl (by show 2 * 0 + _ ≤ _; exact Nat.le_of_eq rfl) (hb hby at_167) (fun _ _ => ⟨rfl, eh6, (by decide : 38 + 4 ≤ _), (by decide : 6234 + 239 ≤ _)⟩)
        dsimp only [Pt.U, Pt.locs, Pt.cells, Pt.slots] at X16 l16 y16 z16 st16 hQ16
        subst l16 y16 z16
        obtain ⟨r_16, t_16, kt_16, rfl, N16q, Kc16, r16_1, r16_2, r16_3, r16_4, r16_5⟩ := hQ16
        have N16 := Fr.app N6 N16q
        have sz17 : h0.size ≤ r_16 := Nat.le_trans K1.1 r16_1
        have gn17 : n0 ≤ r_16 := Nat.le_trans Z0 sz17
        have O16 : Old Z n0 T16.heap := O1.keep Kc16 all0
        have K16 : Keep h0 T16.heap [] := K1.trans Kc16 all0
        have hk := Nat.le_trans hk Kc16.1
        have HC16 := CHv.keep Kc16 all0 HC1
        have RC16 := RC1.trans (CHr.keep Kc16 all0 HC1)
        obtain ⟨cq19, kq19, q19a, q19b, q19c⟩ := isOf hZ rfl (r1_5.keep Kc16)
        obtain ⟨_, _, ⟨T19, L19, k19, n19⟩, -, X19, ⟨Lc19, hQ19, l19, y19, z19⟩, st19⟩ := X16.virtualBack hx (y := mN45) (z := mN45) hown (mvT hZ (hw _ w_226)) (mvT hZ (hw _ w_227)) (notFace_of_selects (args := #[]) (mvT hZ (hw _ w_229))) (mvT hZ (hw _ w_229)) (mvT hZ (hw _ w_228)) (by decide) (backOf (W := 0) (rmseqT l Z a0 hw [] ms_1 r_16 tm_1 km_1 (own_xs own_nil [c0, c1]) t_16 kt_16 cz T16.heap n0 O16 (r1_5.keep Kc16) (r1_6.keep Kc16 nin0) (r1_7.keep Kc16 nin0) (r1_8.keep Kc16 nin0) r16_2 r16_3 r16_4 r16_5 hp5 hcz (Nat.le_of_ble_eq_true rfl)) hZ (hw _ w_230) (hw _ w_2) (by decide) (by decide)) q19a q19c (g := (mkF m 170 #[vI i0, vI i1, vI i2, vI 0, vI 1, vI w0, vI w1, vI c0, vI c1, vR wa, vR ca, vR r_1, vR ms_1] [(.ref r_16), (.ref ms_1)])) rfl (by rw [hml]; rfl) (Steps.refl _) (argsL := [(.ref r_16)]) (rest := []) (lenOf pd__Ljava_lang_Object__Z rfl) rfl (by show 2 * 0 + _ ≤ _; exact Nat.le_of_eq rfl) (hb hby at_170) (fun _ _ => ⟨rfl, rfl, (by decide : 42 + 0 ≤ _), (by decide : 6473 + 0 ≤ _)⟩)
        dsimp only [Pt.U, Pt.locs, Pt.cells, Pt.slots] at X19 l19 y19 z19 st19 hQ19
        subst l19 y19 z19
        obtain ⟨rfl, N19q, eh19⟩ := hQ19
        have N19 := Fr.app N16 N19q
        obtain ⟨fs, hr, hrun, hended, hRE⟩ := X19.leaveW hS (show _ ≤ T19.heap.size by rw [eh19]; exact hk) (v := some (.int 1)) (fun h => by rw [Bd.returns] at h; cases h)
        refine ⟨_, _, pre7 _ ?_, hrun, hended, _, _, rfl, ?_, ?_, ⟨hRE.1, hRE.2.1, hRE.2.2.1, hRE.2.2.2.mono (by decide) (by decide)⟩⟩
        · refine XS.aload X6.here hx rfl (hb hby at_154) rfl rfl ?_
          refine XS.iloadN X6.here hx rfl (hb hby at_156) rfl ?_
          refine XS.iload X6.here hx rfl (hb hby at_157) rfl ?_
          refine XS.iload X6.here hx rfl (hb hby at_159) rfl ?_
          refine XS.iload X6.here hx rfl (hb hby at_161) rfl ?_
          refine XS.iload X6.here hx rfl (hb hby at_163) rfl ?_
          refine XS.iload X6.here hx rfl (hb hby at_165) rfl ?_
          show Steps _ _ _ (T6.setTop (mkF m 167 #[vI i0, vI i1, vI i2, vI 0, vI 1, vI w0, vI w1, vI c0, vI c1, vR wa, vR ca, vR r_1, vR ms_1] [(.int c1), (.int c0), (.int w1), (.int w0), (.int 1), (.int 0), (.ref ms_1)])) _
          refine st16 _ ?_
          refine st19.trans ?_
          refine XS.ifNo X19.here hx rfl (hb hby at_173) rfl ((if0 _ _).trans (feq (by decide : ¬ ((1 : Int32) = (0 : Int32)))).1) ?_
          refine XS.iconst X19.here hx rfl (hb hby at_176) ?_
          refine XS.goto X19.here hx rfl (pc0 := 177) (pc' := 181) rfl (hb hby at_177) (by decide) (by decide) ?_
          exact retN X19 hx (t := .boolean) Bd.returns (by simp) (hb hby at_181) hr
        · show Qlaw Z i0 i1 i2 cz sf us se h0 n0 _ T19.heap _
          rw [eh19]
          exact ⟨rfl, N19, K16⟩
        · rw [hh]
          show CHr Z own_EL s.vm h0 T19.vm T19.heap
          rw [eh19]
          exact RC16.trans (CHv.at X19 hZ hEL HC16)
      · obtain ⟨_, _, ⟨T20, L20, k20, n20⟩, -, Xh20, Sh20, gh20, ⟨Lc20, hQ20, l20, y20, z20, R20⟩, st20⟩ := callSS X6 hx (y := mN53) hown (mvT hZ (hw _ w_221)) (mvT hZ (hw _ w_222)) (mvT hZ (hw _ w_223)) (mvT hZ (hw _ w_224)) (by decide) (backOfSH (s := s) (W := 1) (rmexpd00 l Z a0 hw [] w0 w1 c0 c1 T1.heap n0 O1 ) hZ (hw _ w_224) (hw _ w_223) (by decide) (by decide) hEL HC1) (g := (mkF m 167 #[vI i0, vI i1, vI i2, vI 0, vI 0, vI w0, vI w1, vI c0, vI c1, vR wa, vR ca, vR r_1, vR ms_1] [(.int c1), (.int c0), (.int w1), (.int w0), (.int 0), (.int 0), (.ref ms_1)])) rfl (by rw [hml]; rfl) (argsL := [(.int 0), (.int 0), (.int w0), (.int w1), (.int c0), (.int c1)]) (rest := [(.ref ms_1)]) (lenOf pd__ZZCCCC_Ljava_lang_String_ rfl) rfl (by show 2 * 0 + _ ≤ _; exact Nat.le_of_eq rfl) (hb hby at_167) (fun _ _ => ⟨rfl, eh6, (by decide : 38 + 2 ≤ _), (by decide : 6234 + 136 ≤ _)⟩)
        dsimp only [Pt.U, Pt.locs, Pt.cells, Pt.slots] at Xh20 Sh20 gh20 l20 y20 z20 R20 st20 hQ20
        subst l20 y20 z20
        obtain ⟨X20, hS, hZ, hown⟩ := rebS hS (show _ ≤ T6.heap.size by rw [eh6]; exact hk) Xh20 Sh20 gh20 hZ hown
        have hk := Nat.le_refl T20.heap.size
        have hZ20 := hZ
        obtain ⟨r_20, t_20, kt_20, rfl, N20q, Kc20, r20_1, r20_2, r20_3, r20_4⟩ := hQ20
        have N20 := Fr.app N6 N20q
        have O20 : Old Z n0 T20.heap := O1.keep Kc20 all0
        have K20 : Keep h0 T20.heap [] := K1.trans Kc20 all0
        have HC20 := R20.1
        have RC20 := RC1.trans R20
        obtain ⟨cq21, kq21, q21a, q21b, q21c⟩ := isOf hZ rfl (r1_5.keep Kc20)
        obtain ⟨_, _, ⟨T21, L21, k21, n21⟩, -, X21, ⟨Lc21, hQ21, l21, y21, z21⟩, st21⟩ := X20.virtualBack hx (y := mN45) (z := mN45) hown (mvT hZ (hw _ w_226)) (mvT hZ (hw _ w_227)) (notFace_of_selects (args := #[]) (mvT hZ (hw _ w_229))) (mvT hZ (hw _ w_229)) (mvT hZ (hw _ w_228)) (by decide) (backOf (W := 0) (rmseqT l Z a0 hw [] ms_1 r_20 tm_1 km_1 (own_xs own_nil own_nil) t_20 kt_20 cz T20.heap n0 O20 (r1_5.keep Kc20) (r1_6.keep Kc20 nin0) (r1_7.keep Kc20 nin0) (r1_8.keep Kc20 nin0) r20_1 r20_2 r20_3 r20_4 hp5 hcz (Nat.le_of_ble_eq_true rfl)) hZ (hw _ w_230) (hw _ w_2) (by decide) (by decide)) q21a q21c (g := (mkF m 170 #[vI i0, vI i1, vI i2, vI 0, vI 0, vI w0, vI w1, vI c0, vI c1, vR wa, vR ca, vR r_1, vR ms_1] [(.ref r_20), (.ref ms_1)])) rfl (by rw [hml]; rfl) (Steps.refl _) (argsL := [(.ref r_20)]) (rest := []) (lenOf pd__Ljava_lang_Object__Z rfl) rfl (by show 2 * 0 + _ ≤ _; exact Nat.le_of_eq rfl) (hb hby at_170) (fun _ _ => ⟨rfl, rfl, (by decide : 40 + 0 ≤ _), (by decide : 6370 + 0 ≤ _)⟩)
        dsimp only [Pt.U, Pt.locs, Pt.cells, Pt.slots] at X21 l21 y21 z21 st21 hQ21
        subst l21 y21 z21
        obtain ⟨rfl, N21q, eh21⟩ := hQ21
        have N21 := Fr.app N20 N21q
        obtain ⟨fs, hr, hrun, hended, hRE⟩ := X21.leaveW hS (show _ ≤ T21.heap.size by rw [eh21]; exact hk) (v := some (.int 1)) (fun h => by rw [Bd.returns] at h; cases h)
        refine ⟨_, _, pre7 _ ?_, hrun, hended, _, _, rfl, ?_, ?_, ⟨hRE.1, hRE.2.1, hRE.2.2.1, hRE.2.2.2.mono (by decide) (by decide)⟩⟩
        · refine XS.aload X6.here hx rfl (hb hby at_154) rfl rfl ?_
          refine XS.iloadN X6.here hx rfl (hb hby at_156) rfl ?_
          refine XS.iload X6.here hx rfl (hb hby at_157) rfl ?_
          refine XS.iload X6.here hx rfl (hb hby at_159) rfl ?_
          refine XS.iload X6.here hx rfl (hb hby at_161) rfl ?_
          refine XS.iload X6.here hx rfl (hb hby at_163) rfl ?_
          refine XS.iload X6.here hx rfl (hb hby at_165) rfl ?_
          show Steps _ _ _ (T6.setTop (mkF m 167 #[vI i0, vI i1, vI i2, vI 0, vI 0, vI w0, vI w1, vI c0, vI c1, vR wa, vR ca, vR r_1, vR ms_1] [(.int c1), (.int c0), (.int w1), (.int w0), (.int 0), (.int 0), (.ref ms_1)])) _
          refine st20.trans ?_
          refine st21.trans ?_
          refine XS.ifNo X21.here hx rfl (hb hby at_173) rfl ((if0 _ _).trans (feq (by decide : ¬ ((1 : Int32) = (0 : Int32)))).1) ?_
          refine XS.iconst X21.here hx rfl (hb hby at_176) ?_
          refine XS.goto X21.here hx rfl (pc0 := 177) (pc' := 181) rfl (hb hby at_177) (by decide) (by decide) ?_
          exact retN X21 hx (t := .boolean) Bd.returns (by simp) (hb hby at_181) hr
        · show Qlaw Z i0 i1 i2 cz sf us se h0 n0 _ T21.heap _
          rw [eh21]
          exact ⟨rfl, N21, K20⟩
        · rw [hh]
          show CHr Z own_EL s.vm h0 T21.vm T21.heap
          rw [eh21]
          exact RC20.trans (CHv.at X21 hZ hEL HC20)
  · intro j2
    refine own_cut (fun G_ => ∀ (vm_ : Vm) (kk_ : Nat) (T_ : State) (h_ : Heap) (L_ : List Loc) (lw : Int32) (lc : Int32) (w0 : Int32) (w1 : Int32) (c0 : Int32) (c1 : Int32) (wa : Addr) (tw : Addr) (kw : ClassId) (dw : List Int32) (X_ : Stand p l e room_1 (s.setVm vm_) m #[(.int i0), (.int i1), (.int i2)] below meth c T_ L_ 10 600) (e_ : T_.heap = h_) (hS : s.Since vm_ kk_) (hk : kk_ ≤ h_.size) (hZ : Z.Warmed39 (s.setVm vm_).vm) (hown : (s.setVm vm_).vm.findClass "com/example/levy/levy/store/StoreExceptionUnknownPinLaw" = some m.cls) (O_ : Old Z n0 h_) (K_ : Keep h0 h_ []) (N_ : Fr n0 L_) (HC_ : CHv Z own_EL vm_ h_) (RC_ : CHr Z own_EL s.vm h0 vm_ h_) (hj0 : Exa Z h_ wa "java/lang/String") (hj1 : Fld Z h_ wa "java/lang/String" "value" "[B" (.ref tw)) (hj2 : Fld Z h_ wa "java/lang/String" "coder" "B" (.int (own_i (own_cd dw)))) (hj3 : Arv Z h_ tw kw .byte (own_i (own_wd (own_cd dw) dw.length)) ((own_enc (own_cd dw) dw).map Value.int) (.int 0)) (hfw : ((lw = (1 : Int32) ∧ dw = [w0, w1]) ∨ (lw = (0 : Int32) ∧ dw = own_nil))) (hdw : (own_Ch dw)) (hlw : (dw.length = 0 ∨ dw.length = 2)) (r_w0 : (¬ w0 < (0 : Int32) ∧ ¬ (65535 : Int32) < w0)) (r_w1 : (¬ w1 < (0 : Int32) ∧ ¬ (65535 : Int32) < w1)) (r_c0 : (¬ c0 < (0 : Int32) ∧ ¬ (65535 : Int32) < c0)) (r_c1 : (¬ c1 < (0 : Int32) ∧ ¬ (65535 : Int32) < c1)) (h01lc : (lc = (0 : Int32) ∨ lc = (1 : Int32))) (pre_ : ∀ tg_, Steps p.tables e below (T_.setTop (mkF m 86 #[vI i0, vI i1, vI i2, vI lw, vI lc, vI w0, vI w1, vI c0, vI c1, vR wa, .unset, .unset, .unset] [])) tg_ → Steps p.tables e below (s₁.setTop (entryFrame m #[(.int i0), (.int i1), (.int i2)] maxLocals)) tg_), G_) ?_ ?_
    · intro vm_ kk_ T_ h_ L_ lw lc w0 w1 c0 c1 wa tw kw dw X_ e_ hS hk hZ hown O_ K_ N_ HC_ RC_ hj0 hj1 hj2 hj3 hfw hdw hlw r_w0 r_w1 r_c0 r_c1 h01lc pre_
      have hZ_j1 := hZ
      have pre22 := fun tg_ (kt_ : Steps p.tables e below (T_.setTop (mkF m 88 #[vI i0, vI i1, vI i2, vI lw, vI lc, vI w0, vI w1, vI c0, vI c1, vR wa, .unset, .unset, .unset] [(.int lc)])) tg_) => pre_ tg_ (by
        refine XS.iload X_.here hx rfl (hb hby at_86) rfl ?_
        exact kt_)
      by_cases hc23 : lc = (0 : Int32)
      · obtain ⟨T24, h24, X24, e24, E24, A24, D24, U24, st24⟩ := newO X_ hx hZ hown (hw _ w_0) (hw _ w_1) (hw _ w_2) e_ (g := (mkF m 114 #[vI i0, vI i1, vI i2, vI lw, vI lc, vI w0, vI w1, vI c0, vI c1, vR wa, .unset, .unset, .unset] [])) rfl (hb hby at_114) (by decide) (by decide)
        obtain ⟨b24, g24⟩ : ∃ z, z = h_.size := ⟨_, rfl⟩
        rw [← g24] at A24 D24 U24 st24
        have Un24 : Unt h24 b24 := U24
        have sz24 : h0.size ≤ b24 := Nat.le_trans K_.1 (Nat.le_of_eq g24.symm)
        have gn24 : n0 ≤ b24 := Nat.le_trans Z0 sz24
        have O24 : Old Z n0 h24 := O_.ext E24
        have K24 : Keep h0 h24 [] := K_.ext E24
        have hk := Nat.le_trans hk E24.1
        have HC24 := CHv.ext E24 HC_
        have RC24 := RC_.trans (CHr.ext E24 HC_)
        have F24_16 : Fld Z h24 b24 "java/lang/String" "value" "[B" .null := D24 (Or.inr (hw _ w_16)) (ty := (.array .byte)) (by decide)
        have F24_17 : Fld Z h24 b24 "java/lang/String" "coder" "B" (.int 0) := D24 (Or.inr (hw _ w_17)) (ty := .byte) (by decide)
        obtain ⟨T26, h26, k26, X26, e26, E26, A26, st26⟩ := newP X24 hx hZ (hw (Jvm.Cond.arrayClass (newarray.typeOf .char)) w_3) e24 (g := (mkF m 119 #[vI i0, vI i1, vI i2, vI lw, vI lc, vI w0, vI w1, vI c0, vI c1, vR wa, .unset, .unset, .unset] [(.int 0), (.ref b24), (.ref b24)])) rfl (hb hby at_119) rfl (by decide) (cap := 0) (by decide) (by decide) (by decide) (by decide)
        obtain ⟨b26, g26⟩ : ∃ z, z = h24.size := ⟨_, rfl⟩
        rw [← g26] at A26 st26
        have sz26 : h0.size ≤ b26 := Nat.le_trans K24.1 (Nat.le_of_eq g26.symm)
        have gn26 : n0 ≤ b26 := Nat.le_trans Z0 sz26
        have O26 : Old Z n0 h26 := O24.ext E26
        have K26 : Keep h0 h26 [] := K24.ext E26
        have hk := Nat.le_trans hk E26.1
        have HC26 := CHv.ext E26 HC24
        have RC26 := RC24.trans (CHr.ext E26 HC24)
        have V26 : Arv Z h26 b26 k26 .char (0 : Int32) [] (.int 0) := (Arv.new A26 (by decide)).pad (pad_rep [] (.int 0) 0)
        obtain ⟨_, _, ⟨T28, L28, k28, n28⟩, -, Xh28, Sh28, gh28, ⟨Lc28, hQ28, l28, y28, z28, R28⟩, st28⟩ := X26.specialBackS hx (y := mN13) rfl hown (mvT hZ (hw _ w_4)) (mvT hZ (hw _ w_5)) (mvT hZ (hw _ w_6)) (by decide) (backOfSH (s := s) (W := 1) (rmstrE1 l Z a0 hw [] b24 b26 (.int 0) k26 h26 n0 O26 (A24.ext E26) gn24 (F24_16.ext E26) (F24_17.ext E26) V26) hZ (hw _ w_6) (hw _ w_2) (by decide) (by decide) hEL HC26) (g := (mkF m 121 #[vI i0, vI i1, vI i2, vI lw, vI lc, vI w0, vI w1, vI c0, vI c1, vR wa, .unset, .unset, .unset] [(.ref b26), (.ref b24), (.ref b24)])) rfl (by rw [hml]; rfl) (Steps.refl _) (a := b24) (argsL := [(.ref b26)]) (rest := [(.ref b24)]) (lenOf pd__AC_V rfl) rfl (by show 2 * 0 + _ ≤ _; exact Nat.le_of_eq rfl) (hb hby at_121) (fun _ _ => ⟨rfl, e26, (by decide : 12 + 4 ≤ _), (by decide : 604 + 8 ≤ _)⟩)
        dsimp only [Pt.U, Pt.locs, Pt.cells, Pt.slots] at Xh28 Sh28 gh28 l28 y28 z28 R28 st28 hQ28
        subst l28 y28 z28
        obtain ⟨X28, hS, hZ, hown⟩ := rebS hS (show _ ≤ T26.heap.size by rw [e26]; exact hk) Xh28 Sh28 gh28 hZ hown
        have hk := Nat.le_refl T28.heap.size
        have hZ28 := hZ
        obtain ⟨t_28, kt_28, rfl, N28q, Kc28, r28_1, r28_2, r28_3, r28_4⟩ := hQ28
        have N28 := Fr.app N_ N28q
        have O28 : Old Z n0 T28.heap := O26.keep Kc28 (allS gn24 all0)
        have K28 : Keep h0 T28.heap [] := K26.trans Kc28 (allS (Or.inr sz24) all0)
        have HC28 := R28.1
        have RC28 := RC26.trans R28
        have Fr29 : Fld Z T28.heap b24 "java/lang/String" "coder" "B" (.int (own_i (own_cd own_nil))) := by
          have q := r28_3
          exact q
        have Fr30 : Arv Z T28.heap t_28 kt_28 .byte (own_i (own_wd (own_cd own_nil) own_nil.length)) ((own_enc (own_cd own_nil) own_nil).map Value.int) (.int 0) := by
          have q := r28_4
          exact q
        have pre31 := fun tg_ (kt_ : Steps p.tables e below (T28.setTop (mkF m 126 #[vI i0, vI i1, vI i2, vI lw, vI lc, vI w0, vI w1, vI c0, vI c1, vR wa, vR b24, .unset, .unset] [])) tg_) => pre22 tg_ (by
          refine XS.ifYes X_.here hx rfl (pc0 := 88) (pc' := 114) rfl (hb hby at_88) rfl ((if0 _ _).trans (teq hc23).1) (by decide) (by decide) ?_
          refine st24 _ ?_
          refine XS.dup X24.here hx rfl (hb hby at_117) rfl rfl ?_
          refine XS.iconst X24.here hx rfl (hb hby at_118) ?_
          refine st26 _ ?_
          refine st28.trans ?_
          refine XS.astore X28.here hx rfl (hb hby at_124) rfl rfl (l' := #[vI i0, vI i1, vI i2, vI lw, vI lc, vI w0, vI w1, vI c0, vI c1, vR wa, vR b24, .unset, .unset]) rfl ?_
          exact kt_)
        exact j2 _ _ T28 T28.heap _ lw lc w0 w1 c0 c1 wa tw kw dw b24 t_28 kt_28 own_nil (Stand.more X28 (by decide) (by decide)) rfl hS hk hZ hown O28 K28 N28 HC28 RC28 (((hj0.ext E24).ext E26).keep Kc28) (((hj1.ext E24).ext E26).keep Kc28 (ninS (Nat.ne_of_lt (Nat.lt_of_lt_of_le hj0.lt (Nat.le_of_eq g24.symm))) nin0)) (((hj2.ext E24).ext E26).keep Kc28 (ninS (Nat.ne_of_lt (Nat.lt_of_lt_of_le hj0.lt (Nat.le_of_eq g24.symm))) nin0)) (((hj3.ext E24).ext E26).keep Kc28 (ninS (Nat.ne_of_lt (Nat.lt_of_lt_of_le hj3.lt (Nat.le_of_eq g24.symm))) nin0)) hfw hdw hlw r28_1 r28_2 Fr29 Fr30 (Or.inr ⟨hc23, rfl⟩) own_chn (Or.inl rfl) r_w0 r_w1 r_c0 r_c1 pre31
      · obtain ⟨T32, h32, X32, e32, E32, A32, D32, U32, st32⟩ := newO X_ hx hZ hown (hw _ w_0) (hw _ w_1) (hw _ w_2) e_ (g := (mkF m 91 #[vI i0, vI i1, vI i2, vI lw, vI lc, vI w0, vI w1, vI c0, vI c1, vR wa, .unset, .unset, .unset] [])) rfl (hb hby at_91) (by decide) (by decide)
        obtain ⟨b32, g32⟩ : ∃ z, z = h_.size := ⟨_, rfl⟩
        rw [← g32] at A32 D32 U32 st32
        have Un32 : Unt h32 b32 := U32
        have sz32 : h0.size ≤ b32 := Nat.le_trans K_.1 (Nat.le_of_eq g32.symm)
        have gn32 : n0 ≤ b32 := Nat.le_trans Z0 sz32
        have O32 : Old Z n0 h32 := O_.ext E32
        have K32 : Keep h0 h32 [] := K_.ext E32
        have hk := Nat.le_trans hk E32.1
        have HC32 := CHv.ext E32 HC_
        have RC32 := RC_.trans (CHr.ext E32 HC_)
        have F32_16 : Fld Z h32 b32 "java/lang/String" "value" "[B" .null := D32 (Or.inr (hw _ w_16)) (ty := (.array .byte)) (by decide)
        have F32_17 : Fld Z h32 b32 "java/lang/String" "coder" "B" (.int 0) := D32 (Or.inr (hw _ w_17)) (ty := .byte) (by decide)
        obtain ⟨T34, h34, k34, X34, e34, E34, A34, st34⟩ := newP X32 hx hZ (hw (Jvm.Cond.arrayClass (newarray.typeOf .char)) w_3) e32 (g := (mkF m 96 #[vI i0, vI i1, vI i2, vI lw, vI lc, vI w0, vI w1, vI c0, vI c1, vR wa, .unset, .unset, .unset] [(.int 2), (.ref b32), (.ref b32)])) rfl (hb hby at_96) rfl (by decide) (cap := 2) (by decide) (by decide) (by decide) (by decide)
        obtain ⟨b34, g34⟩ : ∃ z, z = h32.size := ⟨_, rfl⟩
        rw [← g34] at A34 st34
        have sz34 : h0.size ≤ b34 := Nat.le_trans K32.1 (Nat.le_of_eq g34.symm)
        have gn34 : n0 ≤ b34 := Nat.le_trans Z0 sz34
        have O34 : Old Z n0 h34 := O32.ext E34
        have K34 : Keep h0 h34 [] := K32.ext E34
        have hk := Nat.le_trans hk E34.1
        have HC34 := CHv.ext E34 HC32
        have RC34 := RC32.trans (CHr.ext E34 HC32)
        have V34 : Arv Z h34 b34 k34 .char (2 : Int32) [(.int 0), (.int 0)] (.int 0) := (Arv.new A34 (by decide)).pad (pad_rep [] (.int 0) 2)
        obtain ⟨cl36, Ar36, q36, S36, Ng36, H36, G36⟩ := id V34
        have hin36 : ¬ ((0 : Int32) < 0 ∨ cl36.slots.size ≤ ((0 : Int32)).toNatClampNeg) := inb_of S36 ⟨by decide, by decide⟩
        obtain ⟨T36, h36, X36, e36, W36, st36⟩ := stC X34 hx hZ e34 Ar36 (j := (0 : Int32)) hin36 (g := (mkF m 102 #[vI i0, vI i1, vI i2, vI lw, vI lc, vI w0, vI w1, vI c0, vI c1, vR wa, .unset, .unset, .unset] [(.int c0), (.int 0), (.ref b34), (.ref b34), (.ref b32), (.ref b32)])) rfl rfl (hb hby at_102)
        have V36 : Arv Z h36 b34 k34 .char (2 : Int32) [(.int (nar .char c0)), (.int 0)] (.int 0) := Arv.set Ar36 q36 S36 Ng36 H36 G36 (fits_nar_char _) W36 0 rfl (Nat.le_of_ble_eq_true rfl)
        have N36 := Fr.snoc X36 N_ gn34
        have O36 : Old Z n0 h36 := O34.wr W36 gn34
        have K36 : Keep h0 h36 [] := K34.wr W36 (Or.inr sz34)
        have hk := Nat.le_trans hk (Keep.of_wr W36).1
        have HC36 := CHv.wr W36 (Safe.ext E34 HC32 (Safe.new (Z := Z) (EL := own_EL) (vm := _) (Nat.le_of_eq g34.symm))) HC34
        have RC36 := RC34.trans (CHr.wr W36 (Safe.ext E34 HC32 (Safe.new (Z := Z) (EL := own_EL) (vm := _) (Nat.le_of_eq g34.symm))) HC34)
        obtain ⟨cl37, Ar37, q37, S37, Ng37, H37, G37⟩ := id V36
        have hin37 : ¬ ((1 : Int32) < 0 ∨ cl37.slots.size ≤ ((1 : Int32)).toNatClampNeg) := inb_of S37 ⟨by decide, by decide⟩
        obtain ⟨T37, h37, X37, e37, W37, st37⟩ := stC X36 hx hZ e36 Ar37 (j := (1 : Int32)) hin37 (g := (mkF m 107 #[vI i0, vI i1, vI i2, vI lw, vI lc, vI w0, vI w1, vI c0, vI c1, vR wa, .unset, .unset, .unset] [(.int c1), (.int 1), (.ref b34), (.ref b34), (.ref b32), (.ref b32)])) rfl rfl (hb hby at_107)
        have V37 : Arv Z h37 b34 k34 .char (2 : Int32) [(.int (nar .char c0)), (.int (nar .char c1))] (.int 0) := Arv.set Ar37 q37 S37 Ng37 H37 G37 (fits_nar_char _) W37 1 rfl (Nat.le_of_ble_eq_true rfl)
        have N37 := Fr.snoc X37 N36 gn34
        have O37 : Old Z n0 h37 := O36.wr W37 gn34
        have K37 : Keep h0 h37 [] := K36.wr W37 (Or.inr sz34)
        have hk := Nat.le_trans hk (Keep.of_wr W37).1
        have HC37 := CHv.wr W37 (Safe.wr W36 (Safe.ext E34 HC32 (Safe.new (Z := Z) (EL := own_EL) (vm := _) (Nat.le_of_eq g34.symm))) HC34 (Safe.ext E34 HC32 (Safe.new (Z := Z) (EL := own_EL) (vm := _) (Nat.le_of_eq g34.symm)))) HC36
        have RC37 := RC36.trans (CHr.wr W37 (Safe.wr W36 (Safe.ext E34 HC32 (Safe.new (Z := Z) (EL := own_EL) (vm := _) (Nat.le_of_eq g34.symm))) HC34 (Safe.ext E34 HC32 (Safe.new (Z := Z) (EL := own_EL) (vm := _) (Nat.le_of_eq g34.symm)))) HC36)
        have Vr38 : Arv Z h37 b34 k34 .char (2 : Int32) [(.int c0), (.int c1)] (.int 0) := by
          have q := V37
          rw [own_narc r_c0, own_narc r_c1] at q; exact q
        obtain ⟨_, _, ⟨T39, L39, k39, n39⟩, -, X39, ⟨Lc39, hQ39, l39, y39, z39⟩, st39⟩ := X37.specialBack hx (y := mN13) rfl hown (mvT hZ (hw _ w_4)) (mvT hZ (hw _ w_5)) (mvT hZ (hw _ w_6)) (by decide) (backOf (W := 1) (rmstrC1 l Z a0 hw [] b32 b34 .null (.int 0) 2 k34 [c0, c1] cz h37 n0 O37 (((A32.ext E34).wr W36).wr W37) gn32 (((F32_16.ext E34).other W36 (Or.inl (Nat.ne_of_lt (Nat.lt_of_lt_of_le A32.lt (Nat.le_of_eq g34.symm))))).other W37 (Or.inl (Nat.ne_of_lt (Nat.lt_of_lt_of_le A32.lt (Nat.le_of_eq g34.symm))))) (((F32_17.ext E34).other W36 (Or.inl (Nat.ne_of_lt (Nat.lt_of_lt_of_le A32.lt (Nat.le_of_eq g34.symm))))).other W37 (Or.inl (Nat.ne_of_lt (Nat.lt_of_lt_of_le A32.lt (Nat.le_of_eq g34.symm))))) Vr38 (by decide) (by decide) rfl (own_ch2 r_c0 r_c1) hp0 hp1 hp2 hp5 hcz) hZ (hw _ w_6) (hw _ w_2) (by decide) (by decide)) (g := (mkF m 108 #[vI i0, vI i1, vI i2, vI lw, vI lc, vI w0, vI w1, vI c0, vI c1, vR wa, .unset, .unset, .unset] [(.ref b34), (.ref b32), (.ref b32)])) rfl (by rw [hml]; rfl) (Steps.refl _) (a := b32) (argsL := [(.ref b34)]) (rest := [(.ref b32)]) (lenOf pd__AC_V rfl) rfl (by show 2 * 0 + _ ≤ _; exact Nat.le_of_eq rfl) (hb hby at_108) (fun _ _ => ⟨rfl, e37, (by decide : 12 + 2 ≤ _), (by decide : 606 + 200 ≤ _)⟩)
        dsimp only [Pt.U, Pt.locs, Pt.cells, Pt.slots] at X39 l39 y39 z39 st39 hQ39
        subst l39 y39 z39
        obtain ⟨t_39, kt_39, rfl, N39q, Kc39, r39_1, r39_2, r39_3, r39_4, r39_5⟩ := hQ39
        have N39 := Fr.app N37 N39q
        have sz40 : h0.size ≤ t_39 := Nat.le_trans K37.1 r39_1
        have gn40 : n0 ≤ t_39 := Nat.le_trans Z0 sz40
        have O39 : Old Z n0 T39.heap := O37.keep Kc39 (allS gn32 all0)
        have K39 : Keep h0 T39.heap [] := K37.trans Kc39 (allS (Or.inr sz32) all0)
        have hk := Nat.le_trans hk Kc39.1
        have HC39 := CHv.keep Kc39 (allS (Safe.wr W37 (Safe.wr W36 (Safe.ext E34 HC32 (Safe.new (Z := Z) (EL := own_EL) (vm := _) (Nat.le_of_eq g34.symm))) HC34 (Safe.ext E34 HC32 (Safe.new (Z := Z) (EL := own_EL) (vm := _) (Nat.le_of_eq g34.symm)))) HC36 (Safe.wr W36 (Safe.ext E34 HC32 (Safe.new (Z := Z) (EL := own_EL) (vm := _) (Nat.le_of_eq g34.symm))) HC34 (Safe.ext E34 HC32 (Safe.ext E32 HC_ (Safe.new (Z := Z) (EL := own_EL) (vm := _) (Nat.le_of_eq g32.symm)))))) all0) HC37
        have RC39 := RC37.trans (CHr.keep Kc39 (allS (Safe.wr W37 (Safe.wr W36 (Safe.ext E34 HC32 (Safe.new (Z := Z) (EL := own_EL) (vm := _) (Nat.le_of_eq g34.symm))) HC34 (Safe.ext E34 HC32 (Safe.new (Z := Z) (EL := own_EL) (vm := _) (Nat.le_of_eq g34.symm)))) HC36 (Safe.wr W36 (Safe.ext E34 HC32 (Safe.new (Z := Z) (EL := own_EL) (vm := _) (Nat.le_of_eq g34.symm))) HC34 (Safe.ext E34 HC32 (Safe.ext E32 HC_ (Safe.new (Z := Z) (EL := own_EL) (vm := _) (Nat.le_of_eq g32.symm)))))) all0) HC37)
        have pre42 := fun tg_ (kt_ : Steps p.tables e below (T39.setTop (mkF m 126 #[vI i0, vI i1, vI i2, vI lw, vI lc, vI w0, vI w1, vI c0, vI c1, vR wa, vR b32, .unset, .unset] [])) tg_) => pre22 tg_ (by
          refine XS.ifNo X_.here hx rfl (hb hby at_88) rfl ((if0 _ _).trans (feq hc23).1) ?_
          refine st32 _ ?_
          refine XS.dup X32.here hx rfl (hb hby at_94) rfl rfl ?_
          refine XS.iconst X32.here hx rfl (hb hby at_95) ?_
          refine st34 _ ?_
          refine XS.dup X34.here hx rfl (hb hby at_98) rfl rfl ?_
          refine XS.iconst X34.here hx rfl (hb hby at_99) ?_
          refine XS.iload X34.here hx rfl (hb hby at_100) rfl ?_
          refine st36 _ ?_
          refine XS.dup X36.here hx rfl (hb hby at_103) rfl rfl ?_
          refine XS.iconst X36.here hx rfl (hb hby at_104) ?_
          refine XS.iload X36.here hx rfl (hb hby at_105) rfl ?_
          show Steps _ _ _ (T36.setTop (mkF m 107 #[vI i0, vI i1, vI i2, vI lw, vI lc, vI w0, vI w1, vI c0, vI c1, vR wa, .unset, .unset, .unset] [(.int c1), (.int 1), (.ref b34), (.ref b34), (.ref b32), (.ref b32)])) _
          refine st37 _ ?_
          refine st39.trans ?_
          refine XS.goto X39.here hx rfl (pc0 := 111) (pc' := 124) rfl (hb hby at_111) (by decide) (by decide) ?_
          refine XS.astore X39.here hx rfl (hb hby at_124) rfl rfl (l' := #[vI i0, vI i1, vI i2, vI lw, vI lc, vI w0, vI w1, vI c0, vI c1, vR wa, vR b32, .unset, .unset]) rfl ?_
          exact kt_)
        exact j2 _ _ T39 T39.heap _ lw lc w0 w1 c0 c1 wa tw kw dw b32 t_39 kt_39 [c0, c1] (Stand.more X39 (by decide) (by decide)) rfl hS hk hZ hown O39 K39 N39 HC39 RC39 (((((hj0.ext E32).ext E34).wr W36).wr W37).keep Kc39) (((((hj1.ext E32).ext E34).other W36 (Or.inl (Nat.ne_of_lt (Nat.lt_of_lt_of_le (hj0.ext E32).lt (Nat.le_of_eq g34.symm))))).other W37 (Or.inl (Nat.ne_of_lt (Nat.lt_of_lt_of_le (hj0.ext E32).lt (Nat.le_of_eq g34.symm))))).keep Kc39 (ninS (Nat.ne_of_lt (Nat.lt_of_lt_of_le hj0.lt (Nat.le_of_eq g32.symm))) nin0)) (((((hj2.ext E32).ext E34).other W36 (Or.inl (Nat.ne_of_lt (Nat.lt_of_lt_of_le (hj0.ext E32).lt (Nat.le_of_eq g34.symm))))).other W37 (Or.inl (Nat.ne_of_lt (Nat.lt_of_lt_of_le (hj0.ext E32).lt (Nat.le_of_eq g34.symm))))).keep Kc39 (ninS (Nat.ne_of_lt (Nat.lt_of_lt_of_le hj0.lt (Nat.le_of_eq g32.symm))) nin0)) (((((hj3.ext E32).ext E34).other W36 (Nat.ne_of_lt (Nat.lt_of_lt_of_le (Nat.lt_of_lt_of_le hj3.lt E32.1) (Nat.le_of_eq g34.symm)))).other W37 (Nat.ne_of_lt (Nat.lt_of_lt_of_le (Nat.lt_of_lt_of_le hj3.lt E32.1) (Nat.le_of_eq g34.symm)))).keep Kc39 (ninS (Nat.ne_of_lt (Nat.lt_of_lt_of_le hj3.lt (Nat.le_of_eq g32.symm))) nin0)) hfw hdw hlw r39_2 r39_3 r39_4 r39_5 (Or.inl ⟨(h01lc.resolve_left hc23), rfl⟩) (own_ch2 r_c0 r_c1) (Or.inr rfl) r_w0 r_w1 r_c0 r_c1 pre42
    · intro j1
      refine own_cut (fun G_ => ∀ (vm_ : Vm) (kk_ : Nat) (T_ : State) (h_ : Heap) (L_ : List Loc) (lw : Int32) (lc : Int32) (X_ : Stand p l e room_1 (s.setVm vm_) m #[(.int i0), (.int i1), (.int i2)] below meth c T_ L_ 0 0) (e_ : T_.heap = h_) (hS : s.Since vm_ kk_) (hk : kk_ ≤ h_.size) (hZ : Z.Warmed39 (s.setVm vm_).vm) (hown : (s.setVm vm_).vm.findClass "com/example/levy/levy/store/StoreExceptionUnknownPinLaw" = some m.cls) (O_ : Old Z n0 h_) (K_ : Keep h0 h_ []) (N_ : Fr n0 L_) (HC_ : CHv Z own_EL vm_ h_) (RC_ : CHr Z own_EL s.vm h0 vm_ h_) (h01lw : (lw = (0 : Int32) ∨ lw = (1 : Int32))) (h01lc : (lc = (0 : Int32) ∨ lc = (1 : Int32))) (pre_ : ∀ tg_, Steps p.tables e below (T_.setTop (mkF m 25 #[vI i0, vI i1, vI i2, vI lw, vI lc, .unset, .unset, .unset, .unset, .unset, .unset, .unset, .unset] [])) tg_ → Steps p.tables e below (s₁.setTop (entryFrame m #[(.int i0), (.int i1), (.int i2)] maxLocals)) tg_), G_) ?_ ?_
      · intro vm_ kk_ T_ h_ L_ lw lc X_ e_ hS hk hZ hown O_ K_ N_ HC_ RC_ h01lw h01lc pre_
        have hZ_j0 := hZ
        have pre43 := fun tg_ (kt_ : Steps p.tables e below (T_.setTop (mkF m 27 #[vI i0, vI i1, vI i2, vI lw, vI lc, .unset, .unset, .unset, .unset, .unset, .unset, .unset, .unset] [(.int (i1.toUInt32.toUInt16.toUInt32.toInt32))])) tg_) => pre_ tg_ (by
          refine XS.iloadN X_.here hx rfl (hb hby at_25) rfl ?_
          refine XS.i2c X_.here hx rfl (hb hby at_26) rfl ?_
          exact kt_)
        obtain ⟨w0, hg_w0⟩ : ∃ z, z = (i1.toUInt32.toUInt16.toUInt32.toInt32) := ⟨_, rfl⟩
        rw [← hg_w0] at pre43
        have r_w0 : ¬ w0 < (0 : Int32) ∧ ¬ (65535 : Int32) < w0 := by rw [hg_w0]; exact own_i2c _
        have pre44 := fun tg_ (kt_ : Steps p.tables e below (T_.setTop (mkF m 34 #[vI i0, vI i1, vI i2, vI lw, vI lc, vI w0, .unset, .unset, .unset, .unset, .unset, .unset, .unset] [(.int (((i1.toUInt32 >>> ((16 : Int32) &&& 31).toUInt32).toInt32).toUInt32.toUInt16.toUInt32.toInt32))])) tg_) => pre43 tg_ (by
          refine XS.istore X_.here hx rfl (hb hby at_27) rfl (l' := #[vI i0, vI i1, vI i2, vI lw, vI lc, vI w0, .unset, .unset, .unset, .unset, .unset, .unset, .unset]) rfl ?_
          refine XS.iloadN X_.here hx rfl (hb hby at_29) rfl ?_
          refine XS.bipush X_.here hx rfl (hb hby at_30) ?_
          refine XS.iushr X_.here hx rfl (hb hby at_32) rfl ?_
          refine XS.i2c X_.here hx rfl (hb hby at_33) rfl ?_
          exact kt_)
        obtain ⟨w1, hg_w1⟩ : ∃ z, z = (((i1.toUInt32 >>> ((16 : Int32) &&& 31).toUInt32).toInt32).toUInt32.toUInt16.toUInt32.toInt32) := ⟨_, rfl⟩
        rw [← hg_w1] at pre44
        have r_w1 : ¬ w1 < (0 : Int32) ∧ ¬ (65535 : Int32) < w1 := by rw [hg_w1]; exact own_i2c _
        have pre45 := fun tg_ (kt_ : Steps p.tables e below (T_.setTop (mkF m 38 #[vI i0, vI i1, vI i2, vI lw, vI lc, vI w0, vI w1, .unset, .unset, .unset, .unset, .unset, .unset] [(.int (i2.toUInt32.toUInt16.toUInt32.toInt32))])) tg_) => pre44 tg_ (by
          refine XS.istore X_.here hx rfl (hb hby at_34) rfl (l' := #[vI i0, vI i1, vI i2, vI lw, vI lc, vI w0, vI w1, .unset, .unset, .unset, .unset, .unset, .unset]) rfl ?_
          refine XS.iloadN X_.here hx rfl (hb hby at_36) rfl ?_
          refine XS.i2c X_.here hx rfl (hb hby at_37) rfl ?_
          exact kt_)
        obtain ⟨c0, hg_c0⟩ : ∃ z, z = (i2.toUInt32.toUInt16.toUInt32.toInt32) := ⟨_, rfl⟩
        rw [← hg_c0] at pre45
        have r_c0 : ¬ c0 < (0 : Int32) ∧ ¬ (65535 : Int32) < c0 := by rw [hg_c0]; exact own_i2c _
        have pre46 := fun tg_ (kt_ : Steps p.tables e below (T_.setTop (mkF m 45 #[vI i0, vI i1, vI i2, vI lw, vI lc, vI w0, vI w1, vI c0, .unset, .unset, .unset, .unset, .unset] [(.int (((i2.toUInt32 >>> ((16 : Int32) &&& 31).toUInt32).toInt32).toUInt32.toUInt16.toUInt32.toInt32))])) tg_) => pre45 tg_ (by
          refine XS.istore X_.here hx rfl (hb hby at_38) rfl (l' := #[vI i0, vI i1, vI i2, vI lw, vI lc, vI w0, vI w1, vI c0, .unset, .unset, .unset, .unset, .unset]) rfl ?_
          refine XS.iloadN X_.here hx rfl (hb hby at_40) rfl ?_
          refine XS.bipush X_.here hx rfl (hb hby at_41) ?_
          refine XS.iushr X_.here hx rfl (hb hby at_43) rfl ?_
          refine XS.i2c X_.here hx rfl (hb hby at_44) rfl ?_
          exact kt_)
        obtain ⟨c1, hg_c1⟩ : ∃ z, z = (((i2.toUInt32 >>> ((16 : Int32) &&& 31).toUInt32).toInt32).toUInt32.toUInt16.toUInt32.toInt32) := ⟨_, rfl⟩
        rw [← hg_c1] at pre46
        have r_c1 : ¬ c1 < (0 : Int32) ∧ ¬ (65535 : Int32) < c1 := by rw [hg_c1]; exact own_i2c _
        have pre47 := fun tg_ (kt_ : Steps p.tables e below (T_.setTop (mkF m 48 #[vI i0, vI i1, vI i2, vI lw, vI lc, vI w0, vI w1, vI c0, vI c1, .unset, .unset, .unset, .unset] [(.int lw)])) tg_) => pre46 tg_ (by
          refine XS.istore X_.here hx rfl (hb hby at_45) rfl (l' := #[vI i0, vI i1, vI i2, vI lw, vI lc, vI w0, vI w1, vI c0, vI c1, .unset, .unset, .unset, .unset]) rfl ?_
          refine XS.iloadN X_.here hx rfl (hb hby at_47) rfl ?_
          exact kt_)
        by_cases hc48 : lw = (0 : Int32)
        · obtain ⟨T49, h49, X49, e49, E49, A49, D49, U49, st49⟩ := newO X_ hx hZ hown (hw _ w_0) (hw _ w_1) (hw _ w_2) e_ (g := (mkF m 74 #[vI i0, vI i1, vI i2, vI lw, vI lc, vI w0, vI w1, vI c0, vI c1, .unset, .unset, .unset, .unset] [])) rfl (hb hby at_74) (by decide) (by decide)
          obtain ⟨b49, g49⟩ : ∃ z, z = h_.size := ⟨_, rfl⟩
          rw [← g49] at A49 D49 U49 st49
          have Un49 : Unt h49 b49 := U49
          have sz49 : h0.size ≤ b49 := Nat.le_trans K_.1 (Nat.le_of_eq g49.symm)
          have gn49 : n0 ≤ b49 := Nat.le_trans Z0 sz49
          have O49 : Old Z n0 h49 := O_.ext E49
          have K49 : Keep h0 h49 [] := K_.ext E49
          have hk := Nat.le_trans hk E49.1
          have HC49 := CHv.ext E49 HC_
          have RC49 := RC_.trans (CHr.ext E49 HC_)
          have F49_16 : Fld Z h49 b49 "java/lang/String" "value" "[B" .null := D49 (Or.inr (hw _ w_16)) (ty := (.array .byte)) (by decide)
          have F49_17 : Fld Z h49 b49 "java/lang/String" "coder" "B" (.int 0) := D49 (Or.inr (hw _ w_17)) (ty := .byte) (by decide)
          obtain ⟨T51, h51, k51, X51, e51, E51, A51, st51⟩ := newP X49 hx hZ (hw (Jvm.Cond.arrayClass (newarray.typeOf .char)) w_3) e49 (g := (mkF m 79 #[vI i0, vI i1, vI i2, vI lw, vI lc, vI w0, vI w1, vI c0, vI c1, .unset, .unset, .unset, .unset] [(.int 0), (.ref b49), (.ref b49)])) rfl (hb hby at_79) rfl (by decide) (cap := 0) (by decide) (by decide) (by decide) (by decide)
          obtain ⟨b51, g51⟩ : ∃ z, z = h49.size := ⟨_, rfl⟩
          rw [← g51] at A51 st51
          have sz51 : h0.size ≤ b51 := Nat.le_trans K49.1 (Nat.le_of_eq g51.symm)
          have gn51 : n0 ≤ b51 := Nat.le_trans Z0 sz51
          have O51 : Old Z n0 h51 := O49.ext E51
          have K51 : Keep h0 h51 [] := K49.ext E51
          have hk := Nat.le_trans hk E51.1
          have HC51 := CHv.ext E51 HC49
          have RC51 := RC49.trans (CHr.ext E51 HC49)
          have V51 : Arv Z h51 b51 k51 .char (0 : Int32) [] (.int 0) := (Arv.new A51 (by decide)).pad (pad_rep [] (.int 0) 0)
          obtain ⟨_, _, ⟨T53, L53, k53, n53⟩, -, Xh53, Sh53, gh53, ⟨Lc53, hQ53, l53, y53, z53, R53⟩, st53⟩ := X51.specialBackS hx (y := mN13) rfl hown (mvT hZ (hw _ w_4)) (mvT hZ (hw _ w_5)) (mvT hZ (hw _ w_6)) (by decide) (backOfSH (s := s) (W := 1) (rmstrE1 l Z a0 hw [] b49 b51 (.int 0) k51 h51 n0 O51 (A49.ext E51) gn49 (F49_16.ext E51) (F49_17.ext E51) V51) hZ (hw _ w_6) (hw _ w_2) (by decide) (by decide) hEL HC51) (g := (mkF m 81 #[vI i0, vI i1, vI i2, vI lw, vI lc, vI w0, vI w1, vI c0, vI c1, .unset, .unset, .unset, .unset] [(.ref b51), (.ref b49), (.ref b49)])) rfl (by rw [hml]; rfl) (Steps.refl _) (a := b49) (argsL := [(.ref b51)]) (rest := [(.ref b49)]) (lenOf pd__AC_V rfl) rfl (by show 2 * 0 + _ ≤ _; exact Nat.le_of_eq rfl) (hb hby at_81) (fun _ _ => ⟨rfl, e51, (by decide : 2 + 4 ≤ _), (by decide : 4 + 8 ≤ _)⟩)
          dsimp only [Pt.U, Pt.locs, Pt.cells, Pt.slots] at Xh53 Sh53 gh53 l53 y53 z53 R53 st53 hQ53
          subst l53 y53 z53
          obtain ⟨X53, hS, hZ, hown⟩ := rebS hS (show _ ≤ T51.heap.size by rw [e51]; exact hk) Xh53 Sh53 gh53 hZ hown
          have hk := Nat.le_refl T53.heap.size
          have hZ53 := hZ
          obtain ⟨t_53, kt_53, rfl, N53q, Kc53, r53_1, r53_2, r53_3, r53_4⟩ := hQ53
          have N53 := Fr.app N_ N53q
          have O53 : Old Z n0 T53.heap := O51.keep Kc53 (allS gn49 all0)
          have K53 : Keep h0 T53.heap [] := K51.trans Kc53 (allS (Or.inr sz49) all0)
          have HC53 := R53.1
          have RC53 := RC51.trans R53
          have Fr54 : Fld Z T53.heap b49 "java/lang/String" "coder" "B" (.int (own_i (own_cd own_nil))) := by
            have q := r53_3
            exact q
          have Fr55 : Arv Z T53.heap t_53 kt_53 .byte (own_i (own_wd (own_cd own_nil) own_nil.length)) ((own_enc (own_cd own_nil) own_nil).map Value.int) (.int 0) := by
            have q := r53_4
            exact q
          have pre56 := fun tg_ (kt_ : Steps p.tables e below (T53.setTop (mkF m 86 #[vI i0, vI i1, vI i2, vI lw, vI lc, vI w0, vI w1, vI c0, vI c1, vR b49, .unset, .unset, .unset] [])) tg_) => pre47 tg_ (by
            refine XS.ifYes X_.here hx rfl (pc0 := 48) (pc' := 74) rfl (hb hby at_48) rfl ((if0 _ _).trans (teq hc48).1) (by decide) (by decide) ?_
            show Steps _ _ _ (T_.setTop (mkF m 74 #[vI i0, vI i1, vI i2, vI lw, vI lc, vI w0, vI w1, vI c0, vI c1, .unset, .unset, .unset, .unset] [])) _
            refine st49 _ ?_
            refine XS.dup X49.here hx rfl (hb hby at_77) rfl rfl ?_
            refine XS.iconst X49.here hx rfl (hb hby at_78) ?_
            refine st51 _ ?_
            refine st53.trans ?_
            refine XS.astore X53.here hx rfl (hb hby at_84) rfl rfl (l' := #[vI i0, vI i1, vI i2, vI lw, vI lc, vI w0, vI w1, vI c0, vI c1, vR b49, .unset, .unset, .unset]) rfl ?_
            exact kt_)
          exact j1 _ _ T53 T53.heap _ lw lc w0 w1 c0 c1 b49 t_53 kt_53 own_nil (Stand.more X53 (by decide) (by decide)) rfl hS hk hZ hown O53 K53 N53 HC53 RC53 r53_1 r53_2 Fr54 Fr55 (Or.inr ⟨hc48, rfl⟩) own_chn (Or.inl rfl) r_w0 r_w1 r_c0 r_c1 h01lc pre56
        · obtain ⟨T57, h57, X57, e57, E57, A57, D57, U57, st57⟩ := newO X_ hx hZ hown (hw _ w_0) (hw _ w_1) (hw _ w_2) e_ (g := (mkF m 51 #[vI i0, vI i1, vI i2, vI lw, vI lc, vI w0, vI w1, vI c0, vI c1, .unset, .unset, .unset, .unset] [])) rfl (hb hby at_51) (by decide) (by decide)
          obtain ⟨b57, g57⟩ : ∃ z, z = h_.size := ⟨_, rfl⟩
          rw [← g57] at A57 D57 U57 st57
          have Un57 : Unt h57 b57 := U57
          have sz57 : h0.size ≤ b57 := Nat.le_trans K_.1 (Nat.le_of_eq g57.symm)
          have gn57 : n0 ≤ b57 := Nat.le_trans Z0 sz57
          have O57 : Old Z n0 h57 := O_.ext E57
          have K57 : Keep h0 h57 [] := K_.ext E57
          have hk := Nat.le_trans hk E57.1
          have HC57 := CHv.ext E57 HC_
          have RC57 := RC_.trans (CHr.ext E57 HC_)
          have F57_16 : Fld Z h57 b57 "java/lang/String" "value" "[B" .null := D57 (Or.inr (hw _ w_16)) (ty := (.array .byte)) (by decide)
          have F57_17 : Fld Z h57 b57 "java/lang/String" "coder" "B" (.int 0) := D57 (Or.inr (hw _ w_17)) (ty := .byte) (by decide)
          obtain ⟨T59, h59, k59, X59, e59, E59, A59, st59⟩ := newP X57 hx hZ (hw (Jvm.Cond.arrayClass (newarray.typeOf .char)) w_3) e57 (g := (mkF m 56 #[vI i0, vI i1, vI i2, vI lw, vI lc, vI w0, vI w1, vI c0, vI c1, .unset, .unset, .unset, .unset] [(.int 2), (.ref b57), (.ref b57)])) rfl (hb hby at_56) rfl (by decide) (cap := 2) (by decide) (by decide) (by decide) (by decide)
          obtain ⟨b59, g59⟩ : ∃ z, z = h57.size := ⟨_, rfl⟩
          rw [← g59] at A59 st59
          have sz59 : h0.size ≤ b59 := Nat.le_trans K57.1 (Nat.le_of_eq g59.symm)
          have gn59 : n0 ≤ b59 := Nat.le_trans Z0 sz59
          have O59 : Old Z n0 h59 := O57.ext E59
          have K59 : Keep h0 h59 [] := K57.ext E59
          have hk := Nat.le_trans hk E59.1
          have HC59 := CHv.ext E59 HC57
          have RC59 := RC57.trans (CHr.ext E59 HC57)
          have V59 : Arv Z h59 b59 k59 .char (2 : Int32) [(.int 0), (.int 0)] (.int 0) := (Arv.new A59 (by decide)).pad (pad_rep [] (.int 0) 2)
          obtain ⟨cl61, Ar61, q61, S61, Ng61, H61, G61⟩ := id V59
          have hin61 : ¬ ((0 : Int32) < 0 ∨ cl61.slots.size ≤ ((0 : Int32)).toNatClampNeg) := inb_of S61 ⟨by decide, by decide⟩
          obtain ⟨T61, h61, X61, e61, W61, st61⟩ := stC X59 hx hZ e59 Ar61 (j := (0 : Int32)) hin61 (g := (mkF m 62 #[vI i0, vI i1, vI i2, vI lw, vI lc, vI w0, vI w1, vI c0, vI c1, .unset, .unset, .unset, .unset] [(.int w0), (.int 0), (.ref b59), (.ref b59), (.ref b57), (.ref b57)])) rfl rfl (hb hby at_62)
          have V61 : Arv Z h61 b59 k59 .char (2 : Int32) [(.int (nar .char w0)), (.int 0)] (.int 0) := Arv.set Ar61 q61 S61 Ng61 H61 G61 (fits_nar_char _) W61 0 rfl (Nat.le_of_ble_eq_true rfl)
          have N61 := Fr.snoc X61 N_ gn59
          have O61 : Old Z n0 h61 := O59.wr W61 gn59
          have K61 : Keep h0 h61 [] := K59.wr W61 (Or.inr sz59)
          have hk := Nat.le_trans hk (Keep.of_wr W61).1
          have HC61 := CHv.wr W61 (Safe.ext E59 HC57 (Safe.new (Z := Z) (EL := own_EL) (vm := _) (Nat.le_of_eq g59.symm))) HC59
          have RC61 := RC59.trans (CHr.wr W61 (Safe.ext E59 HC57 (Safe.new (Z := Z) (EL := own_EL) (vm := _) (Nat.le_of_eq g59.symm))) HC59)
          obtain ⟨cl62, Ar62, q62, S62, Ng62, H62, G62⟩ := id V61
          have hin62 : ¬ ((1 : Int32) < 0 ∨ cl62.slots.size ≤ ((1 : Int32)).toNatClampNeg) := inb_of S62 ⟨by decide, by decide⟩
          obtain ⟨T62, h62, X62, e62, W62, st62⟩ := stC X61 hx hZ e61 Ar62 (j := (1 : Int32)) hin62 (g := (mkF m 67 #[vI i0, vI i1, vI i2, vI lw, vI lc, vI w0, vI w1, vI c0, vI c1, .unset, .unset, .unset, .unset] [(.int w1), (.int 1), (.ref b59), (.ref b59), (.ref b57), (.ref b57)])) rfl rfl (hb hby at_67)
          have V62 : Arv Z h62 b59 k59 .char (2 : Int32) [(.int (nar .char w0)), (.int (nar .char w1))] (.int 0) := Arv.set Ar62 q62 S62 Ng62 H62 G62 (fits_nar_char _) W62 1 rfl (Nat.le_of_ble_eq_true rfl)
          have N62 := Fr.snoc X62 N61 gn59
          have O62 : Old Z n0 h62 := O61.wr W62 gn59
          have K62 : Keep h0 h62 [] := K61.wr W62 (Or.inr sz59)
          have hk := Nat.le_trans hk (Keep.of_wr W62).1
          have HC62 := CHv.wr W62 (Safe.wr W61 (Safe.ext E59 HC57 (Safe.new (Z := Z) (EL := own_EL) (vm := _) (Nat.le_of_eq g59.symm))) HC59 (Safe.ext E59 HC57 (Safe.new (Z := Z) (EL := own_EL) (vm := _) (Nat.le_of_eq g59.symm)))) HC61
          have RC62 := RC61.trans (CHr.wr W62 (Safe.wr W61 (Safe.ext E59 HC57 (Safe.new (Z := Z) (EL := own_EL) (vm := _) (Nat.le_of_eq g59.symm))) HC59 (Safe.ext E59 HC57 (Safe.new (Z := Z) (EL := own_EL) (vm := _) (Nat.le_of_eq g59.symm)))) HC61)
          have Vr63 : Arv Z h62 b59 k59 .char (2 : Int32) [(.int w0), (.int w1)] (.int 0) := by
            have q := V62
            rw [own_narc r_w0, own_narc r_w1] at q; exact q
          obtain ⟨_, _, ⟨T64, L64, k64, n64⟩, -, X64, ⟨Lc64, hQ64, l64, y64, z64⟩, st64⟩ := X62.specialBack hx (y := mN13) rfl hown (mvT hZ (hw _ w_4)) (mvT hZ (hw _ w_5)) (mvT hZ (hw _ w_6)) (by decide) (backOf (W := 1) (rmstrC1 l Z a0 hw [] b57 b59 .null (.int 0) 2 k59 [w0, w1] cz h62 n0 O62 (((A57.ext E59).wr W61).wr W62) gn57 (((F57_16.ext E59).other W61 (Or.inl (Nat.ne_of_lt (Nat.lt_of_lt_of_le A57.lt (Nat.le_of_eq g59.symm))))).other W62 (Or.inl (Nat.ne_of_lt (Nat.lt_of_lt_of_le A57.lt (Nat.le_of_eq g59.symm))))) (((F57_17.ext E59).other W61 (Or.inl (Nat.ne_of_lt (Nat.lt_of_lt_of_le A57.lt (Nat.le_of_eq g59.symm))))).other W62 (Or.inl (Nat.ne_of_lt (Nat.lt_of_lt_of_le A57.lt (Nat.le_of_eq g59.symm))))) Vr63 (by decide) (by decide) rfl (own_ch2 r_w0 r_w1) hp0 hp1 hp2 hp5 hcz) hZ (hw _ w_6) (hw _ w_2) (by decide) (by decide)) (g := (mkF m 68 #[vI i0, vI i1, vI i2, vI lw, vI lc, vI w0, vI w1, vI c0, vI c1, .unset, .unset, .unset, .unset] [(.ref b59), (.ref b57), (.ref b57)])) rfl (by rw [hml]; rfl) (Steps.refl _) (a := b57) (argsL := [(.ref b59)]) (rest := [(.ref b57)]) (lenOf pd__AC_V rfl) rfl (by show 2 * 0 + _ ≤ _; exact Nat.le_of_eq rfl) (hb hby at_68) (fun _ _ => ⟨rfl, e62, (by decide : 2 + 2 ≤ _), (by decide : 6 + 200 ≤ _)⟩)
          dsimp only [Pt.U, Pt.locs, Pt.cells, Pt.slots] at X64 l64 y64 z64 st64 hQ64
          subst l64 y64 z64
          obtain ⟨t_64, kt_64, rfl, N64q, Kc64, r64_1, r64_2, r64_3, r64_4, r64_5⟩ := hQ64
          have N64 := Fr.app N62 N64q
          have sz65 : h0.size ≤ t_64 := Nat.le_trans K62.1 r64_1
          have gn65 : n0 ≤ t_64 := Nat.le_trans Z0 sz65
          have O64 : Old Z n0 T64.heap := O62.keep Kc64 (allS gn57 all0)
          have K64 : Keep h0 T64.heap [] := K62.trans Kc64 (allS (Or.inr sz57) all0)
          have hk := Nat.le_trans hk Kc64.1
          have HC64 := CHv.keep Kc64 (allS (Safe.wr W62 (Safe.wr W61 (Safe.ext E59 HC57 (Safe.new (Z := Z) (EL := own_EL) (vm := _) (Nat.le_of_eq g59.symm))) HC59 (Safe.ext E59 HC57 (Safe.new (Z := Z) (EL := own_EL) (vm := _) (Nat.le_of_eq g59.symm)))) HC61 (Safe.wr W61 (Safe.ext E59 HC57 (Safe.new (Z := Z) (EL := own_EL) (vm := _) (Nat.le_of_eq g59.symm))) HC59 (Safe.ext E59 HC57 (Safe.ext E57 HC_ (Safe.new (Z := Z) (EL := own_EL) (vm := _) (Nat.le_of_eq g57.symm)))))) all0) HC62
          have RC64 := RC62.trans (CHr.keep Kc64 (allS (Safe.wr W62 (Safe.wr W61 (Safe.ext E59 HC57 (Safe.new (Z := Z) (EL := own_EL) (vm := _) (Nat.le_of_eq g59.symm))) HC59 (Safe.ext E59 HC57 (Safe.new (Z := Z) (EL := own_EL) (vm := _) (Nat.le_of_eq g59.symm)))) HC61 (Safe.wr W61 (Safe.ext E59 HC57 (Safe.new (Z := Z) (EL := own_EL) (vm := _) (Nat.le_of_eq g59.symm))) HC59 (Safe.ext E59 HC57 (Safe.ext E57 HC_ (Safe.new (Z := Z) (EL := own_EL) (vm := _) (Nat.le_of_eq g57.symm)))))) all0) HC62)
          have pre67 := fun tg_ (kt_ : Steps p.tables e below (T64.setTop (mkF m 86 #[vI i0, vI i1, vI i2, vI lw, vI lc, vI w0, vI w1, vI c0, vI c1, vR b57, .unset, .unset, .unset] [])) tg_) => pre47 tg_ (by
            refine XS.ifNo X_.here hx rfl (hb hby at_48) rfl ((if0 _ _).trans (feq hc48).1) ?_
            show Steps _ _ _ (T_.setTop (mkF m 51 #[vI i0, vI i1, vI i2, vI lw, vI lc, vI w0, vI w1, vI c0, vI c1, .unset, .unset, .unset, .unset] [])) _
            refine st57 _ ?_
            refine XS.dup X57.here hx rfl (hb hby at_54) rfl rfl ?_
            refine XS.iconst X57.here hx rfl (hb hby at_55) ?_
            refine st59 _ ?_
            refine XS.dup X59.here hx rfl (hb hby at_58) rfl rfl ?_
            refine XS.iconst X59.here hx rfl (hb hby at_59) ?_
            refine XS.iload X59.here hx rfl (hb hby at_60) rfl ?_
            refine st61 _ ?_
            refine XS.dup X61.here hx rfl (hb hby at_63) rfl rfl ?_
            refine XS.iconst X61.here hx rfl (hb hby at_64) ?_
            refine XS.iload X61.here hx rfl (hb hby at_65) rfl ?_
            refine st62 _ ?_
            show Steps _ _ _ (T62.setTop (mkF m 68 #[vI i0, vI i1, vI i2, vI lw, vI lc, vI w0, vI w1, vI c0, vI c1, .unset, .unset, .unset, .unset] [(.ref b59), (.ref b57), (.ref b57)])) _
            refine st64.trans ?_
            refine XS.goto X64.here hx rfl (pc0 := 71) (pc' := 84) rfl (hb hby at_71) (by decide) (by decide) ?_
            refine XS.astore X64.here hx rfl (hb hby at_84) rfl rfl (l' := #[vI i0, vI i1, vI i2, vI lw, vI lc, vI w0, vI w1, vI c0, vI c1, vR b57, .unset, .unset, .unset]) rfl ?_
            exact kt_)
          exact j1 _ _ T64 T64.heap _ lw lc w0 w1 c0 c1 b57 t_64 kt_64 [w0, w1] (Stand.more X64 (by decide) (by decide)) rfl hS hk hZ hown O64 K64 N64 HC64 RC64 r64_2 r64_3 r64_4 r64_5 (Or.inl ⟨(h01lw.resolve_left hc48), rfl⟩) (own_ch2 r_w0 r_w1) (Or.inr rfl) r_w0 r_w1 r_c0 r_c1 h01lc pre67
      · intro j0
        have pre68 := fun tg_ (kt_ : Steps p.tables e below (s₁.setTop (mkF m 3 #[vI i0, vI i1, vI i2, .unset, .unset, .unset, .unset, .unset, .unset, .unset, .unset, .unset, .unset] [(.int (i0 &&& (1 : Int32)))])) tg_) => pre0 tg_ (by
          refine XS.iloadN X0.here hx rfl (hb hby at_0) rfl ?_
          refine XS.iconst X0.here hx rfl (hb hby at_1) ?_
          refine XS.iand X0.here hx rfl (hb hby at_2) rfl ?_
          exact kt_)
        by_cases hc69 : (i0 &&& (1 : Int32)) = (0 : Int32)
        · have pre70 := fun tg_ (kt_ : Steps p.tables e below (s₁.setTop (mkF m 15 #[vI i0, vI i1, vI i2, vI 0, .unset, .unset, .unset, .unset, .unset, .unset, .unset, .unset, .unset] [(.int (i0 &&& (2 : Int32)))])) tg_) => pre68 tg_ (by
            refine XS.ifYes X0.here hx rfl (pc0 := 3) (pc' := 10) rfl (hb hby at_3) rfl ((if0 _ _).trans (teq hc69).1) (by decide) (by decide) ?_
            refine XS.iconst X0.here hx rfl (hb hby at_10) ?_
            refine XS.istoreN X0.here hx rfl (hb hby at_11) rfl (l' := #[vI i0, vI i1, vI i2, vI 0, .unset, .unset, .unset, .unset, .unset, .unset, .unset, .unset, .unset]) rfl ?_
            refine XS.iloadN X0.here hx rfl (hb hby at_12) rfl ?_
            refine XS.iconst X0.here hx rfl (hb hby at_13) ?_
            refine XS.iand X0.here hx rfl (hb hby at_14) rfl ?_
            exact kt_)
          by_cases hc71 : (i0 &&& (2 : Int32)) = (0 : Int32)
          · have pre72 := fun tg_ (kt_ : Steps p.tables e below (s₁.setTop (mkF m 25 #[vI i0, vI i1, vI i2, vI 0, vI 0, .unset, .unset, .unset, .unset, .unset, .unset, .unset, .unset] [])) tg_) => pre70 tg_ (by
              refine XS.ifYes X0.here hx rfl (pc0 := 15) (pc' := 22) rfl (hb hby at_15) rfl ((if0 _ _).trans (teq hc71).1) (by decide) (by decide) ?_
              refine XS.iconst X0.here hx rfl (hb hby at_22) ?_
              refine XS.istore X0.here hx rfl (hb hby at_23) rfl (l' := #[vI i0, vI i1, vI i2, vI 0, vI 0, .unset, .unset, .unset, .unset, .unset, .unset, .unset, .unset]) rfl ?_
              exact kt_)
            exact j0 _ _ s₁ h0 _ (0 : Int32) (0 : Int32) (Stand.more X0 (by decide) (by decide)) e0 hS hk hZ hown O0 (Keep.refl h0 []) N0 HC0 (CHr.refl HC0) (Or.inl rfl) (Or.inl rfl) pre72
          · have pre73 := fun tg_ (kt_ : Steps p.tables e below (s₁.setTop (mkF m 25 #[vI i0, vI i1, vI i2, vI 0, vI 1, .unset, .unset, .unset, .unset, .unset, .unset, .unset, .unset] [])) tg_) => pre70 tg_ (by
              refine XS.ifNo X0.here hx rfl (hb hby at_15) rfl ((if0 _ _).trans (feq hc71).1) ?_
              refine XS.iconst X0.here hx rfl (hb hby at_18) ?_
              refine XS.goto X0.here hx rfl (pc0 := 19) (pc' := 23) rfl (hb hby at_19) (by decide) (by decide) ?_
              refine XS.istore X0.here hx rfl (hb hby at_23) rfl (l' := #[vI i0, vI i1, vI i2, vI 0, vI 1, .unset, .unset, .unset, .unset, .unset, .unset, .unset, .unset]) rfl ?_
              exact kt_)
            exact j0 _ _ s₁ h0 _ (0 : Int32) (1 : Int32) (Stand.more X0 (by decide) (by decide)) e0 hS hk hZ hown O0 (Keep.refl h0 []) N0 HC0 (CHr.refl HC0) (Or.inl rfl) (Or.inr rfl) pre73
        · have pre74 := fun tg_ (kt_ : Steps p.tables e below (s₁.setTop (mkF m 15 #[vI i0, vI i1, vI i2, vI 1, .unset, .unset, .unset, .unset, .unset, .unset, .unset, .unset, .unset] [(.int (i0 &&& (2 : Int32)))])) tg_) => pre68 tg_ (by
            refine XS.ifNo X0.here hx rfl (hb hby at_3) rfl ((if0 _ _).trans (feq hc69).1) ?_
            refine XS.iconst X0.here hx rfl (hb hby at_6) ?_
            refine XS.goto X0.here hx rfl (pc0 := 7) (pc' := 11) rfl (hb hby at_7) (by decide) (by decide) ?_
            refine XS.istoreN X0.here hx rfl (hb hby at_11) rfl (l' := #[vI i0, vI i1, vI i2, vI 1, .unset, .unset, .unset, .unset, .unset, .unset, .unset, .unset, .unset]) rfl ?_
            refine XS.iloadN X0.here hx rfl (hb hby at_12) rfl ?_
            refine XS.iconst X0.here hx rfl (hb hby at_13) ?_
            refine XS.iand X0.here hx rfl (hb hby at_14) rfl ?_
            exact kt_)
          by_cases hc75 : (i0 &&& (2 : Int32)) = (0 : Int32)
          · have pre76 := fun tg_ (kt_ : Steps p.tables e below (s₁.setTop (mkF m 25 #[vI i0, vI i1, vI i2, vI 1, vI 0, .unset, .unset, .unset, .unset, .unset, .unset, .unset, .unset] [])) tg_) => pre74 tg_ (by
              refine XS.ifYes X0.here hx rfl (pc0 := 15) (pc' := 22) rfl (hb hby at_15) rfl ((if0 _ _).trans (teq hc75).1) (by decide) (by decide) ?_
              refine XS.iconst X0.here hx rfl (hb hby at_22) ?_
              refine XS.istore X0.here hx rfl (hb hby at_23) rfl (l' := #[vI i0, vI i1, vI i2, vI 1, vI 0, .unset, .unset, .unset, .unset, .unset, .unset, .unset, .unset]) rfl ?_
              exact kt_)
            exact j0 _ _ s₁ h0 _ (1 : Int32) (0 : Int32) (Stand.more X0 (by decide) (by decide)) e0 hS hk hZ hown O0 (Keep.refl h0 []) N0 HC0 (CHr.refl HC0) (Or.inr rfl) (Or.inl rfl) pre76
          · have pre77 := fun tg_ (kt_ : Steps p.tables e below (s₁.setTop (mkF m 25 #[vI i0, vI i1, vI i2, vI 1, vI 1, .unset, .unset, .unset, .unset, .unset, .unset, .unset, .unset] [])) tg_) => pre74 tg_ (by
              refine XS.ifNo X0.here hx rfl (hb hby at_15) rfl ((if0 _ _).trans (feq hc75).1) ?_
              refine XS.iconst X0.here hx rfl (hb hby at_18) ?_
              refine XS.goto X0.here hx rfl (pc0 := 19) (pc' := 23) rfl (hb hby at_19) (by decide) (by decide) ?_
              refine XS.istore X0.here hx rfl (hb hby at_23) rfl (l' := #[vI i0, vI i1, vI i2, vI 1, vI 1, .unset, .unset, .unset, .unset, .unset, .unset, .unset, .unset]) rfl ?_
              exact kt_)
            exact j0 _ _ s₁ h0 _ (1 : Int32) (1 : Int32) (Stand.more X0 (by decide) (by decide)) e0 hS hk hZ hown O0 (Keep.refl h0 []) N0 HC0 (CHr.refl HC0) (Or.inr rfl) (Or.inr rfl) pre77
set_option maxRecDepth 65536 in
set_option maxHeartbeats 40000000 in
theorem comes_1 {Post : Tables → Env → Array Value → State → Outcome → State → Prop} (hpost : ∀ tb e args s v u, (limb_1_1.after args s (.returned v) u = true ∧ limb_1_2.after args s (.returned v) u = true ∧ True) → Jvm.D.FramedW s (.returned v) u (Jvm.fieldLocs frame_1_writes args s ++ Jvm.arrayLocs frame_1_arrays args s ++ Jvm.staticLocs frame_1_statics s) 64 10752 → Post tb e args s (.returned v) u) :
    ArmFor flags0 classFile x code maxLocals ret World_1 tables_1 room_1 Calls_1 rest_1 Pre_1 Post := by
  intro l hfl _ _ p e ha hc hk s m args below hf hA hF happ hP
  obtain ⟨hcalls, hrest, hpre⟩ := hP
  obtain ⟨-, -, -, hnamed, -, -, -, hat⟩ := (Spec.applies_iff hf).mp happ
  obtain ⟨hg, hn⟩ := and_e (Cond.before_iff.mp (show (Jvm.Cond.and given_1 narrow_1).before args s = true from hpre))
  obtain ⟨gc, q0⟩ := and_e hg
  obtain ⟨g0, q1⟩ := and_e q0
  obtain ⟨g1, q2⟩ := and_e q1
  obtain ⟨w0, w1, w2, rfl⟩ : ∃ w0 w1 w2 : Value, args = #[w0, w1, w2] := by
    have hs : args.size = 3 := by simpa [Cond.value, given_1] using gc
    obtain ⟨L⟩ := args
    match L, hs with
    | [w0, w1, w2], _ => exact ⟨w0, w1, w2, rfl⟩
  have hw := fun d (hd : d ∈ tables_1) => atoms_spec (ws := Jvm.Cond.code x code maxLocals ret :: tables_1) hat d (List.mem_cons_of_mem _ hd)
  obtain ⟨hsets, hown0⟩ := atoms_of _ (rest_1_c_eq ▸ (show rest_1_c.before _ s = true from hrest))
  have hfit : Fit s := fun {y c} hc i hi => by
    obtain ⟨ha, rfl⟩ := Array.getElem?_eq_some_iff.mp hc
    have q := List.all_eq_true.mp ((Array.all_eq_true_iff_forall_mem.mp hF) _ (Array.getElem_mem ha)) i (List.mem_range.mpr hi)
    simpa [Array.getElem?_eq_getElem hi] using q
  obtain ⟨i0, ei0⟩ := is_v g0
  obtain rfl : w0 = (.int i0) := Option.some.inj ei0
  obtain ⟨i1, ei1⟩ := is_v g1
  obtain rfl : w1 = (.int i1) := Option.some.inj ei1
  obtain ⟨i2, ei2⟩ := is_v q2
  obtain rfl : w2 = (.int i2) := Option.some.inj ei2
  obtain ⟨hFK, hTK, hCH, -⟩ := hcalls
  obtain ⟨cz, ecz⟩ := is_v (Cond.before_iff.mp (hsets _ (List.mem_of_getElem? (i := 1) rfl)))
  have Scz := Sta.start ecz (Or.inl (hsets _ (List.mem_of_getElem? (i := 0) rfl)))
  have hcz : ¬ (cz = (0 : Int32)) := gotF (Cond.eq_ints ecz (Term.int_eval (0))) (not_v (Cond.before_iff.mp (hsets _ (List.mem_of_getElem? (i := 2) rfl))))
  obtain ⟨sf, esf, hsf⟩ := isR_v (Cond.before_iff.mp (hsets _ (List.mem_of_getElem? (i := 8) rfl)))
  have Ssf := Sta.start esf (Or.inl (hsets _ (List.mem_of_getElem? (i := 7) rfl)))
  have SAD := Sta.start (own_eqI (Cond.before_iff.mp (hsets _ (List.mem_of_getElem? (i := 32) rfl)))) (Or.inl (hsets _ (List.mem_of_getElem? (i := 31) rfl)))
  have SHI := Sta.start (own_eqI (Cond.before_iff.mp (hsets _ (List.mem_of_getElem? (i := 35) rfl)))) (Or.inl (hsets _ (List.mem_of_getElem? (i := 34) rfl)))
  have SLO := Sta.start (own_eqI (Cond.before_iff.mp (hsets _ (List.mem_of_getElem? (i := 38) rfl)))) (Or.inl (hsets _ (List.mem_of_getElem? (i := 37) rfl)))
  obtain ⟨us, eus, hus⟩ := isR_v (Cond.before_iff.mp (hsets _ (List.mem_of_getElem? (i := 16) rfl)))
  have SUS := Sta.start eus (Or.inl (hsets _ (List.mem_of_getElem? (i := 15) rfl)))
  obtain ⟨se, ese, hse⟩ := isR_v (Cond.before_iff.mp (hsets _ (List.mem_of_getElem? (i := 21) rfl)))
  have SSE := Sta.start ese (Or.inl (hsets _ (List.mem_of_getElem? (i := 20) rfl)))
  have hl : l.stackTraces = true := by
    have q := Launch.traces_on hfl ha
    obtain ⟨-, -, -, -, hp, -⟩ := id ha
    rw [hp] at q
    exact q
  have hHC : CHv s own_EL s.vm s.heap := CHv.start (own_EW hw) (fun p_ hp_ => hCH p_ hp_) (hsets _ (List.mem_of_getElem? (i := 2) rfl)) (hw _ w_15) (hw _ w_1)
  obtain ⟨n, o, h1, h2, h3, _, L, rfl, ⟨rfl, N, -⟩, -, hq⟩ := rmlaw l s _ hw tables_1 i0 i1 i2 cz sf us se s.heap s.heap.size (Old.start s) SAD SHI SLO Ssf hsf Scz hcz hl SUS SSE hus hse p e ha hc hk s m _ below hf ((Spec.applies_iff_loose hf).mp happ).1 ⟨rfl, State.Warmed39.refl s, rfl, hHC⟩ ⟨hFK, hTK⟩
  refine ⟨n, _, h1, h2, h3, hpost _ _ _ _ _ _ ⟨Cond.after_iff.mpr rfl, Cond.after_iff.mpr (eq_i res_at (Term.int_eval (1)) rfl), trivial⟩ ⟨hq.1, hq.2.1, hq.2.2.1, (hq.2.2.2.sift fun y hy => Or.inr (N y hy)).mono (by decide) (by decide)⟩⟩
theorem main_1_1 : Claimed_1_1 := comes_1 fun _ _ _ _ _ _ h hF => ⟨h.1, hF⟩
theorem main_1_2 : Claimed_1_2 := comes_1 fun _ _ _ _ _ _ h hF => ⟨h.2.1, hF⟩
end Jvm.Pilot.@@N@@
namespace Jvm.Pilot.@@N@@
open Jvm Jvm.ClassFile Sem Op Lib Jvm.Free Jvm.Stand Jvm.Pilot.@@N@@.Jvm.D
/-! MADE BY PROGRAM (witnessworld.py) out of the Statement's table words and the real class files: 42 classes; the members and pool entries that the words name. The judged class is class 1, her method 1. -/
namespace start1
open Jvm.ClassFile
def u (s : String) : CpInfo := .utf8 (stringToUtf16 s)
/-- a pool by its gaps: so many unusable entries, then the entry; so many at the end -/
def gap : Nat → List CpInfo → List CpInfo
  | 0, r => r
  | n + 1, r => .unusable :: gap n r
def poolList (es : List (Nat × CpInfo)) (last : Nat) : List CpInfo := es.foldr (fun e r => gap e.1 (e.2 :: r)) (gap last [])
def pool (es : List (Nat × CpInfo)) (last : Nat) : Array CpInfo := ⟨poolList es last⟩
def fileOf (pool : Array CpInfo) (this : Nat) (attrs : Array Attribute := #[]) (ms : Array MethodInfo := #[]) (fl : Nat := 33) (sup : Nat := 0) (ifs : Array Nat := #[]) (fds : Array FieldInfo := #[]) : ClassFile where
  minorVersion := 0
  majorVersion := 65
  constantPool := pool
  accessFlags := fl
  thisClass := this
  superClass := sup
  interfaces := ifs
  fields := fds
  methods := ms
  attributes := attrs
def plain (name : String) (sup : Option ClassId) : Class where
  name := name
  kind := .ordinary
  loader := none
  accessFlags := 33
  super := sup
  interfaces := #[]
  cf := none
  fields := #[]
  methods := #[]
  instanceTypes := #[]
  staticTypes := #[]
  resolved := #[]
  callSites := []
  init := .initialized
  statics := none
  mirror := none

def pool0 : Array CpInfo := pool [(5, u "<init>"), (0, u "()V"), (1, .class_ 10), (1, u "java/lang/Object")] 113

def k0c0 : Code := { maxStack := 0, maxLocals := 1, code := object_method_1_code, exceptionTable := #[], attributes := #[] }
def k0m0 : Method := { name := "<init>", desc := "()V", sig := { parameters := [], returnType := none }, accessFlags := 1, code := some k0c0 }
/-- java/lang/Object -/
def k0 : Class := { plain "java/lang/Object" none with
  accessFlags := 33
  interfaces := #[]
  cf := some (fileOf pool0 8 #[] #[{ accessFlags := 1, nameIndex := 5, descriptorIndex := 6, attributes := #[] }] 33 0 #[] #[])
  fields := #[]
  methods := #[k0m0]
  instanceTypes := #[]
  staticTypes := #[]
  resolved := Array.replicate 124 none
  statics := none }

def pool1 : Array CpInfo := pool [(2, .class_ 4), (1, u "java/lang/Object"), (0, u "<init>"), (0, u "()V"), (0, .class_ 8), (0, u "java/lang/String"), (0, .methodref 7 10), (0, .nameAndType 5 11), (0, u "([C)V"), (0, .methodref 13 14), (0, .class_ 15), (0, .nameAndType 16 17), (0, u "com/example/levy/levy/store/StoreException"), (0, u "unknown"), (0, u "(Ljava/lang/String;Ljava/lang/String;)Lcom/example/levy/levy/store/StoreException;"), (0, .methodref 13 19), (0, .nameAndType 20 21), (0, u "getMessage"), (0, u "()Ljava/lang/String;"), (0, .methodref 23 24), (0, .class_ 25), (0, .nameAndType 26 27), (0, u "com/example/levy/levy/store/StoreExceptionUnknownPinLaw"), (0, u "expected"), (0, u "(ZZCCCC)Ljava/lang/String;"), (0, .methodref 7 29), (0, .nameAndType 30 31), (0, u "equals"), (0, u "(Ljava/lang/Object;)Z"), (0, .string 33), (0, u "the data file holds an unknown : "), (2, u "law"), (0, u "(III)Z")] 3

def k1m0 : Method := { name := "<init>", desc := "()V", sig := { parameters := [], returnType := none }, accessFlags := 1, code := none }
def k1c1 : Code := { maxStack := 7, maxLocals := 13, code := code, exceptionTable := #[], attributes := #[] }
def k1m1 : Method := { name := "law", desc := "(III)Z", sig := { parameters := [.int, .int, .int], returnType := some .boolean }, accessFlags := 9, code := some k1c1 }
def k1c2 : Code := { maxStack := 6, maxLocals := 6, code := method_3_code, exceptionTable := #[], attributes := #[] }
def k1m2 : Method := { name := "expected", desc := "(ZZCCCC)Ljava/lang/String;", sig := { parameters := [.boolean, .boolean, .char, .char, .char, .char], returnType := some (.object "java/lang/String") }, accessFlags := 10, code := some k1c2 }
/-- com/example/levy/levy/store/StoreExceptionUnknownPinLaw -/
def k1 : Class := { plain "com/example/levy/levy/store/StoreExceptionUnknownPinLaw" (some 0) with
  accessFlags := 49
  interfaces := #[]
  cf := some (fileOf pool1 23 #[] #[{ accessFlags := 1, nameIndex := 5, descriptorIndex := 6, attributes := #[] }, { accessFlags := 9, nameIndex := 36, descriptorIndex := 37, attributes := #[] }, { accessFlags := 10, nameIndex := 26, descriptorIndex := 27, attributes := #[] }] 49 2 #[] #[])
  fields := #[]
  methods := #[k1m0, k1m1, k1m2]
  instanceTypes := #[]
  staticTypes := #[]
  resolved := Array.replicate 41 none
  statics := none }

def pool2 : Array CpInfo := pool [(1, .class_ 2), (0, u "java/io/Serializable"), (0, .class_ 4), (0, u "java/lang/Object")] 2

/-- java/io/Serializable -/
def k2 : Class := { plain "java/io/Serializable" (some 0) with
  accessFlags := 1537
  interfaces := #[]
  cf := some (fileOf pool2 1 #[] #[] 1537 3 #[] #[])
  fields := #[]
  methods := #[]
  instanceTypes := #[]
  staticTypes := #[]
  resolved := Array.replicate 7 none
  statics := none }

def pool3 : Array CpInfo := pool [(1, .class_ 2), (0, u "java/lang/Comparable"), (0, .class_ 4), (0, u "java/lang/Object")] 7

/-- java/lang/Comparable -/
def k3 : Class := { plain "java/lang/Comparable" (some 0) with
  accessFlags := 1537
  interfaces := #[]
  cf := some (fileOf pool3 1 #[] #[] 1537 3 #[] #[])
  fields := #[]
  methods := #[]
  instanceTypes := #[]
  staticTypes := #[]
  resolved := Array.replicate 12 none
  statics := none }

def pool4 : Array CpInfo := pool [(2, .class_ 4), (1, u "java/lang/CharSequence"), (42, .class_ 48), (0, u "java/lang/CharSequence$1CodePointIterator"), (10, .class_ 60), (0, u "java/lang/CharSequence$1CharIterator"), (5, .class_ 67), (0, u "java/lang/Object")] 63

/-- java/lang/CharSequence -/
def k4 : Class := { plain "java/lang/CharSequence" (some 0) with
  accessFlags := 1537
  interfaces := #[]
  cf := some (fileOf pool4 2 #[.nestMembers #[47, 59]] #[] 1537 66 #[] #[])
  fields := #[]
  methods := #[]
  instanceTypes := #[]
  staticTypes := #[]
  resolved := Array.replicate 131 none
  statics := none }

def pool5 : Array CpInfo := pool [(1, .class_ 2), (0, u "java/lang/constant/Constable"), (0, .class_ 4), (0, u "java/lang/Object")] 6

/-- java/lang/constant/Constable -/
def k5 : Class := { plain "java/lang/constant/Constable" (some 0) with
  accessFlags := 1537
  interfaces := #[]
  cf := some (fileOf pool5 1 #[] #[] 1537 3 #[] #[])
  fields := #[]
  methods := #[]
  instanceTypes := #[]
  staticTypes := #[]
  resolved := Array.replicate 11 none
  statics := none }

def pool6 : Array CpInfo := pool [(1, .class_ 2), (0, u "java/lang/constant/ConstantDesc"), (0, .class_ 4), (0, u "java/lang/Object")] 32

/-- java/lang/constant/ConstantDesc -/
def k6 : Class := { plain "java/lang/constant/ConstantDesc" (some 0) with
  accessFlags := 1537
  interfaces := #[]
  cf := some (fileOf pool6 1 #[] #[] 1537 3 #[] #[])
  fields := #[]
  methods := #[]
  instanceTypes := #[]
  staticTypes := #[]
  resolved := Array.replicate 37 none
  statics := none }

def pool7 : Array CpInfo := pool [(1, .methodref 2 3), (0, .class_ 4), (0, .nameAndType 5 6), (0, u "java/lang/Object"), (0, u "<init>"), (0, u "()V"), (0, .string 8), (0, u ""), (0, .fieldref 10 11), (0, .class_ 12), (0, .nameAndType 13 14), (0, u "java/lang/String"), (0, u "value"), (0, u "[B"), (0, .fieldref 10 16), (0, .nameAndType 17 18), (0, u "coder"), (0, u "B"), (2, u "hash"), (0, u "I"), (2, u "hashIsZero"), (0, u "Z"), (0, .methodref 10 28), (0, .nameAndType 5 29), (0, u "([CIILjava/lang/Void;)V"), (6, u "checkBoundsOffCount"), (0, u "(III)I"), (0, .fieldref 10 39), (0, .nameAndType 40 26), (0, u "COMPACT_STRINGS"), (1, .class_ 44), (1, u "java/lang/StringUTF16"), (0, u "compress"), (1, .methodref 42 48), (0, .nameAndType 49 50), (0, u "coderFromArrayLen"), (0, u "([BI)B"), (3, .methodref 55 56), (0, .class_ 57), (0, .nameAndType 58 59), (0, u "java/util/Arrays"), (0, u "copyOfRange"), (0, u "([BII)[B"), (46, .methodref 107 108), (0, .class_ 109), (0, .nameAndType 110 111), (0, u "java/lang/StringLatin1"), (0, u "inflate"), (0, u "([BI[BII)V"), (30, u "()Z"), (34, .methodref 42 178), (0, .nameAndType 45 179), (0, u "([CII)[B"), (13, .class_ 195), (1, u "java/lang/System"), (16, .methodref 193 213), (0, .nameAndType 214 215), (0, u "arraycopy"), (0, u "(Ljava/lang/Object;ILjava/lang/Object;II)V"), (118, u "()I"), (0, .methodref 10 336), (0, .nameAndType 17 337), (0, u "()B"), (2, u "()[B"), (148, .methodref 10 490), (0, .nameAndType 5 491), (0, u "(Ljava/lang/AbstractStringBuilder;Ljava/lang/Void;)V"), (1, .nameAndType 494 142), (0, u "isLatin1"), (11, .nameAndType 507 334), (0, u "length"), (24, u "getBytes"), (8, .methodref 107 542), (0, .nameAndType 543 544), (0, u "equals"), (0, u "([B[B)Z"), (4, .methodref 550 506), (0, .class_ 551), (0, u "java/lang/AbstractStringBuilder"), (0, .methodref 550 553), (0, .nameAndType 554 340), (0, u "getValue"), (18, u "(Ljava/lang/Object;)Z"), (1, .class_ 576), (0, u "java/lang/CharSequence"), (22, u "CASE_INSENSITIVE_ORDER"), (0, u "Ljava/util/Comparator;"), (220, u "([BIB)V"), (188, u "([C)V"), (36, .methodref 550 493), (0, .fieldref 550 1049), (0, .nameAndType 1050 26), (0, u "maybeLatin1"), (2, .fieldref 1054 1055), (0, .class_ 1056), (0, .nameAndType 1057 1058), (0, u "jdk/internal/util/Preconditions"), (0, u "SIOOBE_FORMATTER"), (0, u "Ljava/util/function/BiFunction;"), (5, u "(IIILjava/util/function/BiFunction;)I"), (0, .methodref 1054 1066), (0, .nameAndType 1067 1064), (0, u "checkFromIndexSize"), (33, u "serialPersistentFields"), (0, u "[Ljava/io/ObjectStreamField;"), (0, .class_ 1104), (0, u "java/lang/String$CaseInsensitiveComparator"), (1, .class_ 1107), (0, u "java/io/Serializable"), (0, .class_ 1109), (0, u "java/lang/Comparable"), (0, .class_ 1111), (0, u "java/lang/constant/Constable"), (0, .class_ 1113), (0, u "java/lang/constant/ConstantDesc"), (2, u "serialVersionUID"), (0, u "J"), (3, u "REPL"), (0, u "C"), (2, u "LATIN1"), (1, u "UTF16"), (105, u "(Ljava/lang/StringBuilder;)V")] 217

def k7m0 : Method := { name := "<init>", desc := "()V", sig := { parameters := [], returnType := none }, accessFlags := 1, code := none }
def k7c1 : Code := { maxStack := 5, maxLocals := 2, code := jdk_42_method_3_code, exceptionTable := #[], attributes := #[] }
def k7m1 : Method := { name := "<init>", desc := "([C)V", sig := { parameters := [(.array .char)], returnType := none }, accessFlags := 1, code := some k7c1 }
def k7c2 : Code := { maxStack := 3, maxLocals := 2, code := jdk_42_method_53_code, exceptionTable := #[], attributes := #[] }
def k7m2 : Method := { name := "<init>", desc := "(Ljava/lang/StringBuilder;)V", sig := { parameters := [(.object "java/lang/StringBuilder")], returnType := none }, accessFlags := 1, code := some k7c2 }
def k7c3 : Code := { maxStack := 2, maxLocals := 1, code := jdk_42_method_54_code, exceptionTable := #[], attributes := #[] }
def k7m3 : Method := { name := "length", desc := "()I", sig := { parameters := [], returnType := some .int }, accessFlags := 1, code := some k7c3 }
def k7c4 : Code := { maxStack := 2, maxLocals := 3, code := jdk_42_method_66_code, exceptionTable := #[], attributes := #[] }
def k7m4 : Method := { name := "equals", desc := "(Ljava/lang/Object;)Z", sig := { parameters := [(.object "java/lang/Object")], returnType := some .boolean }, accessFlags := 1, code := some k7c4 }
def k7c5 : Code := { maxStack := 5, maxLocals := 4, code := jdk_42_method_147_code, exceptionTable := #[], attributes := #[] }
def k7m5 : Method := { name := "getBytes", desc := "([BIB)V", sig := { parameters := [(.array .byte), .int, .byte], returnType := none }, accessFlags := 0, code := some k7c5 }
def k7c6 : Code := { maxStack := 4, maxLocals := 6, code := jdk_42_method_149_code, exceptionTable := #[], attributes := #[] }
def k7m6 : Method := { name := "<init>", desc := "([CIILjava/lang/Void;)V", sig := { parameters := [(.array .char), .int, .int, (.object "java/lang/Void")], returnType := none }, accessFlags := 2, code := some k7c6 }
def k7c7 : Code := { maxStack := 5, maxLocals := 5, code := jdk_42_method_150_code, exceptionTable := #[], attributes := #[] }
def k7m7 : Method := { name := "<init>", desc := "(Ljava/lang/AbstractStringBuilder;Ljava/lang/Void;)V", sig := { parameters := [(.object "java/lang/AbstractStringBuilder"), (.object "java/lang/Void")], returnType := none }, accessFlags := 0, code := some k7c7 }
def k7c8 : Code := { maxStack := 1, maxLocals := 1, code := jdk_42_method_152_code, exceptionTable := #[], attributes := #[] }
def k7m8 : Method := { name := "coder", desc := "()B", sig := { parameters := [], returnType := some .byte }, accessFlags := 0, code := some k7c8 }
def k7c9 : Code := { maxStack := 4, maxLocals := 3, code := jdk_42_method_157_code, exceptionTable := #[], attributes := #[] }
def k7m9 : Method := { name := "checkBoundsOffCount", desc := "(III)I", sig := { parameters := [.int, .int, .int], returnType := some .int }, accessFlags := 8, code := some k7c9 }
/-- java/lang/String -/
def k7 : Class := { plain "java/lang/String" (some 0) with
  accessFlags := 49
  interfaces := #[2, 3, 4, 5, 6]
  cf := some (fileOf pool7 10 #[.nestMembers #[1103]] #[{ accessFlags := 1, nameIndex := 5, descriptorIndex := 6, attributes := #[] }, { accessFlags := 1, nameIndex := 5, descriptorIndex := 1010, attributes := #[] }, { accessFlags := 1, nameIndex := 5, descriptorIndex := 1233, attributes := #[] }, { accessFlags := 1, nameIndex := 507, descriptorIndex := 334, attributes := #[] }, { accessFlags := 1, nameIndex := 543, descriptorIndex := 573, attributes := #[] }, { accessFlags := 0, nameIndex := 532, descriptorIndex := 821, attributes := #[] }, { accessFlags := 2, nameIndex := 5, descriptorIndex := 29, attributes := #[] }, { accessFlags := 0, nameIndex := 5, descriptorIndex := 491, attributes := #[] }, { accessFlags := 0, nameIndex := 17, descriptorIndex := 337, attributes := #[] }, { accessFlags := 8, nameIndex := 36, descriptorIndex := 37, attributes := #[] }] 49 2 #[1106, 1108, 575, 1110, 1112] #[{ accessFlags := 18, nameIndex := 13, descriptorIndex := 14, attributes := #[] }, { accessFlags := 18, nameIndex := 17, descriptorIndex := 18, attributes := #[] }, { accessFlags := 2, nameIndex := 21, descriptorIndex := 22, attributes := #[] }, { accessFlags := 2, nameIndex := 25, descriptorIndex := 26, attributes := #[] }, { accessFlags := 26, nameIndex := 1116, descriptorIndex := 1117, attributes := #[] }, { accessFlags := 24, nameIndex := 40, descriptorIndex := 26, attributes := #[] }, { accessFlags := 26, nameIndex := 1101, descriptorIndex := 1102, attributes := #[] }, { accessFlags := 26, nameIndex := 1121, descriptorIndex := 1122, attributes := #[] }, { accessFlags := 25, nameIndex := 599, descriptorIndex := 600, attributes := #[] }, { accessFlags := 24, nameIndex := 1125, descriptorIndex := 18, attributes := #[] }, { accessFlags := 24, nameIndex := 1127, descriptorIndex := 18, attributes := #[] }])
  fields := #[{ name := "value", type := (.array .byte), accessFlags := 18, slot := 0, constantValue := 0 }, { name := "coder", type := .byte, accessFlags := 18, slot := 1, constantValue := 0 }, { name := "hash", type := .int, accessFlags := 2, slot := 2, constantValue := 0 }, { name := "hashIsZero", type := .boolean, accessFlags := 2, slot := 3, constantValue := 0 }, { name := "serialVersionUID", type := .long, accessFlags := 26, slot := 0, constantValue := 0 }, { name := "COMPACT_STRINGS", type := .boolean, accessFlags := 24, slot := 1, constantValue := 0 }, { name := "serialPersistentFields", type := (.array (.object "java/io/ObjectStreamField")), accessFlags := 26, slot := 2, constantValue := 0 }, { name := "REPL", type := .char, accessFlags := 26, slot := 3, constantValue := 0 }, { name := "CASE_INSENSITIVE_ORDER", type := (.object "java/util/Comparator"), accessFlags := 25, slot := 4, constantValue := 0 }, { name := "LATIN1", type := .byte, accessFlags := 24, slot := 5, constantValue := 0 }, { name := "UTF16", type := .byte, accessFlags := 24, slot := 6, constantValue := 0 }]
  methods := #[k7m0, k7m1, k7m2, k7m3, k7m4, k7m5, k7m6, k7m7, k7m8, k7m9]
  instanceTypes := #[(.array .byte), .byte, .int, .boolean]
  staticTypes := #[.long, .boolean, (.array (.object "java/io/ObjectStreamField")), .char, (.object "java/util/Comparator"), .byte, .byte]
  resolved := Array.replicate 1451 none
  statics := some 0 }

def pool8 : Array CpInfo := pool [(1, .methodref 2 3), (0, .class_ 4), (0, .nameAndType 5 6), (0, u "java/lang/Object"), (0, u "<init>"), (0, u "()V"), (0, .fieldref 8 9), (0, .class_ 10), (0, .nameAndType 11 12), (0, u "java/lang/Throwable"), (0, u "cause"), (0, u "Ljava/lang/Throwable;"), (0, .fieldref 8 14), (0, .nameAndType 15 16), (0, u "UNASSIGNED_STACK"), (0, u "[Ljava/lang/StackTraceElement;"), (0, .fieldref 8 18), (0, .nameAndType 19 16), (0, u "stackTrace"), (0, .fieldref 8 21), (0, .nameAndType 22 23), (0, u "SUPPRESSED_SENTINEL"), (0, u "Ljava/util/List;"), (0, .fieldref 8 25), (0, .nameAndType 26 23), (0, u "suppressedExceptions"), (0, .methodref 8 28), (0, .nameAndType 29 30), (0, u "fillInStackTrace"), (0, u "()Ljava/lang/Throwable;"), (0, .fieldref 8 32), (0, .nameAndType 33 34), (0, u "detailMessage"), (0, u "Ljava/lang/String;"), (3, u "()Ljava/lang/String;"), (2, u "getMessage"), (51, .class_ 94), (0, u "java/lang/Throwable$WrappedPrintStream"), (6, .class_ 103), (1, u "java/lang/Throwable$PrintStreamOrWriter"), (61, u "$assertionsDisabled"), (0, u "Z"), (26, .class_ 194), (0, u "java/lang/Throwable$WrappedPrintWriter"), (3, .fieldref 8 199), (0, .nameAndType 200 201), (0, u "backtrace"), (0, u "Ljava/lang/Object;"), (0, .methodref 8 203), (0, .nameAndType 29 204), (0, u "(I)Ljava/lang/Throwable;"), (6, u "depth"), (0, u "I"), (10, u "(Ljava/lang/String;)V"), (45, .class_ 271), (1, u "java/lang/Throwable$SentinelHolder"), (32, u "EMPTY_THROWABLE_ARRAY"), (0, u "[Ljava/lang/Throwable;"), (12, .class_ 319), (0, u "java/io/Serializable"), (0, u "serialVersionUID"), (0, u "J"), (5, u "NULL_CAUSE_MESSAGE"), (0, u "SELF_SUPPRESSION_MESSAGE"), (0, u "CAUSE_CAPTION"), (0, u "SUPPRESSED_CAPTION")] 73

def k8c0 : Code := { maxStack := 2, maxLocals := 1, code := jdk_78_method_1_code, exceptionTable := #[], attributes := #[] }
def k8m0 : Method := { name := "<init>", desc := "()V", sig := { parameters := [], returnType := none }, accessFlags := 1, code := some k8c0 }
def k8c1 : Code := { maxStack := 2, maxLocals := 2, code := jdk_78_method_2_code, exceptionTable := #[], attributes := #[] }
def k8m1 : Method := { name := "<init>", desc := "(Ljava/lang/String;)V", sig := { parameters := [(.object "java/lang/String")], returnType := none }, accessFlags := 1, code := some k8c1 }
def k8c2 : Code := { maxStack := 1, maxLocals := 1, code := jdk_78_method_6_code, exceptionTable := #[], attributes := #[] }
def k8m2 : Method := { name := "getMessage", desc := "()Ljava/lang/String;", sig := { parameters := [], returnType := some (.object "java/lang/String") }, accessFlags := 1, code := some k8c2 }
def k8c3 : Code := { maxStack := 2, maxLocals := 1, code := ⟨#[0x2a, 0xb4, 0x00, 0x11, 0xc7, 0x00, 0x0a, 0x2a, 0xb4, 0x00, 0xc6, 0xc6, 0x00, 0x10, 0x2a, 0x03, 0xb6, 0x00, 0xca, 0x57, 0x2a, 0xb2, 0x00, 0x0d, 0xb5, 0x00, 0x11, 0x2a, 0xb0]⟩, exceptionTable := #[], attributes := #[] }
def k8m3 : Method := { name := "fillInStackTrace", desc := "()Ljava/lang/Throwable;", sig := { parameters := [], returnType := some (.object "java/lang/Throwable") }, accessFlags := 33, code := some k8c3 }
def k8m4 : Method := { name := "fillInStackTrace", desc := "(I)Ljava/lang/Throwable;", sig := { parameters := [.int], returnType := some (.object "java/lang/Throwable") }, accessFlags := 258, code := none }
/-- java/lang/Throwable -/
def k8 : Class := { plain "java/lang/Throwable" (some 0) with
  accessFlags := 33
  interfaces := #[2]
  cf := some (fileOf pool8 8 #[.nestMembers #[193, 93, 101, 269]] #[{ accessFlags := 1, nameIndex := 5, descriptorIndex := 6, attributes := #[] }, { accessFlags := 1, nameIndex := 5, descriptorIndex := 223, attributes := #[] }, { accessFlags := 1, nameIndex := 41, descriptorIndex := 38, attributes := #[] }, { accessFlags := 33, nameIndex := 29, descriptorIndex := 30, attributes := #[] }, { accessFlags := 258, nameIndex := 29, descriptorIndex := 204, attributes := #[] }] 33 2 #[318] #[{ accessFlags := 26, nameIndex := 320, descriptorIndex := 321, attributes := #[] }, { accessFlags := 130, nameIndex := 200, descriptorIndex := 201, attributes := #[] }, { accessFlags := 2, nameIndex := 33, descriptorIndex := 34, attributes := #[] }, { accessFlags := 26, nameIndex := 15, descriptorIndex := 16, attributes := #[] }, { accessFlags := 2, nameIndex := 11, descriptorIndex := 12, attributes := #[] }, { accessFlags := 2, nameIndex := 19, descriptorIndex := 16, attributes := #[] }, { accessFlags := 130, nameIndex := 211, descriptorIndex := 212, attributes := #[] }, { accessFlags := 26, nameIndex := 22, descriptorIndex := 23, attributes := #[] }, { accessFlags := 2, nameIndex := 26, descriptorIndex := 23, attributes := #[] }, { accessFlags := 26, nameIndex := 327, descriptorIndex := 34, attributes := #[] }, { accessFlags := 26, nameIndex := 328, descriptorIndex := 34, attributes := #[] }, { accessFlags := 26, nameIndex := 329, descriptorIndex := 34, attributes := #[] }, { accessFlags := 26, nameIndex := 330, descriptorIndex := 34, attributes := #[] }, { accessFlags := 26, nameIndex := 304, descriptorIndex := 305, attributes := #[] }, { accessFlags := 4120, nameIndex := 165, descriptorIndex := 166, attributes := #[] }])
  fields := #[{ name := "serialVersionUID", type := .long, accessFlags := 26, slot := 0, constantValue := 0 }, { name := "backtrace", type := (.object "java/lang/Object"), accessFlags := 130, slot := 0, constantValue := 0 }, { name := "detailMessage", type := (.object "java/lang/String"), accessFlags := 2, slot := 1, constantValue := 0 }, { name := "UNASSIGNED_STACK", type := (.array (.object "java/lang/StackTraceElement")), accessFlags := 26, slot := 1, constantValue := 0 }, { name := "cause", type := (.object "java/lang/Throwable"), accessFlags := 2, slot := 2, constantValue := 0 }, { name := "stackTrace", type := (.array (.object "java/lang/StackTraceElement")), accessFlags := 2, slot := 3, constantValue := 0 }, { name := "depth", type := .int, accessFlags := 130, slot := 4, constantValue := 0 }, { name := "SUPPRESSED_SENTINEL", type := (.object "java/util/List"), accessFlags := 26, slot := 2, constantValue := 0 }, { name := "suppressedExceptions", type := (.object "java/util/List"), accessFlags := 2, slot := 5, constantValue := 0 }, { name := "NULL_CAUSE_MESSAGE", type := (.object "java/lang/String"), accessFlags := 26, slot := 3, constantValue := 0 }, { name := "SELF_SUPPRESSION_MESSAGE", type := (.object "java/lang/String"), accessFlags := 26, slot := 4, constantValue := 0 }, { name := "CAUSE_CAPTION", type := (.object "java/lang/String"), accessFlags := 26, slot := 5, constantValue := 0 }, { name := "SUPPRESSED_CAPTION", type := (.object "java/lang/String"), accessFlags := 26, slot := 6, constantValue := 0 }, { name := "EMPTY_THROWABLE_ARRAY", type := (.array (.object "java/lang/Throwable")), accessFlags := 26, slot := 7, constantValue := 0 }, { name := "$assertionsDisabled", type := .boolean, accessFlags := 4120, slot := 8, constantValue := 0 }]
  methods := #[k8m0, k8m1, k8m2, k8m3, k8m4]
  instanceTypes := #[(.object "java/lang/Object"), (.object "java/lang/String"), (.object "java/lang/Throwable"), (.array (.object "java/lang/StackTraceElement")), .int, (.object "java/util/List")]
  staticTypes := #[.long, (.array (.object "java/lang/StackTraceElement")), (.object "java/util/List"), (.object "java/lang/String"), (.object "java/lang/String"), (.object "java/lang/String"), (.object "java/lang/String"), (.array (.object "java/lang/Throwable")), .boolean]
  resolved := Array.replicate 404 none
  statics := some 1 }

def pool9 : Array CpInfo := pool [(2, .class_ 4), (1, u "java/lang/Throwable"), (0, u "<init>"), (0, u "()V"), (0, .methodref 2 8), (0, .nameAndType 5 9), (0, u "(Ljava/lang/String;)V"), (9, .class_ 20), (0, u "java/lang/Exception"), (0, u "serialVersionUID"), (0, u "J")] 17

def k9m0 : Method := { name := "<init>", desc := "()V", sig := { parameters := [], returnType := none }, accessFlags := 1, code := none }
def k9c1 : Code := { maxStack := 2, maxLocals := 2, code := jdk_59_method_2_code, exceptionTable := #[], attributes := #[] }
def k9m1 : Method := { name := "<init>", desc := "(Ljava/lang/String;)V", sig := { parameters := [(.object "java/lang/String")], returnType := none }, accessFlags := 1, code := some k9c1 }
/-- java/lang/Exception -/
def k9 : Class := { plain "java/lang/Exception" (some 8) with
  accessFlags := 33
  interfaces := #[]
  cf := some (fileOf pool9 19 #[] #[{ accessFlags := 1, nameIndex := 5, descriptorIndex := 6, attributes := #[] }, { accessFlags := 1, nameIndex := 5, descriptorIndex := 9, attributes := #[] }] 33 2 #[] #[{ accessFlags := 24, nameIndex := 21, descriptorIndex := 22, attributes := #[] }])
  fields := #[{ name := "serialVersionUID", type := .long, accessFlags := 24, slot := 0, constantValue := 0 }]
  methods := #[k9m0, k9m1]
  instanceTypes := #[(.object "java/lang/Object"), (.object "java/lang/String"), (.object "java/lang/Throwable"), (.array (.object "java/lang/StackTraceElement")), .int, (.object "java/util/List")]
  staticTypes := #[.long]
  resolved := Array.replicate 40 none
  statics := none }

def pool10 : Array CpInfo := pool [(2, .class_ 4), (1, u "java/lang/Exception"), (0, u "<init>"), (0, u "()V"), (0, .methodref 2 8), (0, .nameAndType 5 9), (0, u "(Ljava/lang/String;)V"), (9, .class_ 20), (0, u "java/lang/RuntimeException"), (0, u "serialVersionUID"), (0, u "J")] 17

def k10m0 : Method := { name := "<init>", desc := "()V", sig := { parameters := [], returnType := none }, accessFlags := 1, code := none }
def k10c1 : Code := { maxStack := 2, maxLocals := 2, code := jdk_58_method_2_code, exceptionTable := #[], attributes := #[] }
def k10m1 : Method := { name := "<init>", desc := "(Ljava/lang/String;)V", sig := { parameters := [(.object "java/lang/String")], returnType := none }, accessFlags := 1, code := some k10c1 }
/-- java/lang/RuntimeException -/
def k10 : Class := { plain "java/lang/RuntimeException" (some 9) with
  accessFlags := 33
  interfaces := #[]
  cf := some (fileOf pool10 19 #[] #[{ accessFlags := 1, nameIndex := 5, descriptorIndex := 6, attributes := #[] }, { accessFlags := 1, nameIndex := 5, descriptorIndex := 9, attributes := #[] }] 33 2 #[] #[{ accessFlags := 24, nameIndex := 21, descriptorIndex := 22, attributes := #[] }])
  fields := #[{ name := "serialVersionUID", type := .long, accessFlags := 24, slot := 0, constantValue := 0 }]
  methods := #[k10m0, k10m1]
  instanceTypes := #[(.object "java/lang/Object"), (.object "java/lang/String"), (.object "java/lang/Throwable"), (.array (.object "java/lang/StackTraceElement")), .int, (.object "java/util/List")]
  staticTypes := #[.long]
  resolved := Array.replicate 40 none
  statics := none }

def pool11 : Array CpInfo := pool [(2, .class_ 4), (1, u "java/lang/RuntimeException"), (0, u "<init>"), (1, .methodref 2 8), (0, .nameAndType 5 9), (0, u "(Ljava/lang/String;)V"), (0, .class_ 11), (0, u "com/example/levy/levy/store/StoreException"), (0, .class_ 13), (0, u "java/lang/StringBuilder"), (0, .methodref 12 15), (0, .nameAndType 5 16), (0, u "()V"), (0, .string 18), (0, u "the data file holds an unknown "), (0, .methodref 12 20), (0, .nameAndType 21 22), (0, u "append"), (0, u "(Ljava/lang/String;)Ljava/lang/StringBuilder;"), (0, .string 24), (0, u ": "), (0, .methodref 12 26), (0, .nameAndType 27 28), (0, u "toString"), (0, u "()Ljava/lang/String;"), (0, .methodref 10 8), (0, u "serialVersionUID"), (0, u "J"), (5, u "unknown"), (0, u "(Ljava/lang/String;Ljava/lang/String;)Lcom/example/levy/levy/store/StoreException;")] 2

def k11c0 : Code := { maxStack := 2, maxLocals := 2, code := prog_37_method_2_code, exceptionTable := #[], attributes := #[] }
def k11m0 : Method := { name := "<init>", desc := "(Ljava/lang/String;)V", sig := { parameters := [(.object "java/lang/String")], returnType := none }, accessFlags := 2, code := some k11c0 }
def k11c1 : Code := { maxStack := 4, maxLocals := 2, code := prog_37_method_3_code, exceptionTable := #[], attributes := #[] }
def k11m1 : Method := { name := "unknown", desc := "(Ljava/lang/String;Ljava/lang/String;)Lcom/example/levy/levy/store/StoreException;", sig := { parameters := [(.object "java/lang/String"), (.object "java/lang/String")], returnType := some (.object "com/example/levy/levy/store/StoreException") }, accessFlags := 9, code := some k11c1 }
/-- com/example/levy/levy/store/StoreException -/
def k11 : Class := { plain "com/example/levy/levy/store/StoreException" (some 10) with
  accessFlags := 49
  interfaces := #[]
  cf := some (fileOf pool11 10 #[] #[{ accessFlags := 2, nameIndex := 5, descriptorIndex := 9, attributes := #[] }, { accessFlags := 9, nameIndex := 37, descriptorIndex := 38, attributes := #[] }] 49 2 #[] #[{ accessFlags := 26, nameIndex := 30, descriptorIndex := 31, attributes := #[] }])
  fields := #[{ name := "serialVersionUID", type := .long, accessFlags := 26, slot := 0, constantValue := 0 }]
  methods := #[k11m0, k11m1]
  instanceTypes := #[(.object "java/lang/Object"), (.object "java/lang/String"), (.object "java/lang/Throwable"), (.array (.object "java/lang/StackTraceElement")), .int, (.object "java/util/List")]
  staticTypes := #[.long]
  resolved := Array.replicate 41 none
  statics := none }

def pool12 : Array CpInfo := pool [(1, .class_ 2), (0, u "java/lang/Appendable"), (0, .class_ 4), (0, u "java/lang/Object")] 9

/-- java/lang/Appendable -/
def k12 : Class := { plain "java/lang/Appendable" (some 0) with
  accessFlags := 1537
  interfaces := #[]
  cf := some (fileOf pool12 1 #[] #[] 1537 3 #[] #[])
  fields := #[]
  methods := #[]
  instanceTypes := #[]
  staticTypes := #[]
  resolved := Array.replicate 14 none
  statics := none }

def pool13 : Array CpInfo := pool [(1, .class_ 2), (0, u "java/lang/String"), (0, .methodref 4 5), (0, .class_ 6), (0, .nameAndType 7 8), (0, u "java/lang/Object"), (0, u "<init>"), (0, u "()V"), (1, .class_ 12), (1, u "java/lang/AbstractStringBuilder"), (0, u "EMPTYVALUE"), (0, u "[B"), (0, .fieldref 10 16), (0, .nameAndType 17 14), (0, u "value"), (0, .fieldref 1 19), (0, .nameAndType 20 21), (0, u "COMPACT_STRINGS"), (0, u "Z"), (0, .fieldref 10 23), (0, .nameAndType 24 25), (0, u "coder"), (0, u "B"), (0, .methodref 27 28), (0, .class_ 29), (0, .nameAndType 30 31), (0, u "java/lang/StringUTF16"), (0, u "newBytesFor"), (0, u "(I)[B"), (0, .methodref 1 33), (0, .nameAndType 34 35), (0, u "length"), (0, u "()I"), (3, .integer 2147483647), (0, .methodref 1 41), (0, .nameAndType 24 42), (0, u "()B"), (2, u "append"), (0, u "(Ljava/lang/String;)Ljava/lang/AbstractStringBuilder;"), (1, .class_ 49), (0, u "java/lang/CharSequence"), (19, u "(Ljava/lang/String;)V"), (5, u "maybeLatin1"), (3, .fieldref 10 80), (0, .nameAndType 81 82), (0, u "count"), (0, u "I"), (0, .methodref 10 84), (0, .nameAndType 85 86), (0, u "isLatin1"), (0, u "()Z"), (1, .class_ 90), (1, u "java/lang/StringLatin1"), (9, .methodref 10 101), (0, .nameAndType 102 103), (0, u "ensureCapacityInternal"), (0, u "(I)V"), (0, .methodref 10 105), (0, .nameAndType 106 107), (0, u "newCapacity"), (0, u "(I)I"), (0, .methodref 109 110), (0, .class_ 111), (0, .nameAndType 112 113), (0, u "java/util/Arrays"), (0, u "copyOf"), (0, u "([BI)[B"), (0, .methodref 115 116), (0, .class_ 117), (0, .nameAndType 118 119), (0, u "jdk/internal/util/ArraysSupport"), (0, u "newLength"), (0, u "(III)I"), (5, .methodref 88 126), (0, .nameAndType 127 128), (0, u "inflate"), (0, u "([BI[BII)V"), (66, .methodref 10 196), (0, .nameAndType 127 8), (11, .methodref 10 209), (0, .nameAndType 210 211), (0, u "putStringAt"), (0, u "(ILjava/lang/String;)V"), (5, u "inflateIfNeededFor"), (2, .nameAndType 221 222), (0, u "getBytes"), (0, u "([BIB)V"), (174, .methodref 10 398), (0, .nameAndType 217 69), (0, .methodref 1 220), (3, u "()[B"), (40, .class_ 445), (0, u "java/lang/Appendable"), (106, u "getValue")] 56

def k13m0 : Method := { name := "<init>", desc := "()V", sig := { parameters := [], returnType := none }, accessFlags := 0, code := none }
def k13c1 : Code := { maxStack := 2, maxLocals := 2, code := jdk_68_method_2_code, exceptionTable := #[], attributes := #[] }
def k13m1 : Method := { name := "<init>", desc := "(I)V", sig := { parameters := [.int], returnType := none }, accessFlags := 0, code := some k13c1 }
def k13c2 : Code := { maxStack := 1, maxLocals := 1, code := jdk_68_method_6_code, exceptionTable := #[], attributes := #[] }
def k13m2 : Method := { name := "length", desc := "()I", sig := { parameters := [], returnType := some .int }, accessFlags := 1, code := some k13c2 }
def k13c3 : Code := { maxStack := 4, maxLocals := 3, code := jdk_68_method_9_code, exceptionTable := #[], attributes := #[] }
def k13m3 : Method := { name := "ensureCapacityInternal", desc := "(I)V", sig := { parameters := [.int], returnType := none }, accessFlags := 2, code := some k13c3 }
def k13c4 : Code := { maxStack := 5, maxLocals := 6, code := jdk_68_method_10_code, exceptionTable := #[], attributes := #[] }
def k13m4 : Method := { name := "newCapacity", desc := "(I)I", sig := { parameters := [.int], returnType := some .int }, accessFlags := 2, code := some k13c4 }
def k13c5 : Code := { maxStack := 5, maxLocals := 2, code := jdk_68_method_11_code, exceptionTable := #[], attributes := #[] }
def k13m5 : Method := { name := "inflate", desc := "()V", sig := { parameters := [], returnType := none }, accessFlags := 2, code := some k13c5 }
def k13c6 : Code := { maxStack := 3, maxLocals := 3, code := jdk_68_method_22_code, exceptionTable := #[], attributes := #[] }
def k13m6 : Method := { name := "append", desc := "(Ljava/lang/String;)Ljava/lang/AbstractStringBuilder;", sig := { parameters := [(.object "java/lang/String")], returnType := some (.object "java/lang/AbstractStringBuilder") }, accessFlags := 1, code := some k13c6 }
def k13c7 : Code := { maxStack := 1, maxLocals := 1, code := jdk_68_method_64_code, exceptionTable := #[], attributes := #[] }
def k13m7 : Method := { name := "getValue", desc := "()[B", sig := { parameters := [], returnType := some (.array .byte) }, accessFlags := 16, code := some k13c7 }
def k13c8 : Code := { maxStack := 1, maxLocals := 1, code := jdk_68_method_68_code, exceptionTable := #[], attributes := #[] }
def k13m8 : Method := { name := "isLatin1", desc := "()Z", sig := { parameters := [], returnType := some .boolean }, accessFlags := 16, code := some k13c8 }
def k13c9 : Code := { maxStack := 2, maxLocals := 2, code := jdk_68_method_71_code, exceptionTable := #[], attributes := #[] }
def k13m9 : Method := { name := "inflateIfNeededFor", desc := "(Ljava/lang/String;)V", sig := { parameters := [(.object "java/lang/String")], returnType := none }, accessFlags := 2, code := some k13c9 }
def k13c10 : Code := { maxStack := 4, maxLocals := 3, code := jdk_68_method_73_code, exceptionTable := #[], attributes := #[] }
def k13m10 : Method := { name := "putStringAt", desc := "(ILjava/lang/String;)V", sig := { parameters := [.int, (.object "java/lang/String")], returnType := none }, accessFlags := 2, code := some k13c10 }
/-- java/lang/AbstractStringBuilder -/
def k13 : Class := { plain "java/lang/AbstractStringBuilder" (some 0) with
  accessFlags := 1056
  interfaces := #[12, 4]
  cf := some (fileOf pool13 10 #[] #[{ accessFlags := 0, nameIndex := 7, descriptorIndex := 8, attributes := #[] }, { accessFlags := 0, nameIndex := 7, descriptorIndex := 103, attributes := #[] }, { accessFlags := 1, nameIndex := 34, descriptorIndex := 35, attributes := #[] }, { accessFlags := 2, nameIndex := 102, descriptorIndex := 103, attributes := #[] }, { accessFlags := 2, nameIndex := 106, descriptorIndex := 107, attributes := #[] }, { accessFlags := 2, nameIndex := 127, descriptorIndex := 8, attributes := #[] }, { accessFlags := 1, nameIndex := 45, descriptorIndex := 46, attributes := #[] }, { accessFlags := 16, nameIndex := 552, descriptorIndex := 403, attributes := #[] }, { accessFlags := 16, nameIndex := 85, descriptorIndex := 86, attributes := #[] }, { accessFlags := 2, nameIndex := 217, descriptorIndex := 69, attributes := #[] }, { accessFlags := 2, nameIndex := 210, descriptorIndex := 211, attributes := #[] }] 1056 4 #[444, 48] #[{ accessFlags := 0, nameIndex := 17, descriptorIndex := 14, attributes := #[] }, { accessFlags := 0, nameIndex := 24, descriptorIndex := 25, attributes := #[] }, { accessFlags := 0, nameIndex := 75, descriptorIndex := 21, attributes := #[] }, { accessFlags := 0, nameIndex := 81, descriptorIndex := 82, attributes := #[] }, { accessFlags := 26, nameIndex := 13, descriptorIndex := 14, attributes := #[] }])
  fields := #[{ name := "value", type := (.array .byte), accessFlags := 0, slot := 0, constantValue := 0 }, { name := "coder", type := .byte, accessFlags := 0, slot := 1, constantValue := 0 }, { name := "maybeLatin1", type := .boolean, accessFlags := 0, slot := 2, constantValue := 0 }, { name := "count", type := .int, accessFlags := 0, slot := 3, constantValue := 0 }, { name := "EMPTYVALUE", type := (.array .byte), accessFlags := 26, slot := 0, constantValue := 0 }]
  methods := #[k13m0, k13m1, k13m2, k13m3, k13m4, k13m5, k13m6, k13m7, k13m8, k13m9, k13m10]
  instanceTypes := #[(.array .byte), .byte, .boolean, .int]
  staticTypes := #[(.array .byte)]
  resolved := Array.replicate 609 none
  statics := none }

def pool14 : Array CpInfo := pool [(1, .methodref 2 3), (0, .class_ 4), (0, .nameAndType 5 6), (0, u "java/lang/AbstractStringBuilder"), (0, u "<init>"), (0, u "(I)V"), (11, .class_ 20), (1, u "java/lang/String"), (3, .class_ 26), (1, u "java/lang/StringBuilder"), (0, u "append"), (0, u "(Ljava/lang/String;)Ljava/lang/StringBuilder;"), (0, .methodref 2 30), (0, .nameAndType 27 31), (0, u "(Ljava/lang/String;)Ljava/lang/AbstractStringBuilder;"), (105, .methodref 18 138), (0, .nameAndType 5 139), (0, u "(Ljava/lang/StringBuilder;)V"), (5, u "()V"), (10, u "()I"), (186, .methodref 2 344), (0, .nameAndType 345 156), (0, u "length"), (3, .class_ 350), (0, u "java/lang/Appendable"), (0, .class_ 352), (0, u "java/io/Serializable"), (0, .class_ 354), (0, u "java/lang/Comparable"), (0, .class_ 356), (0, u "java/lang/CharSequence"), (0, u "serialVersionUID"), (0, u "J"), (40, u "toString"), (0, u "()Ljava/lang/String;")] 21

def k14c0 : Code := { maxStack := 2, maxLocals := 1, code := jdk_67_method_1_code, exceptionTable := #[], attributes := #[] }
def k14m0 : Method := { name := "<init>", desc := "()V", sig := { parameters := [], returnType := none }, accessFlags := 1, code := some k14c0 }
def k14c1 : Code := { maxStack := 2, maxLocals := 2, code := jdk_67_method_7_code, exceptionTable := #[], attributes := #[] }
def k14m1 : Method := { name := "append", desc := "(Ljava/lang/String;)Ljava/lang/StringBuilder;", sig := { parameters := [(.object "java/lang/String")], returnType := some (.object "java/lang/StringBuilder") }, accessFlags := 1, code := some k14c1 }
def k14c2 : Code := { maxStack := 3, maxLocals := 1, code := jdk_67_method_42_code, exceptionTable := #[], attributes := #[] }
def k14m2 : Method := { name := "toString", desc := "()Ljava/lang/String;", sig := { parameters := [], returnType := some (.object "java/lang/String") }, accessFlags := 1, code := some k14c2 }
def k14c3 : Code := { maxStack := 1, maxLocals := 1, code := jdk_67_method_93_code, exceptionTable := #[], attributes := #[] }
def k14m3 : Method := { name := "length", desc := "()I", sig := { parameters := [], returnType := some .int }, accessFlags := 4161, code := some k14c3 }
/-- java/lang/StringBuilder -/
def k14 : Class := { plain "java/lang/StringBuilder" (some 13) with
  accessFlags := 49
  interfaces := #[12, 2, 3, 4]
  cf := some (fileOf pool14 24 #[] #[{ accessFlags := 1, nameIndex := 5, descriptorIndex := 145, attributes := #[] }, { accessFlags := 1, nameIndex := 27, descriptorIndex := 28, attributes := #[] }, { accessFlags := 1, nameIndex := 399, descriptorIndex := 400, attributes := #[] }, { accessFlags := 4161, nameIndex := 345, descriptorIndex := 156, attributes := #[] }] 49 2 #[349, 351, 353, 355] #[{ accessFlags := 24, nameIndex := 357, descriptorIndex := 358, attributes := #[] }])
  fields := #[{ name := "serialVersionUID", type := .long, accessFlags := 24, slot := 0, constantValue := 0 }]
  methods := #[k14m0, k14m1, k14m2, k14m3]
  instanceTypes := #[(.array .byte), .byte, .boolean, .int]
  staticTypes := #[.long]
  resolved := Array.replicate 422 none
  statics := none }

def pool15 : Array CpInfo := pool [(9, u "<init>"), (6, .class_ 18), (1, u "java/lang/Object"), (0, u "()V"), (1, .class_ 23), (1, u "jdk/internal/util/ArraysSupport"), (0, u "LOG2_ARRAY_LONG_INDEX_SCALE"), (0, u "I"), (2, u "U"), (0, u "Ljdk/internal/misc/Unsafe;"), (8, u "BIG_ENDIAN"), (0, u "Z"), (8, u "LOG2_BYTE_BIT_SIZE"), (4, u "LOG2_ARRAY_INT_INDEX_SCALE"), (54, u "JLA"), (0, u "Ljdk/internal/access/JavaLangAccess;"), (11, u "LOG2_ARRAY_BOOLEAN_INDEX_SCALE"), (9, u "LOG2_ARRAY_BYTE_INDEX_SCALE"), (5, u "LOG2_ARRAY_CHAR_INDEX_SCALE"), (5, u "LOG2_ARRAY_SHORT_INDEX_SCALE"), (18, u "LOG2_ARRAY_FLOAT_INDEX_SCALE"), (24, u "LOG2_ARRAY_DOUBLE_INDEX_SCALE"), (6, .methodref 195 196), (0, .class_ 197), (0, .nameAndType 198 199), (0, u "java/lang/Math"), (0, u "max"), (0, u "(II)I"), (0, .integer 2147483639), (76, u "T_BOOLEAN"), (2, u "T_CHAR"), (1, u "T_FLOAT"), (1, u "T_DOUBLE"), (1, u "T_BYTE"), (1, u "T_SHORT"), (1, u "T_INT"), (1, u "T_LONG"), (1, u "SOFT_MAX_ARRAY_LENGTH"), (56, u "newLength"), (0, u "(III)I")] 25

def k15m0 : Method := { name := "<init>", desc := "()V", sig := { parameters := [], returnType := none }, accessFlags := 2, code := none }
def k15c1 : Code := { maxStack := 3, maxLocals := 4, code := jdk_48_method_27_code, exceptionTable := #[], attributes := #[] }
def k15m1 : Method := { name := "newLength", desc := "(III)I", sig := { parameters := [.int, .int, .int], returnType := some .int }, accessFlags := 9, code := some k15c1 }
/-- jdk/internal/util/ArraysSupport -/
def k15 : Class := { plain "jdk/internal/util/ArraysSupport" (some 0) with
  accessFlags := 33
  interfaces := #[]
  cf := some (fileOf pool15 21 #[] #[{ accessFlags := 2, nameIndex := 9, descriptorIndex := 19, attributes := #[] }, { accessFlags := 9, nameIndex := 351, descriptorIndex := 352, attributes := #[] }] 33 16 #[] #[{ accessFlags := 24, nameIndex := 28, descriptorIndex := 29, attributes := #[] }, { accessFlags := 26, nameIndex := 38, descriptorIndex := 39, attributes := #[] }, { accessFlags := 25, nameIndex := 121, descriptorIndex := 25, attributes := #[] }, { accessFlags := 25, nameIndex := 131, descriptorIndex := 25, attributes := #[] }, { accessFlags := 25, nameIndex := 137, descriptorIndex := 25, attributes := #[] }, { accessFlags := 25, nameIndex := 143, descriptorIndex := 25, attributes := #[] }, { accessFlags := 25, nameIndex := 53, descriptorIndex := 25, attributes := #[] }, { accessFlags := 25, nameIndex := 24, descriptorIndex := 25, attributes := #[] }, { accessFlags := 25, nameIndex := 162, descriptorIndex := 25, attributes := #[] }, { accessFlags := 25, nameIndex := 187, descriptorIndex := 25, attributes := #[] }, { accessFlags := 26, nameIndex := 48, descriptorIndex := 25, attributes := #[] }, { accessFlags := 25, nameIndex := 277, descriptorIndex := 25, attributes := #[] }, { accessFlags := 25, nameIndex := 280, descriptorIndex := 25, attributes := #[] }, { accessFlags := 25, nameIndex := 282, descriptorIndex := 25, attributes := #[] }, { accessFlags := 25, nameIndex := 284, descriptorIndex := 25, attributes := #[] }, { accessFlags := 25, nameIndex := 286, descriptorIndex := 25, attributes := #[] }, { accessFlags := 25, nameIndex := 288, descriptorIndex := 25, attributes := #[] }, { accessFlags := 25, nameIndex := 290, descriptorIndex := 25, attributes := #[] }, { accessFlags := 25, nameIndex := 292, descriptorIndex := 25, attributes := #[] }, { accessFlags := 26, nameIndex := 108, descriptorIndex := 109, attributes := #[] }, { accessFlags := 25, nameIndex := 294, descriptorIndex := 25, attributes := #[] }])
  fields := #[{ name := "U", type := (.object "jdk/internal/misc/Unsafe"), accessFlags := 24, slot := 0, constantValue := 0 }, { name := "BIG_ENDIAN", type := .boolean, accessFlags := 26, slot := 1, constantValue := 0 }, { name := "LOG2_ARRAY_BOOLEAN_INDEX_SCALE", type := .int, accessFlags := 25, slot := 2, constantValue := 0 }, { name := "LOG2_ARRAY_BYTE_INDEX_SCALE", type := .int, accessFlags := 25, slot := 3, constantValue := 0 }, { name := "LOG2_ARRAY_CHAR_INDEX_SCALE", type := .int, accessFlags := 25, slot := 4, constantValue := 0 }, { name := "LOG2_ARRAY_SHORT_INDEX_SCALE", type := .int, accessFlags := 25, slot := 5, constantValue := 0 }, { name := "LOG2_ARRAY_INT_INDEX_SCALE", type := .int, accessFlags := 25, slot := 6, constantValue := 0 }, { name := "LOG2_ARRAY_LONG_INDEX_SCALE", type := .int, accessFlags := 25, slot := 7, constantValue := 0 }, { name := "LOG2_ARRAY_FLOAT_INDEX_SCALE", type := .int, accessFlags := 25, slot := 8, constantValue := 0 }, { name := "LOG2_ARRAY_DOUBLE_INDEX_SCALE", type := .int, accessFlags := 25, slot := 9, constantValue := 0 }, { name := "LOG2_BYTE_BIT_SIZE", type := .int, accessFlags := 26, slot := 10, constantValue := 0 }, { name := "T_BOOLEAN", type := .int, accessFlags := 25, slot := 11, constantValue := 0 }, { name := "T_CHAR", type := .int, accessFlags := 25, slot := 12, constantValue := 0 }, { name := "T_FLOAT", type := .int, accessFlags := 25, slot := 13, constantValue := 0 }, { name := "T_DOUBLE", type := .int, accessFlags := 25, slot := 14, constantValue := 0 }, { name := "T_BYTE", type := .int, accessFlags := 25, slot := 15, constantValue := 0 }, { name := "T_SHORT", type := .int, accessFlags := 25, slot := 16, constantValue := 0 }, { name := "T_INT", type := .int, accessFlags := 25, slot := 17, constantValue := 0 }, { name := "T_LONG", type := .int, accessFlags := 25, slot := 18, constantValue := 0 }, { name := "JLA", type := (.object "jdk/internal/access/JavaLangAccess"), accessFlags := 26, slot := 19, constantValue := 0 }, { name := "SOFT_MAX_ARRAY_LENGTH", type := .int, accessFlags := 25, slot := 20, constantValue := 0 }]
  methods := #[k15m0, k15m1]
  instanceTypes := #[]
  staticTypes := #[(.object "jdk/internal/misc/Unsafe"), .boolean, .int, .int, .int, .int, .int, .int, .int, .int, .int, .int, .int, .int, .int, .int, .int, .int, .int, (.object "jdk/internal/access/JavaLangAccess"), .int]
  resolved := Array.replicate 378 none
  statics := none }

def pool16 : Array CpInfo := pool [(1, .class_ 2), (0, u "java/lang/Math"), (1, .class_ 6), (1, u "java/lang/Object"), (0, u "<init>"), (0, u "()V"), (89, .class_ 100), (1, u "java/lang/Math$RandomNumberGeneratorHolder"), (71, u "negativeZeroFloatBits"), (0, u "J"), (2, u "negativeZeroDoubleBits"), (21, u "max"), (2, u "min"), (43, u "$assertionsDisabled"), (0, u "Z"), (88, u "(II)I"), (2, u "twoToTheDoubleScaleDown"), (0, u "D"), (4, u "twoToTheDoubleScaleUp"), (9, u "E"), (3, u "PI"), (2, u "TAU"), (2, u "DEGREES_TO_RADIANS"), (0, u "RADIANS_TO_DEGREES")] 94

def k16m0 : Method := { name := "<init>", desc := "()V", sig := { parameters := [], returnType := none }, accessFlags := 2, code := none }
def k16c1 : Code := { maxStack := 2, maxLocals := 2, code := jdk_29_method_65_code, exceptionTable := #[], attributes := #[] }
def k16m1 : Method := { name := "max", desc := "(II)I", sig := { parameters := [.int, .int], returnType := some .int }, accessFlags := 9, code := some k16c1 }
def k16c2 : Code := { maxStack := 2, maxLocals := 2, code := jdk_29_method_69_code, exceptionTable := #[], attributes := #[] }
def k16m2 : Method := { name := "min", desc := "(II)I", sig := { parameters := [.int, .int], returnType := some .int }, accessFlags := 9, code := some k16c2 }
/-- java/lang/Math -/
def k16 : Class := { plain "java/lang/Math" (some 0) with
  accessFlags := 49
  interfaces := #[]
  cf := some (fileOf pool16 1 #[.nestMembers #[98]] #[{ accessFlags := 2, nameIndex := 7, descriptorIndex := 8, attributes := #[] }, { accessFlags := 9, nameIndex := 198, descriptorIndex := 335, attributes := #[] }, { accessFlags := 9, nameIndex := 201, descriptorIndex := 335, attributes := #[] }] 49 4 #[] #[{ accessFlags := 25, nameIndex := 354, descriptorIndex := 339, attributes := #[] }, { accessFlags := 25, nameIndex := 358, descriptorIndex := 339, attributes := #[] }, { accessFlags := 25, nameIndex := 361, descriptorIndex := 339, attributes := #[] }, { accessFlags := 26, nameIndex := 364, descriptorIndex := 339, attributes := #[] }, { accessFlags := 26, nameIndex := 365, descriptorIndex := 339, attributes := #[] }, { accessFlags := 26, nameIndex := 172, descriptorIndex := 173, attributes := #[] }, { accessFlags := 26, nameIndex := 176, descriptorIndex := 173, attributes := #[] }, { accessFlags := 8, nameIndex := 344, descriptorIndex := 339, attributes := #[] }, { accessFlags := 8, nameIndex := 338, descriptorIndex := 339, attributes := #[] }, { accessFlags := 4120, nameIndex := 245, descriptorIndex := 246, attributes := #[] }])
  fields := #[{ name := "E", type := .double, accessFlags := 25, slot := 0, constantValue := 0 }, { name := "PI", type := .double, accessFlags := 25, slot := 1, constantValue := 0 }, { name := "TAU", type := .double, accessFlags := 25, slot := 2, constantValue := 0 }, { name := "DEGREES_TO_RADIANS", type := .double, accessFlags := 26, slot := 3, constantValue := 0 }, { name := "RADIANS_TO_DEGREES", type := .double, accessFlags := 26, slot := 4, constantValue := 0 }, { name := "negativeZeroFloatBits", type := .long, accessFlags := 26, slot := 5, constantValue := 0 }, { name := "negativeZeroDoubleBits", type := .long, accessFlags := 26, slot := 6, constantValue := 0 }, { name := "twoToTheDoubleScaleUp", type := .double, accessFlags := 8, slot := 7, constantValue := 0 }, { name := "twoToTheDoubleScaleDown", type := .double, accessFlags := 8, slot := 8, constantValue := 0 }, { name := "$assertionsDisabled", type := .boolean, accessFlags := 4120, slot := 9, constantValue := 0 }]
  methods := #[k16m0, k16m1, k16m2]
  instanceTypes := #[]
  staticTypes := #[.double, .double, .double, .double, .double, .long, .long, .double, .double, .boolean]
  resolved := Array.replicate 460 none
  statics := none }

def pool17 : Array CpInfo := pool [(2, .class_ 4), (1, u "java/lang/Object"), (0, u "<init>"), (0, u "()V"), (7, .class_ 16), (1, u "java/util/Arrays"), (57, .class_ 76), (1, u "java/util/Arrays$NaturalOrder"), (36, .class_ 115), (1, u "java/util/Arrays$LegacyMergeSort"), (1, u "Z"), (21, u "copyOfRange"), (10, .methodref 151 152), (0, .class_ 153), (0, .nameAndType 154 155), (0, u "java/lang/System"), (0, u "arraycopy"), (0, u "(Ljava/lang/Object;ILjava/lang/Object;II)V"), (146, u "copyOf"), (1, .methodref 305 306), (0, .class_ 307), (0, .nameAndType 308 309), (0, u "java/lang/Math"), (0, u "min"), (0, u "(II)I"), (29, .methodref 14 340), (0, .nameAndType 341 342), (0, u "copyOfRangeByte"), (0, u "([BII)[B"), (0, .methodref 14 344), (0, .nameAndType 345 346), (0, u "checkLength"), (0, u "(II)V"), (28, .class_ 376), (0, u "java/util/Arrays$ArrayList"), (68, u "$assertionsDisabled"), (269, u "MIN_ARRAY_SORT_GRAN"), (0, u "I"), (2, u "INSERTIONSORT_THRESHOLD"), (149, u "([BI)[B"), (105, .class_ 976), (0, u "java/util/Arrays$ArrayItr")] 52

def k17m0 : Method := { name := "<init>", desc := "()V", sig := { parameters := [], returnType := none }, accessFlags := 2, code := none }
def k17c1 : Code := { maxStack := 6, maxLocals := 3, code := jdk_65_method_121_code, exceptionTable := #[], attributes := #[] }
def k17m1 : Method := { name := "copyOf", desc := "([BI)[B", sig := { parameters := [(.array .byte), .int], returnType := some (.array .byte) }, accessFlags := 9, code := some k17c1 }
def k17c2 : Code := { maxStack := 4, maxLocals := 2, code := jdk_65_method_131_code, exceptionTable := #[], attributes := #[] }
def k17m2 : Method := { name := "checkLength", desc := "(II)V", sig := { parameters := [.int, .int], returnType := none }, accessFlags := 10, code := some k17c2 }
def k17c3 : Code := { maxStack := 3, maxLocals := 3, code := jdk_65_method_132_code, exceptionTable := #[], attributes := #[] }
def k17m3 : Method := { name := "copyOfRange", desc := "([BII)[B", sig := { parameters := [(.array .byte), .int, .int], returnType := some (.array .byte) }, accessFlags := 9, code := some k17c3 }
def k17c4 : Code := { maxStack := 6, maxLocals := 5, code := jdk_65_method_133_code, exceptionTable := #[], attributes := #[] }
def k17m4 : Method := { name := "copyOfRangeByte", desc := "([BII)[B", sig := { parameters := [(.array .byte), .int, .int], returnType := some (.array .byte) }, accessFlags := 10, code := some k17c4 }
/-- java/util/Arrays -/
def k17 : Class := { plain "java/util/Arrays" (some 0) with
  accessFlags := 49
  interfaces := #[]
  cf := some (fileOf pool17 14 #[.nestMembers #[975, 375, 113, 74]] #[{ accessFlags := 2, nameIndex := 5, descriptorIndex := 6, attributes := #[] }, { accessFlags := 9, nameIndex := 302, descriptorIndex := 869, attributes := #[] }, { accessFlags := 10, nameIndex := 345, descriptorIndex := 346, attributes := #[] }, { accessFlags := 9, nameIndex := 139, descriptorIndex := 342, attributes := #[] }, { accessFlags := 10, nameIndex := 341, descriptorIndex := 342, attributes := #[] }] 49 2 #[] #[{ accessFlags := 26, nameIndex := 715, descriptorIndex := 716, attributes := #[] }, { accessFlags := 26, nameIndex := 719, descriptorIndex := 716, attributes := #[] }, { accessFlags := 4120, nameIndex := 445, descriptorIndex := 117, attributes := #[] }])
  fields := #[{ name := "MIN_ARRAY_SORT_GRAN", type := .int, accessFlags := 26, slot := 0, constantValue := 0 }, { name := "INSERTIONSORT_THRESHOLD", type := .int, accessFlags := 26, slot := 1, constantValue := 0 }, { name := "$assertionsDisabled", type := .boolean, accessFlags := 4120, slot := 2, constantValue := 0 }]
  methods := #[k17m0, k17m1, k17m2, k17m3, k17m4]
  instanceTypes := #[]
  staticTypes := #[.int, .int, .boolean]
  resolved := Array.replicate 1029 none
  statics := none }

def pool18 : Array CpInfo := pool [(2, .class_ 4), (1, u "java/lang/Object"), (0, u "<init>"), (0, u "()V"), (1, .class_ 10), (1, u "java/lang/System"), (0, u "allowSecurityManager"), (0, u "I"), (16, u "cons"), (0, u "Ljava/io/Console;"), (77, .class_ 110), (1, u "java/lang/System$CallersHolder"), (43, u "initialErrStream"), (0, u "Ljava/io/PrintStream;"), (19, u "security"), (0, u "Ljava/lang/SecurityManager;"), (31, .class_ 209), (0, u "java/lang/System$1"), (7, u "props"), (0, u "Ljava/util/Properties;"), (2, u "lineSeparator"), (0, u "Ljava/lang/String;"), (96, .class_ 321), (1, u "java/lang/System$LoggerFinder"), (5, .class_ 328), (0, u "java/lang/System$Logger"), (67, u "err"), (2, u "out"), (91, u "notSupportedJnuEncoding"), (15, u "in"), (17, u "initialIn"), (0, u "Ljava/io/InputStream;"), (35, u "bootLayer"), (0, u "Ljava/lang/ModuleLayer;"), (99, .class_ 664), (0, u "java/lang/System$2"), (9, u "NEVER"), (2, u "MAYBE"), (49, u "arraycopy"), (0, u "(Ljava/lang/Object;ILjava/lang/Object;II)V"), (72, .class_ 802), (0, u "java/lang/System$Logger$Level")] 31

def k18m0 : Method := { name := "<init>", desc := "()V", sig := { parameters := [], returnType := none }, accessFlags := 2, code := none }
def k18m1 : Method := { name := "arraycopy", desc := "(Ljava/lang/Object;ILjava/lang/Object;II)V", sig := { parameters := [(.object "java/lang/Object"), .int, (.object "java/lang/Object"), .int, .int], returnType := none }, accessFlags := 265, code := none }
/-- java/lang/System -/
def k18 : Class := { plain "java/lang/System" (some 0) with
  accessFlags := 49
  interfaces := #[]
  cf := some (fileOf pool18 8 #[.nestMembers #[319, 327, 801, 108, 663, 208]] #[{ accessFlags := 2, nameIndex := 5, descriptorIndex := 6, attributes := #[] }, { accessFlags := 265, nameIndex := 727, descriptorIndex := 728, attributes := #[] }] 49 2 #[] #[{ accessFlags := 25, nameIndex := 507, descriptorIndex := 526, attributes := #[] }, { accessFlags := 25, nameIndex := 399, descriptorIndex := 155, attributes := #[] }, { accessFlags := 25, nameIndex := 396, descriptorIndex := 155, attributes := #[] }, { accessFlags := 10, nameIndex := 525, descriptorIndex := 526, attributes := #[] }, { accessFlags := 26, nameIndex := 674, descriptorIndex := 12, attributes := #[] }, { accessFlags := 26, nameIndex := 677, descriptorIndex := 12, attributes := #[] }, { accessFlags := 10, nameIndex := 11, descriptorIndex := 12, attributes := #[] }, { accessFlags := 74, nameIndex := 175, descriptorIndex := 176, attributes := #[] }, { accessFlags := 10, nameIndex := 491, descriptorIndex := 222, attributes := #[] }, { accessFlags := 74, nameIndex := 29, descriptorIndex := 30, attributes := #[] }, { accessFlags := 74, nameIndex := 154, descriptorIndex := 155, attributes := #[] }, { accessFlags := 10, nameIndex := 217, descriptorIndex := 218, attributes := #[] }, { accessFlags := 10, nameIndex := 221, descriptorIndex := 222, attributes := #[] }, { accessFlags := 8, nameIndex := 562, descriptorIndex := 563, attributes := #[] }])
  fields := #[{ name := "in", type := (.object "java/io/InputStream"), accessFlags := 25, slot := 0, constantValue := 0 }, { name := "out", type := (.object "java/io/PrintStream"), accessFlags := 25, slot := 1, constantValue := 0 }, { name := "err", type := (.object "java/io/PrintStream"), accessFlags := 25, slot := 2, constantValue := 0 }, { name := "initialIn", type := (.object "java/io/InputStream"), accessFlags := 10, slot := 3, constantValue := 0 }, { name := "NEVER", type := .int, accessFlags := 26, slot := 4, constantValue := 0 }, { name := "MAYBE", type := .int, accessFlags := 26, slot := 5, constantValue := 0 }, { name := "allowSecurityManager", type := .int, accessFlags := 10, slot := 6, constantValue := 0 }, { name := "security", type := (.object "java/lang/SecurityManager"), accessFlags := 74, slot := 7, constantValue := 0 }, { name := "notSupportedJnuEncoding", type := (.object "java/lang/String"), accessFlags := 10, slot := 8, constantValue := 0 }, { name := "cons", type := (.object "java/io/Console"), accessFlags := 74, slot := 9, constantValue := 0 }, { name := "initialErrStream", type := (.object "java/io/PrintStream"), accessFlags := 74, slot := 10, constantValue := 0 }, { name := "props", type := (.object "java/util/Properties"), accessFlags := 10, slot := 11, constantValue := 0 }, { name := "lineSeparator", type := (.object "java/lang/String"), accessFlags := 10, slot := 12, constantValue := 0 }, { name := "bootLayer", type := (.object "java/lang/ModuleLayer"), accessFlags := 8, slot := 13, constantValue := 0 }]
  methods := #[k18m0, k18m1]
  instanceTypes := #[]
  staticTypes := #[(.object "java/io/InputStream"), (.object "java/io/PrintStream"), (.object "java/io/PrintStream"), (.object "java/io/InputStream"), .int, .int, .int, (.object "java/lang/SecurityManager"), (.object "java/lang/String"), (.object "java/io/Console"), (.object "java/io/PrintStream"), (.object "java/util/Properties"), (.object "java/lang/String"), (.object "java/lang/ModuleLayer")]
  resolved := Array.replicate 834 none
  statics := none }

def pool19 : Array CpInfo := pool [(4, .class_ 6), (1, u "java/lang/Object"), (0, u "<init>"), (0, u "()V"), (5, .class_ 16), (1, u "java/lang/StringLatin1"), (0, u "inflate"), (2, .class_ 22), (1, u "java/lang/StringUTF16"), (3, .nameAndType 17 27), (0, u "([BI[BII)V"), (93, u "$assertionsDisabled"), (0, u "Z"), (98, .class_ 223), (1, u "java/lang/StringLatin1$LinesSpliterator"), (16, .methodref 20 26), (40, u "equals"), (0, u "([B[B)Z"), (107, .class_ 391), (0, u "java/lang/StringLatin1$CharsSpliterator")] 3

def k19m0 : Method := { name := "<init>", desc := "()V", sig := { parameters := [], returnType := none }, accessFlags := 0, code := none }
def k19c1 : Code := { maxStack := 3, maxLocals := 3, code := jdk_43_method_13_code, exceptionTable := #[], attributes := #[] }
def k19m1 : Method := { name := "equals", desc := "([B[B)Z", sig := { parameters := [(.array .byte), (.array .byte)], returnType := some .boolean }, accessFlags := 9, code := some k19c1 }
def k19c2 : Code := { maxStack := 5, maxLocals := 5, code := jdk_43_method_50_code, exceptionTable := #[], attributes := #[] }
def k19m2 : Method := { name := "inflate", desc := "([BI[BII)V", sig := { parameters := [(.array .byte), .int, (.array .byte), .int, .int], returnType := none }, accessFlags := 9, code := some k19c2 }
/-- java/lang/StringLatin1 -/
def k19 : Class := { plain "java/lang/StringLatin1" (some 0) with
  accessFlags := 48
  interfaces := #[]
  cf := some (fileOf pool19 14 #[.nestMembers #[390, 221]] #[{ accessFlags := 0, nameIndex := 7, descriptorIndex := 8, attributes := #[] }, { accessFlags := 9, nameIndex := 281, descriptorIndex := 282, attributes := #[] }, { accessFlags := 9, nameIndex := 17, descriptorIndex := 27, attributes := #[] }] 48 4 #[] #[{ accessFlags := 4120, nameIndex := 121, descriptorIndex := 122, attributes := #[] }])
  fields := #[{ name := "$assertionsDisabled", type := .boolean, accessFlags := 4120, slot := 0, constantValue := 0 }]
  methods := #[k19m0, k19m1, k19m2]
  instanceTypes := #[]
  staticTypes := #[.boolean]
  resolved := Array.replicate 395 none
  statics := none }

def pool20 : Array CpInfo := pool [(3, .class_ 4), (0, u "java/lang/String"), (1, .class_ 8), (1, u "java/lang/Object"), (0, u "<init>"), (0, u "()V"), (0, .methodref 12 13), (0, .class_ 14), (0, .nameAndType 15 16), (0, u "java/lang/StringUTF16"), (0, u "newBytesLength"), (0, u "(I)I"), (3, .integer 1073741823), (23, .fieldref 12 45), (0, .nameAndType 46 47), (0, u "$assertionsDisabled"), (0, u "Z"), (0, .methodref 12 49), (0, .nameAndType 50 51), (0, u "length"), (0, u "([B)I"), (7, .fieldref 12 60), (0, .nameAndType 61 62), (0, u "HI_BYTE_SHIFT"), (0, u "I"), (0, .fieldref 12 64), (0, .nameAndType 65 62), (0, u "LO_BYTE_SHIFT"), (5, .methodref 12 72), (0, .nameAndType 73 74), (0, u "getChar"), (0, u "([BI)C"), (24, u "(II[B)V"), (7, .methodref 12 108), (0, .nameAndType 109 110), (0, u "newBytesFor"), (0, u "(I)[B"), (0, .methodref 12 112), (0, .nameAndType 113 114), (0, u "putChar"), (0, u "([BII)V"), (0, .methodref 12 116), (0, .nameAndType 117 118), (0, u "compress"), (0, u "([CI[BII)I"), (0, .methodref 12 120), (0, .nameAndType 121 122), (0, u "toBytes"), (0, u "([CII)[B"), (17, u "inflate"), (0, u "([BI[BII)V"), (31, .methodref 12 174), (0, .nameAndType 175 99), (0, u "checkBoundsOffCount"), (85, u "coderFromArrayLen"), (0, u "([BI)B"), (18, u "(III)I"), (87, .class_ 371), (1, u "java/lang/StringUTF16$LinesSpliterator"), (47, .methodref 3 420), (0, .nameAndType 175 281), (9, u "MAX_LENGTH"), (196, .class_ 628), (0, u "java/lang/StringUTF16$CodePointsSpliterator"), (0, .class_ 630), (0, u "java/lang/StringUTF16$CharsSpliterator")] 4

def k20m0 : Method := { name := "<init>", desc := "()V", sig := { parameters := [], returnType := none }, accessFlags := 0, code := none }
def k20c1 : Code := { maxStack := 1, maxLocals := 1, code := jdk_52_method_2_code, exceptionTable := #[], attributes := #[] }
def k20m1 : Method := { name := "newBytesFor", desc := "(I)[B", sig := { parameters := [.int], returnType := some (.array .byte) }, accessFlags := 9, code := some k20c1 }
def k20c2 : Code := { maxStack := 4, maxLocals := 1, code := jdk_52_method_3_code, exceptionTable := #[], attributes := #[] }
def k20m2 : Method := { name := "newBytesLength", desc := "(I)I", sig := { parameters := [.int], returnType := some .int }, accessFlags := 9, code := some k20c2 }
def k20c3 : Code := { maxStack := 4, maxLocals := 3, code := jdk_52_method_4_code, exceptionTable := #[], attributes := #[] }
def k20m3 : Method := { name := "putChar", desc := "([BII)V", sig := { parameters := [(.array .byte), .int, .int], returnType := none }, accessFlags := 8, code := some k20c3 }
def k20c4 : Code := { maxStack := 3, maxLocals := 2, code := jdk_52_method_5_code, exceptionTable := #[], attributes := #[] }
def k20m4 : Method := { name := "getChar", desc := "([BI)C", sig := { parameters := [(.array .byte), .int], returnType := some .char }, accessFlags := 8, code := some k20c4 }
def k20c5 : Code := { maxStack := 2, maxLocals := 1, code := jdk_52_method_6_code, exceptionTable := #[], attributes := #[] }
def k20m5 : Method := { name := "length", desc := "([B)I", sig := { parameters := [(.array .byte)], returnType := some .int }, accessFlags := 9, code := some k20c5 }
def k20c6 : Code := { maxStack := 4, maxLocals := 5, code := jdk_52_method_14_code, exceptionTable := #[], attributes := #[] }
def k20m6 : Method := { name := "toBytes", desc := "([CII)[B", sig := { parameters := [(.array .char), .int, .int], returnType := some (.array .byte) }, accessFlags := 9, code := some k20c6 }
def k20c7 : Code := { maxStack := 2, maxLocals := 2, code := jdk_52_method_15_code, exceptionTable := #[], attributes := #[] }
def k20m7 : Method := { name := "coderFromArrayLen", desc := "([BI)B", sig := { parameters := [(.array .byte), .int], returnType := some .byte }, accessFlags := 8, code := some k20c7 }
def k20c8 : Code := { maxStack := 5, maxLocals := 6, code := jdk_52_method_16_code, exceptionTable := #[], attributes := #[] }
def k20m8 : Method := { name := "compress", desc := "([CII)[B", sig := { parameters := [(.array .char), .int, .int], returnType := some (.array .byte) }, accessFlags := 9, code := some k20c8 }
def k20c9 : Code := { maxStack := 3, maxLocals := 7, code := jdk_52_method_21_code, exceptionTable := #[], attributes := #[] }
def k20m9 : Method := { name := "compress", desc := "([CI[BII)I", sig := { parameters := [(.array .char), .int, (.array .byte), .int, .int], returnType := some .int }, accessFlags := 9, code := some k20c9 }
def k20c10 : Code := { maxStack := 4, maxLocals := 6, code := jdk_52_method_86_code, exceptionTable := #[], attributes := #[] }
def k20m10 : Method := { name := "inflate", desc := "([BI[BII)V", sig := { parameters := [(.array .byte), .int, (.array .byte), .int, .int], returnType := none }, accessFlags := 9, code := some k20c10 }
def k20c11 : Code := { maxStack := 3, maxLocals := 3, code := jdk_52_method_94_code, exceptionTable := #[], attributes := #[] }
def k20m11 : Method := { name := "checkBoundsOffCount", desc := "(II[B)V", sig := { parameters := [.int, .int, (.array .byte)], returnType := none }, accessFlags := 9, code := some k20c11 }
/-- java/lang/StringUTF16 -/
def k20 : Class := { plain "java/lang/StringUTF16" (some 0) with
  accessFlags := 48
  interfaces := #[]
  cf := some (fileOf pool20 12 #[.nestMembers #[627, 629, 369]] #[{ accessFlags := 0, nameIndex := 9, descriptorIndex := 10, attributes := #[] }, { accessFlags := 9, nameIndex := 109, descriptorIndex := 110, attributes := #[] }, { accessFlags := 9, nameIndex := 15, descriptorIndex := 16, attributes := #[] }, { accessFlags := 8, nameIndex := 113, descriptorIndex := 114, attributes := #[] }, { accessFlags := 8, nameIndex := 73, descriptorIndex := 74, attributes := #[] }, { accessFlags := 9, nameIndex := 50, descriptorIndex := 51, attributes := #[] }, { accessFlags := 9, nameIndex := 121, descriptorIndex := 122, attributes := #[] }, { accessFlags := 8, nameIndex := 261, descriptorIndex := 262, attributes := #[] }, { accessFlags := 9, nameIndex := 117, descriptorIndex := 122, attributes := #[] }, { accessFlags := 9, nameIndex := 117, descriptorIndex := 118, attributes := #[] }, { accessFlags := 9, nameIndex := 140, descriptorIndex := 141, attributes := #[] }, { accessFlags := 9, nameIndex := 175, descriptorIndex := 99, attributes := #[] }] 48 6 #[] #[{ accessFlags := 26, nameIndex := 61, descriptorIndex := 62, attributes := #[] }, { accessFlags := 26, nameIndex := 65, descriptorIndex := 62, attributes := #[] }, { accessFlags := 24, nameIndex := 430, descriptorIndex := 62, attributes := #[] }, { accessFlags := 4120, nameIndex := 46, descriptorIndex := 47, attributes := #[] }])
  fields := #[{ name := "HI_BYTE_SHIFT", type := .int, accessFlags := 26, slot := 0, constantValue := 0 }, { name := "LO_BYTE_SHIFT", type := .int, accessFlags := 26, slot := 1, constantValue := 0 }, { name := "MAX_LENGTH", type := .int, accessFlags := 24, slot := 2, constantValue := 0 }, { name := "$assertionsDisabled", type := .boolean, accessFlags := 4120, slot := 3, constantValue := 0 }]
  methods := #[k20m0, k20m1, k20m2, k20m3, k20m4, k20m5, k20m6, k20m7, k20m8, k20m9, k20m10, k20m11]
  instanceTypes := #[]
  staticTypes := #[.int, .int, .int, .boolean]
  resolved := Array.replicate 635 none
  statics := some 2 }

def pool21 : Array CpInfo := pool [(2, .class_ 4), (1, u "java/lang/Object"), (0, u "<init>"), (0, u "()V"), (17, .class_ 26), (1, u "jdk/internal/util/Preconditions"), (22, u "checkFromIndexSize"), (5, .class_ 56), (0, u "jdk/internal/util/Preconditions$4"), (57, .class_ 115), (0, u "jdk/internal/util/Preconditions$1"), (7, u "SIOOBE_FORMATTER"), (0, u "Ljava/util/function/BiFunction;"), (0, .class_ 126), (0, u "jdk/internal/util/Preconditions$2"), (3, u "AIOOBE_FORMATTER"), (0, .class_ 132), (0, u "jdk/internal/util/Preconditions$3"), (3, u "IOOBE_FORMATTER"), (46, u "(IIILjava/util/function/BiFunction;)I")] 10

def k21m0 : Method := { name := "<init>", desc := "()V", sig := { parameters := [], returnType := none }, accessFlags := 1, code := none }
def k21c1 : Code := { maxStack := 4, maxLocals := 4, code := jdk_41_method_13_code, exceptionTable := #[], attributes := #[] }
def k21m1 : Method := { name := "checkFromIndexSize", desc := "(IIILjava/util/function/BiFunction;)I", sig := { parameters := [.int, .int, .int, (.object "java/util/function/BiFunction")], returnType := some .int }, accessFlags := 9, code := some k21c1 }
/-- jdk/internal/util/Preconditions -/
def k21 : Class := { plain "jdk/internal/util/Preconditions" (some 0) with
  accessFlags := 33
  interfaces := #[]
  cf := some (fileOf pool21 24 #[.nestMembers #[55, 131, 125, 114]] #[{ accessFlags := 1, nameIndex := 5, descriptorIndex := 6, attributes := #[] }, { accessFlags := 9, nameIndex := 49, descriptorIndex := 183, attributes := #[] }] 33 2 #[] #[{ accessFlags := 25, nameIndex := 123, descriptorIndex := 124, attributes := #[] }, { accessFlags := 25, nameIndex := 130, descriptorIndex := 124, attributes := #[] }, { accessFlags := 25, nameIndex := 136, descriptorIndex := 124, attributes := #[] }])
  fields := #[{ name := "SIOOBE_FORMATTER", type := (.object "java/util/function/BiFunction"), accessFlags := 25, slot := 0, constantValue := 0 }, { name := "AIOOBE_FORMATTER", type := (.object "java/util/function/BiFunction"), accessFlags := 25, slot := 1, constantValue := 0 }, { name := "IOOBE_FORMATTER", type := (.object "java/util/function/BiFunction"), accessFlags := 25, slot := 2, constantValue := 0 }]
  methods := #[k21m0, k21m1]
  instanceTypes := #[]
  staticTypes := #[(.object "java/util/function/BiFunction"), (.object "java/util/function/BiFunction"), (.object "java/util/function/BiFunction")]
  resolved := Array.replicate 194 none
  statics := some 3 }

def pool22 : Array CpInfo := pool [(2, .class_ 4), (1, u "java/lang/Object"), (0, u "<init>"), (0, u "()V"), (12, .class_ 20), (0, u "java/util/Collections"), (63, u "r"), (0, u "Ljava/util/Random;"), (80, .class_ 167), (0, u "java/util/Collections$UnmodifiableCollection"), (6, .class_ 175), (0, u "java/util/Collections$UnmodifiableSequencedCollection"), (6, .class_ 183), (0, u "java/util/Collections$UnmodifiableSet"), (6, .class_ 191), (0, u "java/util/Collections$UnmodifiableSequencedSet"), (6, .class_ 199), (0, u "java/util/Collections$UnmodifiableSortedSet"), (6, .class_ 207), (0, u "java/util/Collections$UnmodifiableNavigableSet"), (4, .class_ 213), (0, u "java/util/Collections$UnmodifiableList"), (1, .class_ 216), (0, u "java/util/Collections$UnmodifiableRandomAccessList"), (6, .class_ 224), (0, u "java/util/Collections$UnmodifiableMap"), (6, .class_ 232), (0, u "java/util/Collections$UnmodifiableSequencedMap"), (4, .class_ 238), (0, u "java/util/Collections$UnmodifiableSortedMap"), (6, .class_ 246), (0, u "java/util/Collections$UnmodifiableNavigableMap"), (3, .class_ 251), (0, u "java/util/Collections$SynchronizedCollection"), (4, .class_ 257), (0, u "java/util/Collections$SynchronizedSet"), (4, .class_ 263), (0, u "java/util/Collections$SynchronizedSortedSet"), (1, .class_ 266), (0, u "java/util/Collections$SynchronizedNavigableSet"), (1, .class_ 269), (0, u "java/util/Collections$SynchronizedRandomAccessList"), (1, .class_ 272), (0, u "java/util/Collections$SynchronizedList"), (5, .class_ 279), (0, u "java/util/Collections$SynchronizedMap"), (1, .class_ 282), (0, u "java/util/Collections$SynchronizedSortedMap"), (1, .class_ 285), (0, u "java/util/Collections$SynchronizedNavigableMap"), (1, .class_ 288), (0, u "java/util/Collections$CheckedCollection"), (11, .class_ 301), (0, u "java/util/Collections$CheckedQueue"), (3, .class_ 306), (0, u "java/util/Collections$CheckedSet"), (3, .class_ 311), (0, u "java/util/Collections$CheckedSortedSet"), (3, .class_ 316), (0, u "java/util/Collections$CheckedNavigableSet"), (3, .class_ 321), (0, u "java/util/Collections$CheckedRandomAccessList"), (3, .class_ 326), (0, u "java/util/Collections$CheckedList"), (1, .class_ 329), (0, u "java/util/Collections$CheckedMap"), (3, .class_ 334), (0, u "java/util/Collections$CheckedSortedMap"), (3, .class_ 339), (0, u "java/util/Collections$CheckedNavigableMap"), (4, .class_ 346), (1, u "java/util/Collections$EmptyIterator"), (3, .class_ 352), (1, u "java/util/Collections$EmptyListIterator"), (2, .class_ 357), (1, u "java/util/Collections$EmptyEnumeration"), (4, u "EMPTY_SET"), (0, u "Ljava/util/Set;"), (6, u "EMPTY_LIST"), (0, u "Ljava/util/List;"), (2, u "EMPTY_MAP"), (0, u "Ljava/util/Map;"), (4, .class_ 381), (0, u "java/util/Collections$SingletonSet"), (2, .class_ 385), (0, u "java/util/Collections$1"), (1, .class_ 388), (0, u "java/util/Collections$2"), (1, .class_ 391), (0, u "java/util/Collections$SingletonList"), (1, .class_ 394), (0, u "java/util/Collections$SingletonMap"), (22, .class_ 418), (0, u "java/util/Collections$CopiesList"), (4, .class_ 425), (1, u "java/util/Collections$ReverseComparator"), (8, .class_ 435), (0, u "java/util/Collections$ReverseComparator2"), (6, .class_ 443), (0, u "java/util/Collections$3"), (25, .class_ 470), (0, u "java/util/Collections$SetFromMap"), (2, .class_ 474), (0, u "java/util/Collections$SequencedSetFromMap"), (3, .class_ 479), (0, u "java/util/Collections$AsLIFOQueue"), (11, .class_ 492), (0, u "java/util/Collections$EmptySet"), (1, .class_ 495), (0, u "java/util/Collections$EmptyList"), (1, .class_ 498), (0, u "java/util/Collections$EmptyMap"), (1, u "BINARYSEARCH_THRESHOLD"), (0, u "I"), (2, u "REVERSE_THRESHOLD"), (1, u "SHUFFLE_THRESHOLD"), (1, u "FILL_THRESHOLD"), (1, u "ROTATE_THRESHOLD"), (1, u "COPY_THRESHOLD"), (1, u "REPLACEALL_THRESHOLD"), (1, u "INDEXOFSUBLIST_THRESHOLD"), (333, .class_ 851), (0, u "java/util/Collections$CheckedMap$CheckedEntrySet"), (0, .class_ 853), (0, u "java/util/Collections$CheckedMap$CheckedEntrySet$CheckedEntry"), (0, .class_ 855), (0, u "java/util/Collections$CheckedMap$CheckedEntrySet$1"), (0, .class_ 857), (0, u "java/util/Collections$CheckedList$1"), (0, .class_ 859), (0, u "java/util/Collections$CheckedCollection$1"), (0, .class_ 861), (0, u "java/util/Collections$UnmodifiableNavigableMap$EmptyNavigableMap"), (0, .class_ 863), (0, u "java/util/Collections$UnmodifiableMap$UnmodifiableEntrySet"), (0, .class_ 865), (0, u "java/util/Collections$UnmodifiableMap$UnmodifiableEntrySet$UnmodifiableEntry"), (0, .class_ 867), (0, u "java/util/Collections$UnmodifiableMap$UnmodifiableEntrySet$UnmodifiableEntrySetSpliterator"), (0, .class_ 869), (0, u "java/util/Collections$UnmodifiableMap$UnmodifiableEntrySet$1"), (0, .class_ 871), (0, u "java/util/Collections$UnmodifiableList$1"), (0, .class_ 873), (0, u "java/util/Collections$UnmodifiableNavigableSet$EmptyNavigableSet"), (0, .class_ 875), (0, u "java/util/Collections$UnmodifiableCollection$1")] 57

def k22m0 : Method := { name := "<init>", desc := "()V", sig := { parameters := [], returnType := none }, accessFlags := 2, code := none }
/-- java/util/Collections -/
def k22 : Class := { plain "java/util/Collections" (some 0) with
  accessFlags := 33
  interfaces := #[]
  cf := some (fileOf pool22 19 #[.nestMembers #[478, 473, 469, 434, 423, 417, 393, 390, 380, 497, 494, 491, 355, 350, 344, 338, 333, 328, 850, 852, 854, 320, 325, 856, 315, 310, 305, 300, 287, 858, 284, 281, 278, 268, 271, 265, 262, 256, 250, 245, 860, 237, 231, 223, 862, 864, 866, 868, 215, 212, 870, 206, 872, 198, 190, 182, 174, 166, 874, 442, 387, 384]] #[{ accessFlags := 2, nameIndex := 5, descriptorIndex := 6, attributes := #[] }] 33 2 #[] #[{ accessFlags := 26, nameIndex := 500, descriptorIndex := 501, attributes := #[] }, { accessFlags := 26, nameIndex := 504, descriptorIndex := 501, attributes := #[] }, { accessFlags := 26, nameIndex := 506, descriptorIndex := 501, attributes := #[] }, { accessFlags := 26, nameIndex := 508, descriptorIndex := 501, attributes := #[] }, { accessFlags := 26, nameIndex := 510, descriptorIndex := 501, attributes := #[] }, { accessFlags := 26, nameIndex := 512, descriptorIndex := 501, attributes := #[] }, { accessFlags := 26, nameIndex := 514, descriptorIndex := 501, attributes := #[] }, { accessFlags := 26, nameIndex := 516, descriptorIndex := 501, attributes := #[] }, { accessFlags := 10, nameIndex := 84, descriptorIndex := 85, attributes := #[] }, { accessFlags := 25, nameIndex := 362, descriptorIndex := 363, attributes := #[] }, { accessFlags := 25, nameIndex := 370, descriptorIndex := 371, attributes := #[] }, { accessFlags := 25, nameIndex := 374, descriptorIndex := 375, attributes := #[] }])
  fields := #[{ name := "BINARYSEARCH_THRESHOLD", type := .int, accessFlags := 26, slot := 0, constantValue := 0 }, { name := "REVERSE_THRESHOLD", type := .int, accessFlags := 26, slot := 1, constantValue := 0 }, { name := "SHUFFLE_THRESHOLD", type := .int, accessFlags := 26, slot := 2, constantValue := 0 }, { name := "FILL_THRESHOLD", type := .int, accessFlags := 26, slot := 3, constantValue := 0 }, { name := "ROTATE_THRESHOLD", type := .int, accessFlags := 26, slot := 4, constantValue := 0 }, { name := "COPY_THRESHOLD", type := .int, accessFlags := 26, slot := 5, constantValue := 0 }, { name := "REPLACEALL_THRESHOLD", type := .int, accessFlags := 26, slot := 6, constantValue := 0 }, { name := "INDEXOFSUBLIST_THRESHOLD", type := .int, accessFlags := 26, slot := 7, constantValue := 0 }, { name := "r", type := (.object "java/util/Random"), accessFlags := 10, slot := 8, constantValue := 0 }, { name := "EMPTY_SET", type := (.object "java/util/Set"), accessFlags := 25, slot := 9, constantValue := 0 }, { name := "EMPTY_LIST", type := (.object "java/util/List"), accessFlags := 25, slot := 10, constantValue := 0 }, { name := "EMPTY_MAP", type := (.object "java/util/Map"), accessFlags := 25, slot := 11, constantValue := 0 }]
  methods := #[k22m0]
  instanceTypes := #[]
  staticTypes := #[.int, .int, .int, .int, .int, .int, .int, .int, (.object "java/util/Random"), (.object "java/util/Set"), (.object "java/util/List"), (.object "java/util/Map")]
  resolved := Array.replicate 933 none
  statics := some 4 }

def pool23 : Array CpInfo := pool [(8, .class_ 10), (1, u "java/lang/Iterable"), (24, .class_ 36), (0, u "java/lang/Object")] 25

/-- java/lang/Iterable -/
def k23 : Class := { plain "java/lang/Iterable" (some 0) with
  accessFlags := 1537
  interfaces := #[]
  cf := some (fileOf pool23 8 #[] #[] 1537 35 #[] #[])
  fields := #[]
  methods := #[]
  instanceTypes := #[]
  staticTypes := #[]
  resolved := Array.replicate 62 none
  statics := none }

def pool24 : Array CpInfo := pool [(10, .class_ 12), (1, u "java/util/Collection"), (47, .class_ 61), (0, u "java/lang/Object"), (0, .class_ 63), (0, u "java/lang/Iterable")] 51

/-- java/util/Collection -/
def k24 : Class := { plain "java/util/Collection" (some 0) with
  accessFlags := 1537
  interfaces := #[23]
  cf := some (fileOf pool24 10 #[] #[] 1537 60 #[62] #[])
  fields := #[]
  methods := #[]
  instanceTypes := #[]
  staticTypes := #[]
  resolved := Array.replicate 115 none
  statics := none }

def pool25 : Array CpInfo := pool [(2, .class_ 4), (1, u "java/lang/Object"), (0, u "<init>"), (0, u "()V"), (1, .class_ 10), (1, u "java/util/AbstractCollection"), (66, .class_ 78), (0, u "java/util/Collection")] 81

def k25m0 : Method := { name := "<init>", desc := "()V", sig := { parameters := [], returnType := none }, accessFlags := 4, code := none }
/-- java/util/AbstractCollection -/
def k25 : Class := { plain "java/util/AbstractCollection" (some 0) with
  accessFlags := 1057
  interfaces := #[24]
  cf := some (fileOf pool25 8 #[] #[{ accessFlags := 4, nameIndex := 5, descriptorIndex := 6, attributes := #[] }] 1057 2 #[77] #[])
  fields := #[]
  methods := #[k25m0]
  instanceTypes := #[]
  staticTypes := #[]
  resolved := Array.replicate 160 none
  statics := none }

def pool26 : Array CpInfo := pool [(8, .class_ 10), (1, u "java/util/SequencedCollection"), (15, .class_ 27), (0, u "java/lang/Object"), (0, .class_ 29), (0, u "java/util/Collection")] 27

/-- java/util/SequencedCollection -/
def k26 : Class := { plain "java/util/SequencedCollection" (some 0) with
  accessFlags := 1537
  interfaces := #[24]
  cf := some (fileOf pool26 8 #[] #[] 1537 26 #[28] #[])
  fields := #[]
  methods := #[]
  instanceTypes := #[]
  staticTypes := #[]
  resolved := Array.replicate 57 none
  statics := none }

def pool27 : Array CpInfo := pool [(8, .class_ 10), (1, u "java/util/List"), (92, .class_ 104), (0, u "java/lang/Object"), (15, .class_ 121), (0, u "java/util/SequencedCollection")] 129

/-- java/util/List -/
def k27 : Class := { plain "java/util/List" (some 0) with
  accessFlags := 1537
  interfaces := #[26]
  cf := some (fileOf pool27 8 #[] #[] 1537 103 #[120] #[])
  fields := #[]
  methods := #[]
  instanceTypes := #[]
  staticTypes := #[]
  resolved := Array.replicate 251 none
  statics := none }

def pool28 : Array CpInfo := pool [(2, .class_ 4), (1, u "java/util/AbstractCollection"), (0, u "<init>"), (0, u "()V"), (1, .class_ 10), (1, u "java/util/AbstractList"), (0, u "modCount"), (0, u "I"), (64, .class_ 78), (0, u "java/util/AbstractList$Itr"), (3, .class_ 83), (0, u "java/util/AbstractList$ListItr"), (9, .class_ 94), (0, u "java/util/AbstractList$RandomAccessSubList"), (3, .class_ 99), (0, u "java/util/AbstractList$SubList"), (33, .class_ 134), (0, u "java/util/List"), (73, .class_ 209), (0, u "java/util/AbstractList$SubList$1"), (0, .class_ 211), (0, u "java/util/AbstractList$RandomAccessSpliterator")] 6

def k28m0 : Method := { name := "<init>", desc := "()V", sig := { parameters := [], returnType := none }, accessFlags := 4, code := none }
/-- java/util/AbstractList -/
def k28 : Class := { plain "java/util/AbstractList" (some 25) with
  accessFlags := 1057
  interfaces := #[27]
  cf := some (fileOf pool28 8 #[.nestMembers #[93, 98, 208, 210, 82, 77]] #[{ accessFlags := 4, nameIndex := 5, descriptorIndex := 6, attributes := #[] }] 1057 2 #[133] #[{ accessFlags := 132, nameIndex := 11, descriptorIndex := 12, attributes := #[] }])
  fields := #[{ name := "modCount", type := .int, accessFlags := 132, slot := 0, constantValue := 0 }]
  methods := #[k28m0]
  instanceTypes := #[.int]
  staticTypes := #[]
  resolved := Array.replicate 218 none
  statics := none }

def pool29 : Array CpInfo := pool [(1, .class_ 2), (0, u "java/util/RandomAccess"), (0, .class_ 4), (0, u "java/lang/Object")] 2

/-- java/util/RandomAccess -/
def k29 : Class := { plain "java/util/RandomAccess" (some 0) with
  accessFlags := 1537
  interfaces := #[]
  cf := some (fileOf pool29 1 #[] #[] 1537 3 #[] #[])
  fields := #[]
  methods := #[]
  instanceTypes := #[]
  staticTypes := #[]
  resolved := Array.replicate 7 none
  statics := none }

def pool30 : Array CpInfo := pool [(2, .class_ 4), (1, u "java/util/AbstractList"), (0, u "<init>"), (0, u "()V"), (1, .class_ 10), (1, u "java/util/Collections"), (54, .class_ 66), (0, u "java/util/Collections$EmptyList"), (0, .class_ 68), (0, u "java/util/RandomAccess"), (0, .class_ 70), (0, u "java/io/Serializable"), (0, u "serialVersionUID"), (0, u "J")] 77

def k30m0 : Method := { name := "<init>", desc := "()V", sig := { parameters := [], returnType := none }, accessFlags := 2, code := none }
/-- java/util/Collections$EmptyList -/
def k30 : Class := { plain "java/util/Collections$EmptyList" (some 28) with
  accessFlags := 32
  interfaces := #[29, 2]
  cf := some (fileOf pool30 65 #[.nestHost 8] #[{ accessFlags := 2, nameIndex := 5, descriptorIndex := 6, attributes := #[] }] 32 2 #[67, 69] #[{ accessFlags := 26, nameIndex := 71, descriptorIndex := 72, attributes := #[] }])
  fields := #[{ name := "serialVersionUID", type := .long, accessFlags := 26, slot := 0, constantValue := 0 }]
  methods := #[k30m0]
  instanceTypes := #[.int]
  staticTypes := #[.long]
  resolved := Array.replicate 150 none
  statics := none }

def pool31 : Array CpInfo := pool [(2, .class_ 4), (1, u "java/lang/StackTraceElement"), (0, u "<init>"), (2, .class_ 10), (1, u "java/lang/Object"), (0, u "()V"), (2, u "format"), (0, u "B"), (2, u "classLoaderName"), (0, u "Ljava/lang/String;"), (2, u "moduleName"), (2, u "moduleVersion"), (12, u "declaringClass"), (4, u "methodName"), (2, u "fileName"), (2, u "lineNumber"), (0, u "I"), (65, u "declaringClassObject"), (0, u "Ljava/lang/Class;"), (33, .class_ 153), (1, u "java/lang/StackTraceElement$HashedModules"), (17, .class_ 172), (0, u "java/io/Serializable"), (0, u "NATIVE_METHOD"), (1, u "UNKNOWN_SOURCE"), (2, u "BUILTIN_CLASS_LOADER"), (1, u "JDK_NON_UPGRADEABLE_MODULE"), (1, u "serialVersionUID"), (0, u "J")] 51

def k31m0 : Method := { name := "<init>", desc := "()V", sig := { parameters := [], returnType := none }, accessFlags := 2, code := none }
/-- java/lang/StackTraceElement -/
def k31 : Class := { plain "java/lang/StackTraceElement" (some 0) with
  accessFlags := 49
  interfaces := #[2]
  cf := some (fileOf pool31 2 #[.nestMembers #[151]] #[{ accessFlags := 2, nameIndex := 5, descriptorIndex := 11, attributes := #[] }] 49 8 #[171] #[{ accessFlags := 26, nameIndex := 173, descriptorIndex := 19, attributes := #[] }, { accessFlags := 26, nameIndex := 175, descriptorIndex := 19, attributes := #[] }, { accessFlags := 130, nameIndex := 116, descriptorIndex := 117, attributes := #[] }, { accessFlags := 2, nameIndex := 18, descriptorIndex := 19, attributes := #[] }, { accessFlags := 2, nameIndex := 22, descriptorIndex := 19, attributes := #[] }, { accessFlags := 2, nameIndex := 25, descriptorIndex := 19, attributes := #[] }, { accessFlags := 2, nameIndex := 38, descriptorIndex := 19, attributes := #[] }, { accessFlags := 2, nameIndex := 43, descriptorIndex := 19, attributes := #[] }, { accessFlags := 2, nameIndex := 46, descriptorIndex := 19, attributes := #[] }, { accessFlags := 2, nameIndex := 49, descriptorIndex := 50, attributes := #[] }, { accessFlags := 2, nameIndex := 14, descriptorIndex := 15, attributes := #[] }, { accessFlags := 26, nameIndex := 178, descriptorIndex := 15, attributes := #[] }, { accessFlags := 26, nameIndex := 180, descriptorIndex := 15, attributes := #[] }, { accessFlags := 26, nameIndex := 182, descriptorIndex := 183, attributes := #[] }])
  fields := #[{ name := "NATIVE_METHOD", type := (.object "java/lang/String"), accessFlags := 26, slot := 0, constantValue := 0 }, { name := "UNKNOWN_SOURCE", type := (.object "java/lang/String"), accessFlags := 26, slot := 1, constantValue := 0 }, { name := "declaringClassObject", type := (.object "java/lang/Class"), accessFlags := 130, slot := 0, constantValue := 0 }, { name := "classLoaderName", type := (.object "java/lang/String"), accessFlags := 2, slot := 1, constantValue := 0 }, { name := "moduleName", type := (.object "java/lang/String"), accessFlags := 2, slot := 2, constantValue := 0 }, { name := "moduleVersion", type := (.object "java/lang/String"), accessFlags := 2, slot := 3, constantValue := 0 }, { name := "declaringClass", type := (.object "java/lang/String"), accessFlags := 2, slot := 4, constantValue := 0 }, { name := "methodName", type := (.object "java/lang/String"), accessFlags := 2, slot := 5, constantValue := 0 }, { name := "fileName", type := (.object "java/lang/String"), accessFlags := 2, slot := 6, constantValue := 0 }, { name := "lineNumber", type := .int, accessFlags := 2, slot := 7, constantValue := 0 }, { name := "format", type := .byte, accessFlags := 2, slot := 8, constantValue := 0 }, { name := "BUILTIN_CLASS_LOADER", type := .byte, accessFlags := 26, slot := 2, constantValue := 0 }, { name := "JDK_NON_UPGRADEABLE_MODULE", type := .byte, accessFlags := 26, slot := 3, constantValue := 0 }, { name := "serialVersionUID", type := .long, accessFlags := 26, slot := 4, constantValue := 0 }]
  methods := #[k31m0]
  instanceTypes := #[(.object "java/lang/Class"), (.object "java/lang/String"), (.object "java/lang/String"), (.object "java/lang/String"), (.object "java/lang/String"), (.object "java/lang/String"), (.object "java/lang/String"), .int, .byte]
  staticTypes := #[(.object "java/lang/String"), (.object "java/lang/String"), .byte, .byte, .long]
  resolved := Array.replicate 235 none
  statics := none }

def pool32 : Array CpInfo := pool [(1, u "java/lang/Cloneable"), (0, .class_ 1), (0, u "java/lang/Object"), (0, .class_ 3)] 3

/-- java/lang/Cloneable -/
def k32 : Class := { plain "java/lang/Cloneable" (some 0) with
  accessFlags := 1537
  interfaces := #[]
  cf := some (fileOf pool32 2 #[] #[] 1537 4 #[] #[])
  fields := #[]
  methods := #[]
  instanceTypes := #[]
  staticTypes := #[]
  resolved := Array.replicate 8 none
  statics := none }

/-- the primitive byte -/
def k33 : Class := { plain "byte" none with kind := .primitive 'B', accessFlags := 0x411 }
/-- [B -/
def k34 : Class := { plain "[B" (some 0) with kind := .array 33 .byte, interfaces := #[32, 2], accessFlags := 1041 }

/-- the primitive char -/
def k35 : Class := { plain "char" none with kind := .primitive 'C', accessFlags := 0x411 }
/-- [C -/
def k36 : Class := { plain "[C" (some 0) with kind := .array 35 .char, interfaces := #[32, 2], accessFlags := 1041 }

/-- the primitive int -/
def k37 : Class := { plain "int" none with kind := .primitive 'I', accessFlags := 0x411 }
/-- [I -/
def k38 : Class := { plain "[I" (some 0) with kind := .array 37 .int, interfaces := #[32, 2], accessFlags := 1041 }

/-- [Ljava/lang/Object; -/
def k39 : Class := { plain "[Ljava/lang/Object;" (some 0) with kind := .array 0 (.object "java/lang/Object"), interfaces := #[32, 2], accessFlags := 1041 }

/-- [Ljava/lang/StackTraceElement; -/
def k40 : Class := { plain "[Ljava/lang/StackTraceElement;" (some 0) with kind := .array 31 (.object "java/lang/StackTraceElement"), interfaces := #[32, 2], accessFlags := 1041 }

/-- [Ljava/lang/Throwable; -/
def k41 : Class := { plain "[Ljava/lang/Throwable;" (some 0) with kind := .array 8 (.object "java/lang/Throwable"), interfaces := #[32, 2], accessFlags := 1041 }

def heap : Heap := #[{ cls := 7, slots := #[.long 0, .int 1, .null, .int 0, .null, .int 0, .int 0], vm := .statics 7 },
  { cls := 8, slots := #[.long 0, .ref 5, .ref 6, .null, .null, .null, .null, .ref 7, .int 1], vm := .statics 8 },
  { cls := 20, slots := #[.int 0, .int 8, .int 0, .int 1], vm := .statics 20 },
  { cls := 21, slots := #[.null, .null, .null], vm := .statics 21 },
  { cls := 22, slots := #[.int 0, .int 0, .int 0, .int 0, .int 0, .int 0, .int 0, .int 0, .null, .null, .ref 6, .null], vm := .statics 22 },
  { cls := 40, slots := #[], vm := .none },
  { cls := 30, slots := #[.int 0], vm := .none },
  { cls := 41, slots := #[], vm := .none }]
def classes : Array Class := #[k0, k1, k2, k3, k4, k5, k6, k7, k8, k9, k10, k11, k12, k13, k14, k15, k16, k17, k18, k19, k20, k21, k22, k23, k24, k25, k26, k27, k28, k29, k30, k31, k32, k33, k34, k35, k36, k37, k38, k39, k40, k41]
def interned : List (Array UInt16 × Addr) := []
def slotsUsed : Nat := 36
def theMethod : MethodId := ⟨1, 1⟩
def args0 : Array Value := #[.int 5, .int 5, .int 5]
def aboutOver (below : List Frame) : State where
  vm := { classes := classes, interned := interned.toArray }
  heap := heap
  slotsUsed := slotsUsed
  threads := #[{ frames := .invoking theMethod args0 :: below }]
def below0 : List Frame := [.native { method := ⟨0, 0⟩, args := #[] }]
def about1 : State := aboutOver below0
def p0 : Program := .bare "" "" ""
def e0 : Env := launch0.env 0 0 0
theorem w_frames : about1.frames = Frame.invoking theMethod args0 :: below0 := rfl
set_option maxRecDepth 65536 in
theorem w_args : argsFit about1.vm theMethod args0 = true := by decide +kernel
set_option maxRecDepth 65536 in
theorem w_heap : heapFits about1 = true := by decide +kernel
set_option maxRecDepth 65536 in
theorem w_runnable : about1.curStatus? = some .runnable := by decide +kernel
set_option maxRecDepth 65536 in
theorem w_alone : about1.alone = true := by decide +kernel
set_option maxRecDepth 65536 in
theorem w_named : about1.methodNamed? x = some theMethod := by decide +kernel
set_option maxRecDepth 65536 in
theorem w_hears : about1.hears theMethod below0 = true := by decide +kernel
set_option maxRecDepth 65536 in
theorem w_ripe : about1.ripe theMethod args0 below0 = true := by decide +kernel
theorem w_running : about1.status = .running := rfl
set_option maxRecDepth 65536 in
theorem w_room : about1.hasRoom e0.platform room_1 = true :=
  launch0.hasRoom_least _ room_1 (by decide +kernel) (by decide +kernel) (by decide +kernel) (by decide +kernel) (by decide +kernel) (by decide +kernel)
theorem allAtoms_all (ts : List Jvm.Cond) (a : Array Jvm.Value) (st : Jvm.State) : (allAtoms ts).before a st = ts.all (fun c => c.before a st) := by
  induction ts with
  | nil => rfl
  | cons c t ih =>
    show (Jvm.Cond.and c (allAtoms t)).before a st = _
    rw [Jvm.Cond.before_and, ih, List.all_cons]
def words1 : List Jvm.Cond := Jvm.Cond.code x code maxLocals ret :: tables_1
/-- a 'code' word, met by the world's own term for the bytes: nothing is compared byte by byte -/
theorem code_word {y : MethodName} {bytes : ByteArray} {mx : Nat} {rt : Option FieldType} {a : Array Value} {s : State} {m : MethodId} {meth : Method} {c : Code} (h1 : s.methodNamed? y = some m) (h2 : s.vm.method? m = some meth) (h3 : meth.code = some c) (h4 : c.code = bytes)
    (h5 : (c.maxLocals == mx && c.exceptionTable.isEmpty && decide (c.maxStack ≤ mostOperands) && decide (meth.sig.returnType = rt) && !meth.locks && decide (parseMethodDescriptor y.desc = some meth.sig)) = true) : (Jvm.Cond.code y bytes mx rt).before a s = true := by
  simp only [Bool.and_eq_true, beq_iff_eq, Bool.not_eq_true', decide_eq_true_eq] at h5
  obtain ⟨⟨⟨⟨⟨g1, g2⟩, g3⟩, g4⟩, g5⟩, g6⟩ := h5
  simp [Cond.before, Cond.holds, Cond.value, h1, h2, h3, h4, g1, g2, g3, g4, g5, g6]
def isCode : Jvm.Cond → Bool
  | .code _ _ _ _ => true
  | _ => false
theorem all_split {L : List Jvm.Cond} {P : Jvm.Cond → Bool} (h1 : L.all (fun c => isCode c || P c) = true) (h2 : ∀ c ∈ L.filter isCode, P c = true) : L.all P = true := by
  refine List.all_eq_true.mpr fun c hc => ?_
  have h := List.all_eq_true.mp h1 c hc
  rcases Bool.eq_false_or_eq_true (isCode c) with hi | hi
  · exact h2 c (List.mem_filter.mpr ⟨hc, hi⟩)
  · simpa [hi] using h
set_option maxRecDepth 65536 in
theorem w_c0 : (Jvm.Cond.code x code maxLocals ret).before args0 about1 = true := code_word (m := ⟨1, 1⟩) (meth := k1m1) (c := k1c1) (by decide +kernel) rfl rfl rfl (by decide +kernel)
set_option maxRecDepth 65536 in
theorem w_c1 : (Jvm.Cond.code ({ cls := "java/lang/String", name := "<init>", desc := "([C)V" } : Jvm.MethodName) jdk_42_method_3_code (2 : Nat) (Option.none : Option Jvm.ClassFile.FieldType)).before args0 about1 = true := code_word (m := ⟨7, 1⟩) (meth := k7m1) (c := k7c1) (by decide +kernel) rfl rfl rfl (by decide +kernel)
set_option maxRecDepth 65536 in
theorem w_c2 : (Jvm.Cond.code ({ cls := "java/lang/String", name := "<init>", desc := "([CIILjava/lang/Void;)V" } : Jvm.MethodName) jdk_42_method_149_code (6 : Nat) (Option.none : Option Jvm.ClassFile.FieldType)).before args0 about1 = true := code_word (m := ⟨7, 6⟩) (meth := k7m6) (c := k7c6) (by decide +kernel) rfl rfl rfl (by decide +kernel)
set_option maxRecDepth 65536 in
theorem w_c3 : (Jvm.Cond.code ({ cls := "java/lang/Object", name := "<init>", desc := "()V" } : Jvm.MethodName) object_method_1_code (1 : Nat) (Option.none : Option Jvm.ClassFile.FieldType)).before args0 about1 = true := code_word (m := ⟨0, 0⟩) (meth := k0m0) (c := k0c0) (by decide +kernel) rfl rfl rfl (by decide +kernel)
set_option maxRecDepth 65536 in
theorem w_c4 : (Jvm.Cond.code ({ cls := "com/example/levy/levy/store/StoreException", name := "unknown", desc := "(Ljava/lang/String;Ljava/lang/String;)Lcom/example/levy/levy/store/StoreException;" } : Jvm.MethodName) prog_37_method_3_code (2 : Nat) (Option.some (Jvm.ClassFile.FieldType.object "com/example/levy/levy/store/StoreException"))).before args0 about1 = true := code_word (m := ⟨11, 1⟩) (meth := k11m1) (c := k11c1) (by decide +kernel) rfl rfl rfl (by decide +kernel)
set_option maxRecDepth 65536 in
theorem w_c5 : (Jvm.Cond.code ({ cls := "java/lang/StringBuilder", name := "<init>", desc := "()V" } : Jvm.MethodName) jdk_67_method_1_code (1 : Nat) (Option.none : Option Jvm.ClassFile.FieldType)).before args0 about1 = true := code_word (m := ⟨14, 0⟩) (meth := k14m0) (c := k14c0) (by decide +kernel) rfl rfl rfl (by decide +kernel)
set_option maxRecDepth 65536 in
theorem w_c6 : (Jvm.Cond.code ({ cls := "java/lang/AbstractStringBuilder", name := "<init>", desc := "(I)V" } : Jvm.MethodName) jdk_68_method_2_code (2 : Nat) (Option.none : Option Jvm.ClassFile.FieldType)).before args0 about1 = true := code_word (m := ⟨13, 1⟩) (meth := k13m1) (c := k13c1) (by decide +kernel) rfl rfl rfl (by decide +kernel)
set_option maxRecDepth 65536 in
theorem w_c7 : (Jvm.Cond.code ({ cls := "java/lang/StringBuilder", name := "append", desc := "(Ljava/lang/String;)Ljava/lang/StringBuilder;" } : Jvm.MethodName) jdk_67_method_7_code (2 : Nat) (Option.some (Jvm.ClassFile.FieldType.object "java/lang/StringBuilder"))).before args0 about1 = true := code_word (m := ⟨14, 1⟩) (meth := k14m1) (c := k14c1) (by decide +kernel) rfl rfl rfl (by decide +kernel)
set_option maxRecDepth 65536 in
theorem w_c8 : (Jvm.Cond.code ({ cls := "java/lang/AbstractStringBuilder", name := "append", desc := "(Ljava/lang/String;)Ljava/lang/AbstractStringBuilder;" } : Jvm.MethodName) jdk_68_method_22_code (3 : Nat) (Option.some (Jvm.ClassFile.FieldType.object "java/lang/AbstractStringBuilder"))).before args0 about1 = true := code_word (m := ⟨13, 6⟩) (meth := k13m6) (c := k13c6) (by decide +kernel) rfl rfl rfl (by decide +kernel)
set_option maxRecDepth 65536 in
theorem w_c9 : (Jvm.Cond.code ({ cls := "java/lang/String", name := "length", desc := "()I" } : Jvm.MethodName) jdk_42_method_54_code (1 : Nat) (Option.some Jvm.ClassFile.FieldType.int)).before args0 about1 = true := code_word (m := ⟨7, 3⟩) (meth := k7m3) (c := k7c3) (by decide +kernel) rfl rfl rfl (by decide +kernel)
set_option maxRecDepth 65536 in
theorem w_c10 : (Jvm.Cond.code ({ cls := "java/lang/String", name := "coder", desc := "()B" } : Jvm.MethodName) jdk_42_method_152_code (1 : Nat) (Option.some Jvm.ClassFile.FieldType.byte)).before args0 about1 = true := code_word (m := ⟨7, 8⟩) (meth := k7m8) (c := k7c8) (by decide +kernel) rfl rfl rfl (by decide +kernel)
set_option maxRecDepth 65536 in
theorem w_c11 : (Jvm.Cond.code ({ cls := "java/lang/AbstractStringBuilder", name := "ensureCapacityInternal", desc := "(I)V" } : Jvm.MethodName) jdk_68_method_9_code (3 : Nat) (Option.none : Option Jvm.ClassFile.FieldType)).before args0 about1 = true := code_word (m := ⟨13, 3⟩) (meth := k13m3) (c := k13c3) (by decide +kernel) rfl rfl rfl (by decide +kernel)
set_option maxRecDepth 65536 in
theorem w_c12 : (Jvm.Cond.code ({ cls := "java/lang/AbstractStringBuilder", name := "newCapacity", desc := "(I)I" } : Jvm.MethodName) jdk_68_method_10_code (6 : Nat) (Option.some Jvm.ClassFile.FieldType.int)).before args0 about1 = true := code_word (m := ⟨13, 4⟩) (meth := k13m4) (c := k13c4) (by decide +kernel) rfl rfl rfl (by decide +kernel)
set_option maxRecDepth 65536 in
theorem w_c13 : (Jvm.Cond.code ({ cls := "jdk/internal/util/ArraysSupport", name := "newLength", desc := "(III)I" } : Jvm.MethodName) jdk_48_method_27_code (4 : Nat) (Option.some Jvm.ClassFile.FieldType.int)).before args0 about1 = true := code_word (m := ⟨15, 1⟩) (meth := k15m1) (c := k15c1) (by decide +kernel) rfl rfl rfl (by decide +kernel)
set_option maxRecDepth 65536 in
theorem w_c14 : (Jvm.Cond.code ({ cls := "java/lang/Math", name := "max", desc := "(II)I" } : Jvm.MethodName) jdk_29_method_65_code (2 : Nat) (Option.some Jvm.ClassFile.FieldType.int)).before args0 about1 = true := code_word (m := ⟨16, 1⟩) (meth := k16m1) (c := k16c1) (by decide +kernel) rfl rfl rfl (by decide +kernel)
set_option maxRecDepth 65536 in
theorem w_c15 : (Jvm.Cond.code ({ cls := "java/util/Arrays", name := "copyOf", desc := "([BI)[B" } : Jvm.MethodName) jdk_65_method_121_code (3 : Nat) (Option.some (Jvm.ClassFile.FieldType.array Jvm.ClassFile.FieldType.byte))).before args0 about1 = true := code_word (m := ⟨17, 1⟩) (meth := k17m1) (c := k17c1) (by decide +kernel) rfl rfl rfl (by decide +kernel)
set_option maxRecDepth 65536 in
theorem w_c16 : (Jvm.Cond.code ({ cls := "java/lang/Math", name := "min", desc := "(II)I" } : Jvm.MethodName) jdk_29_method_69_code (2 : Nat) (Option.some Jvm.ClassFile.FieldType.int)).before args0 about1 = true := code_word (m := ⟨16, 2⟩) (meth := k16m2) (c := k16c2) (by decide +kernel) rfl rfl rfl (by decide +kernel)
set_option maxRecDepth 65536 in
theorem w_c17 : (Jvm.Cond.code ({ cls := "java/lang/AbstractStringBuilder", name := "putStringAt", desc := "(ILjava/lang/String;)V" } : Jvm.MethodName) jdk_68_method_73_code (3 : Nat) (Option.none : Option Jvm.ClassFile.FieldType)).before args0 about1 = true := code_word (m := ⟨13, 10⟩) (meth := k13m10) (c := k13c10) (by decide +kernel) rfl rfl rfl (by decide +kernel)
set_option maxRecDepth 65536 in
theorem w_c18 : (Jvm.Cond.code ({ cls := "java/lang/AbstractStringBuilder", name := "inflateIfNeededFor", desc := "(Ljava/lang/String;)V" } : Jvm.MethodName) jdk_68_method_71_code (2 : Nat) (Option.none : Option Jvm.ClassFile.FieldType)).before args0 about1 = true := code_word (m := ⟨13, 9⟩) (meth := k13m9) (c := k13c9) (by decide +kernel) rfl rfl rfl (by decide +kernel)
set_option maxRecDepth 65536 in
theorem w_c19 : (Jvm.Cond.code ({ cls := "java/lang/String", name := "getBytes", desc := "([BIB)V" } : Jvm.MethodName) jdk_42_method_147_code (4 : Nat) (Option.none : Option Jvm.ClassFile.FieldType)).before args0 about1 = true := code_word (m := ⟨7, 5⟩) (meth := k7m5) (c := k7c5) (by decide +kernel) rfl rfl rfl (by decide +kernel)
set_option maxRecDepth 65536 in
theorem w_c20 : (Jvm.Cond.code ({ cls := "java/lang/StringBuilder", name := "toString", desc := "()Ljava/lang/String;" } : Jvm.MethodName) jdk_67_method_42_code (1 : Nat) (Option.some (Jvm.ClassFile.FieldType.object "java/lang/String"))).before args0 about1 = true := code_word (m := ⟨14, 2⟩) (meth := k14m2) (c := k14c2) (by decide +kernel) rfl rfl rfl (by decide +kernel)
set_option maxRecDepth 65536 in
theorem w_c21 : (Jvm.Cond.code ({ cls := "java/lang/String", name := "<init>", desc := "(Ljava/lang/StringBuilder;)V" } : Jvm.MethodName) jdk_42_method_53_code (2 : Nat) (Option.none : Option Jvm.ClassFile.FieldType)).before args0 about1 = true := code_word (m := ⟨7, 2⟩) (meth := k7m2) (c := k7c2) (by decide +kernel) rfl rfl rfl (by decide +kernel)
set_option maxRecDepth 65536 in
theorem w_c22 : (Jvm.Cond.code ({ cls := "java/lang/String", name := "<init>", desc := "(Ljava/lang/AbstractStringBuilder;Ljava/lang/Void;)V" } : Jvm.MethodName) jdk_42_method_150_code (5 : Nat) (Option.none : Option Jvm.ClassFile.FieldType)).before args0 about1 = true := code_word (m := ⟨7, 7⟩) (meth := k7m7) (c := k7c7) (by decide +kernel) rfl rfl rfl (by decide +kernel)
set_option maxRecDepth 65536 in
theorem w_c23 : (Jvm.Cond.code ({ cls := "java/lang/AbstractStringBuilder", name := "getValue", desc := "()[B" } : Jvm.MethodName) jdk_68_method_64_code (1 : Nat) (Option.some (Jvm.ClassFile.FieldType.array Jvm.ClassFile.FieldType.byte))).before args0 about1 = true := code_word (m := ⟨13, 7⟩) (meth := k13m7) (c := k13c7) (by decide +kernel) rfl rfl rfl (by decide +kernel)
set_option maxRecDepth 65536 in
theorem w_c24 : (Jvm.Cond.code ({ cls := "java/lang/StringBuilder", name := "length", desc := "()I" } : Jvm.MethodName) jdk_67_method_93_code (1 : Nat) (Option.some Jvm.ClassFile.FieldType.int)).before args0 about1 = true := code_word (m := ⟨14, 3⟩) (meth := k14m3) (c := k14c3) (by decide +kernel) rfl rfl rfl (by decide +kernel)
set_option maxRecDepth 65536 in
theorem w_c25 : (Jvm.Cond.code ({ cls := "java/lang/AbstractStringBuilder", name := "length", desc := "()I" } : Jvm.MethodName) jdk_68_method_6_code (1 : Nat) (Option.some Jvm.ClassFile.FieldType.int)).before args0 about1 = true := code_word (m := ⟨13, 2⟩) (meth := k13m2) (c := k13c2) (by decide +kernel) rfl rfl rfl (by decide +kernel)
set_option maxRecDepth 65536 in
theorem w_c26 : (Jvm.Cond.code ({ cls := "java/lang/AbstractStringBuilder", name := "isLatin1", desc := "()Z" } : Jvm.MethodName) jdk_68_method_68_code (1 : Nat) (Option.some Jvm.ClassFile.FieldType.boolean)).before args0 about1 = true := code_word (m := ⟨13, 8⟩) (meth := k13m8) (c := k13c8) (by decide +kernel) rfl rfl rfl (by decide +kernel)
set_option maxRecDepth 65536 in
theorem w_c27 : (Jvm.Cond.code ({ cls := "java/util/Arrays", name := "copyOfRange", desc := "([BII)[B" } : Jvm.MethodName) jdk_65_method_132_code (3 : Nat) (Option.some (Jvm.ClassFile.FieldType.array Jvm.ClassFile.FieldType.byte))).before args0 about1 = true := code_word (m := ⟨17, 3⟩) (meth := k17m3) (c := k17c3) (by decide +kernel) rfl rfl rfl (by decide +kernel)
set_option maxRecDepth 65536 in
theorem w_c28 : (Jvm.Cond.code ({ cls := "java/util/Arrays", name := "copyOfRangeByte", desc := "([BII)[B" } : Jvm.MethodName) jdk_65_method_133_code (5 : Nat) (Option.some (Jvm.ClassFile.FieldType.array Jvm.ClassFile.FieldType.byte))).before args0 about1 = true := code_word (m := ⟨17, 4⟩) (meth := k17m4) (c := k17c4) (by decide +kernel) rfl rfl rfl (by decide +kernel)
set_option maxRecDepth 65536 in
theorem w_c29 : (Jvm.Cond.code ({ cls := "java/util/Arrays", name := "checkLength", desc := "(II)V" } : Jvm.MethodName) jdk_65_method_131_code (2 : Nat) (Option.none : Option Jvm.ClassFile.FieldType)).before args0 about1 = true := code_word (m := ⟨17, 2⟩) (meth := k17m2) (c := k17c2) (by decide +kernel) rfl rfl rfl (by decide +kernel)
set_option maxRecDepth 65536 in
theorem w_c30 : (Jvm.Cond.code ({ cls := "com/example/levy/levy/store/StoreException", name := "<init>", desc := "(Ljava/lang/String;)V" } : Jvm.MethodName) prog_37_method_2_code (2 : Nat) (Option.none : Option Jvm.ClassFile.FieldType)).before args0 about1 = true := code_word (m := ⟨11, 0⟩) (meth := k11m0) (c := k11c0) (by decide +kernel) rfl rfl rfl (by decide +kernel)
set_option maxRecDepth 65536 in
theorem w_c31 : (Jvm.Cond.code ({ cls := "java/lang/RuntimeException", name := "<init>", desc := "(Ljava/lang/String;)V" } : Jvm.MethodName) jdk_58_method_2_code (2 : Nat) (Option.none : Option Jvm.ClassFile.FieldType)).before args0 about1 = true := code_word (m := ⟨10, 1⟩) (meth := k10m1) (c := k10c1) (by decide +kernel) rfl rfl rfl (by decide +kernel)
set_option maxRecDepth 65536 in
theorem w_c32 : (Jvm.Cond.code ({ cls := "java/lang/Exception", name := "<init>", desc := "(Ljava/lang/String;)V" } : Jvm.MethodName) jdk_59_method_2_code (2 : Nat) (Option.none : Option Jvm.ClassFile.FieldType)).before args0 about1 = true := code_word (m := ⟨9, 1⟩) (meth := k9m1) (c := k9c1) (by decide +kernel) rfl rfl rfl (by decide +kernel)
set_option maxRecDepth 65536 in
theorem w_c33 : (Jvm.Cond.code ({ cls := "java/lang/Throwable", name := "<init>", desc := "(Ljava/lang/String;)V" } : Jvm.MethodName) jdk_78_method_2_code (2 : Nat) (Option.none : Option Jvm.ClassFile.FieldType)).before args0 about1 = true := code_word (m := ⟨8, 1⟩) (meth := k8m1) (c := k8c1) (by decide +kernel) rfl rfl rfl (by decide +kernel)
set_option maxRecDepth 65536 in
theorem w_c34 : (Jvm.Cond.code ({ cls := "java/lang/Throwable", name := "<init>", desc := "()V" } : Jvm.MethodName) jdk_78_method_1_code (1 : Nat) (Option.none : Option Jvm.ClassFile.FieldType)).before args0 about1 = true := code_word (m := ⟨8, 0⟩) (meth := k8m0) (c := k8c0) (by decide +kernel) rfl rfl rfl (by decide +kernel)
set_option maxRecDepth 65536 in
theorem w_c35 : (Jvm.Cond.code ({ cls := "java/lang/Throwable", name := "getMessage", desc := "()Ljava/lang/String;" } : Jvm.MethodName) jdk_78_method_6_code (1 : Nat) (Option.some (Jvm.ClassFile.FieldType.object "java/lang/String"))).before args0 about1 = true := code_word (m := ⟨8, 2⟩) (meth := k8m2) (c := k8c2) (by decide +kernel) rfl rfl rfl (by decide +kernel)
set_option maxRecDepth 65536 in
theorem w_c36 : (Jvm.Cond.code ({ cls := "com/example/levy/levy/store/StoreExceptionUnknownPinLaw", name := "expected", desc := "(ZZCCCC)Ljava/lang/String;" } : Jvm.MethodName) method_3_code (6 : Nat) (Option.some (Jvm.ClassFile.FieldType.object "java/lang/String"))).before args0 about1 = true := code_word (m := ⟨1, 2⟩) (meth := k1m2) (c := k1c2) (by decide +kernel) rfl rfl rfl (by decide +kernel)
set_option maxRecDepth 65536 in
theorem w_c37 : (Jvm.Cond.code ({ cls := "java/lang/String", name := "equals", desc := "(Ljava/lang/Object;)Z" } : Jvm.MethodName) jdk_42_method_66_code (3 : Nat) (Option.some Jvm.ClassFile.FieldType.boolean)).before args0 about1 = true := code_word (m := ⟨7, 4⟩) (meth := k7m4) (c := k7c4) (by decide +kernel) rfl rfl rfl (by decide +kernel)
set_option maxRecDepth 65536 in
theorem w_c38 : (Jvm.Cond.code ({ cls := "java/lang/StringLatin1", name := "equals", desc := "([B[B)Z" } : Jvm.MethodName) jdk_43_method_13_code (3 : Nat) (Option.some Jvm.ClassFile.FieldType.boolean)).before args0 about1 = true := code_word (m := ⟨19, 1⟩) (meth := k19m1) (c := k19c1) (by decide +kernel) rfl rfl rfl (by decide +kernel)
set_option maxRecDepth 65536 in
theorem w_c39 : (Jvm.Cond.code ({ cls := "java/lang/StringUTF16", name := "compress", desc := "([CII)[B" } : Jvm.MethodName) jdk_52_method_16_code (6 : Nat) (Option.some (Jvm.ClassFile.FieldType.array Jvm.ClassFile.FieldType.byte))).before args0 about1 = true := code_word (m := ⟨20, 8⟩) (meth := k20m8) (c := k20c8) (by decide +kernel) rfl rfl rfl (by decide +kernel)
set_option maxRecDepth 65536 in
theorem w_c40 : (Jvm.Cond.code ({ cls := "java/lang/StringUTF16", name := "compress", desc := "([CI[BII)I" } : Jvm.MethodName) jdk_52_method_21_code (7 : Nat) (Option.some Jvm.ClassFile.FieldType.int)).before args0 about1 = true := code_word (m := ⟨20, 9⟩) (meth := k20m9) (c := k20c9) (by decide +kernel) rfl rfl rfl (by decide +kernel)
set_option maxRecDepth 65536 in
theorem w_c41 : (Jvm.Cond.code ({ cls := "java/lang/StringUTF16", name := "coderFromArrayLen", desc := "([BI)B" } : Jvm.MethodName) jdk_52_method_15_code (2 : Nat) (Option.some Jvm.ClassFile.FieldType.byte)).before args0 about1 = true := code_word (m := ⟨20, 7⟩) (meth := k20m7) (c := k20c7) (by decide +kernel) rfl rfl rfl (by decide +kernel)
set_option maxRecDepth 65536 in
theorem w_c42 : (Jvm.Cond.code ({ cls := "java/lang/StringUTF16", name := "toBytes", desc := "([CII)[B" } : Jvm.MethodName) jdk_52_method_14_code (5 : Nat) (Option.some (Jvm.ClassFile.FieldType.array Jvm.ClassFile.FieldType.byte))).before args0 about1 = true := code_word (m := ⟨20, 6⟩) (meth := k20m6) (c := k20c6) (by decide +kernel) rfl rfl rfl (by decide +kernel)
set_option maxRecDepth 65536 in
theorem w_c43 : (Jvm.Cond.code ({ cls := "java/lang/StringUTF16", name := "newBytesFor", desc := "(I)[B" } : Jvm.MethodName) jdk_52_method_2_code (1 : Nat) (Option.some (Jvm.ClassFile.FieldType.array Jvm.ClassFile.FieldType.byte))).before args0 about1 = true := code_word (m := ⟨20, 1⟩) (meth := k20m1) (c := k20c1) (by decide +kernel) rfl rfl rfl (by decide +kernel)
set_option maxRecDepth 65536 in
theorem w_c44 : (Jvm.Cond.code ({ cls := "java/lang/StringUTF16", name := "newBytesLength", desc := "(I)I" } : Jvm.MethodName) jdk_52_method_3_code (1 : Nat) (Option.some Jvm.ClassFile.FieldType.int)).before args0 about1 = true := code_word (m := ⟨20, 2⟩) (meth := k20m2) (c := k20c2) (by decide +kernel) rfl rfl rfl (by decide +kernel)
set_option maxRecDepth 65536 in
theorem w_c45 : (Jvm.Cond.code ({ cls := "java/lang/StringUTF16", name := "putChar", desc := "([BII)V" } : Jvm.MethodName) jdk_52_method_4_code (3 : Nat) (Option.none : Option Jvm.ClassFile.FieldType)).before args0 about1 = true := code_word (m := ⟨20, 3⟩) (meth := k20m3) (c := k20c3) (by decide +kernel) rfl rfl rfl (by decide +kernel)
set_option maxRecDepth 65536 in
theorem w_c46 : (Jvm.Cond.code ({ cls := "java/lang/StringUTF16", name := "getChar", desc := "([BI)C" } : Jvm.MethodName) jdk_52_method_5_code (2 : Nat) (Option.some Jvm.ClassFile.FieldType.char)).before args0 about1 = true := code_word (m := ⟨20, 4⟩) (meth := k20m4) (c := k20c4) (by decide +kernel) rfl rfl rfl (by decide +kernel)
set_option maxRecDepth 65536 in
theorem w_c47 : (Jvm.Cond.code ({ cls := "java/lang/AbstractStringBuilder", name := "inflate", desc := "()V" } : Jvm.MethodName) jdk_68_method_11_code (2 : Nat) (Option.none : Option Jvm.ClassFile.FieldType)).before args0 about1 = true := code_word (m := ⟨13, 5⟩) (meth := k13m5) (c := k13c5) (by decide +kernel) rfl rfl rfl (by decide +kernel)
set_option maxRecDepth 65536 in
theorem w_c48 : (Jvm.Cond.code ({ cls := "java/lang/StringLatin1", name := "inflate", desc := "([BI[BII)V" } : Jvm.MethodName) jdk_43_method_50_code (5 : Nat) (Option.none : Option Jvm.ClassFile.FieldType)).before args0 about1 = true := code_word (m := ⟨19, 2⟩) (meth := k19m2) (c := k19c2) (by decide +kernel) rfl rfl rfl (by decide +kernel)
set_option maxRecDepth 65536 in
theorem w_c49 : (Jvm.Cond.code ({ cls := "java/lang/StringUTF16", name := "inflate", desc := "([BI[BII)V" } : Jvm.MethodName) jdk_52_method_86_code (6 : Nat) (Option.none : Option Jvm.ClassFile.FieldType)).before args0 about1 = true := code_word (m := ⟨20, 10⟩) (meth := k20m10) (c := k20c10) (by decide +kernel) rfl rfl rfl (by decide +kernel)
set_option maxRecDepth 65536 in
theorem w_c50 : (Jvm.Cond.code ({ cls := "java/lang/StringUTF16", name := "checkBoundsOffCount", desc := "(II[B)V" } : Jvm.MethodName) jdk_52_method_94_code (3 : Nat) (Option.none : Option Jvm.ClassFile.FieldType)).before args0 about1 = true := code_word (m := ⟨20, 11⟩) (meth := k20m11) (c := k20c11) (by decide +kernel) rfl rfl rfl (by decide +kernel)
set_option maxRecDepth 65536 in
theorem w_c51 : (Jvm.Cond.code ({ cls := "java/lang/StringUTF16", name := "length", desc := "([B)I" } : Jvm.MethodName) jdk_52_method_6_code (1 : Nat) (Option.some Jvm.ClassFile.FieldType.int)).before args0 about1 = true := code_word (m := ⟨20, 5⟩) (meth := k20m5) (c := k20c5) (by decide +kernel) rfl rfl rfl (by decide +kernel)
set_option maxRecDepth 65536 in
theorem w_c52 : (Jvm.Cond.code ({ cls := "java/lang/String", name := "checkBoundsOffCount", desc := "(III)I" } : Jvm.MethodName) jdk_42_method_157_code (3 : Nat) (Option.some Jvm.ClassFile.FieldType.int)).before args0 about1 = true := code_word (m := ⟨7, 9⟩) (meth := k7m9) (c := k7c9) (by decide +kernel) rfl rfl rfl (by decide +kernel)
set_option maxRecDepth 65536 in
theorem w_c53 : (Jvm.Cond.code ({ cls := "jdk/internal/util/Preconditions", name := "checkFromIndexSize", desc := "(IIILjava/util/function/BiFunction;)I" } : Jvm.MethodName) jdk_41_method_13_code (4 : Nat) (Option.some Jvm.ClassFile.FieldType.int)).before args0 about1 = true := code_word (m := ⟨21, 1⟩) (meth := k21m1) (c := k21c1) (by decide +kernel) rfl rfl rfl (by decide +kernel)
def codes1 : List Jvm.Cond := [Jvm.Cond.code x code maxLocals ret, Jvm.Cond.code ({ cls := "java/lang/String", name := "<init>", desc := "([C)V" } : Jvm.MethodName) jdk_42_method_3_code (2 : Nat) (Option.none : Option Jvm.ClassFile.FieldType), Jvm.Cond.code ({ cls := "java/lang/String", name := "<init>", desc := "([CIILjava/lang/Void;)V" } : Jvm.MethodName) jdk_42_method_149_code (6 : Nat) (Option.none : Option Jvm.ClassFile.FieldType), Jvm.Cond.code ({ cls := "java/lang/Object", name := "<init>", desc := "()V" } : Jvm.MethodName) object_method_1_code (1 : Nat) (Option.none : Option Jvm.ClassFile.FieldType), Jvm.Cond.code ({ cls := "com/example/levy/levy/store/StoreException", name := "unknown", desc := "(Ljava/lang/String;Ljava/lang/String;)Lcom/example/levy/levy/store/StoreException;" } : Jvm.MethodName) prog_37_method_3_code (2 : Nat) (Option.some (Jvm.ClassFile.FieldType.object "com/example/levy/levy/store/StoreException")), Jvm.Cond.code ({ cls := "java/lang/StringBuilder", name := "<init>", desc := "()V" } : Jvm.MethodName) jdk_67_method_1_code (1 : Nat) (Option.none : Option Jvm.ClassFile.FieldType), Jvm.Cond.code ({ cls := "java/lang/AbstractStringBuilder", name := "<init>", desc := "(I)V" } : Jvm.MethodName) jdk_68_method_2_code (2 : Nat) (Option.none : Option Jvm.ClassFile.FieldType), Jvm.Cond.code ({ cls := "java/lang/StringBuilder", name := "append", desc := "(Ljava/lang/String;)Ljava/lang/StringBuilder;" } : Jvm.MethodName) jdk_67_method_7_code (2 : Nat) (Option.some (Jvm.ClassFile.FieldType.object "java/lang/StringBuilder")), Jvm.Cond.code ({ cls := "java/lang/AbstractStringBuilder", name := "append", desc := "(Ljava/lang/String;)Ljava/lang/AbstractStringBuilder;" } : Jvm.MethodName) jdk_68_method_22_code (3 : Nat) (Option.some (Jvm.ClassFile.FieldType.object "java/lang/AbstractStringBuilder")), Jvm.Cond.code ({ cls := "java/lang/String", name := "length", desc := "()I" } : Jvm.MethodName) jdk_42_method_54_code (1 : Nat) (Option.some Jvm.ClassFile.FieldType.int), Jvm.Cond.code ({ cls := "java/lang/String", name := "coder", desc := "()B" } : Jvm.MethodName) jdk_42_method_152_code (1 : Nat) (Option.some Jvm.ClassFile.FieldType.byte), Jvm.Cond.code ({ cls := "java/lang/AbstractStringBuilder", name := "ensureCapacityInternal", desc := "(I)V" } : Jvm.MethodName) jdk_68_method_9_code (3 : Nat) (Option.none : Option Jvm.ClassFile.FieldType), Jvm.Cond.code ({ cls := "java/lang/AbstractStringBuilder", name := "newCapacity", desc := "(I)I" } : Jvm.MethodName) jdk_68_method_10_code (6 : Nat) (Option.some Jvm.ClassFile.FieldType.int), Jvm.Cond.code ({ cls := "jdk/internal/util/ArraysSupport", name := "newLength", desc := "(III)I" } : Jvm.MethodName) jdk_48_method_27_code (4 : Nat) (Option.some Jvm.ClassFile.FieldType.int), Jvm.Cond.code ({ cls := "java/lang/Math", name := "max", desc := "(II)I" } : Jvm.MethodName) jdk_29_method_65_code (2 : Nat) (Option.some Jvm.ClassFile.FieldType.int), Jvm.Cond.code ({ cls := "java/util/Arrays", name := "copyOf", desc := "([BI)[B" } : Jvm.MethodName) jdk_65_method_121_code (3 : Nat) (Option.some (Jvm.ClassFile.FieldType.array Jvm.ClassFile.FieldType.byte)), Jvm.Cond.code ({ cls := "java/lang/Math", name := "min", desc := "(II)I" } : Jvm.MethodName) jdk_29_method_69_code (2 : Nat) (Option.some Jvm.ClassFile.FieldType.int), Jvm.Cond.code ({ cls := "java/lang/AbstractStringBuilder", name := "putStringAt", desc := "(ILjava/lang/String;)V" } : Jvm.MethodName) jdk_68_method_73_code (3 : Nat) (Option.none : Option Jvm.ClassFile.FieldType), Jvm.Cond.code ({ cls := "java/lang/AbstractStringBuilder", name := "inflateIfNeededFor", desc := "(Ljava/lang/String;)V" } : Jvm.MethodName) jdk_68_method_71_code (2 : Nat) (Option.none : Option Jvm.ClassFile.FieldType), Jvm.Cond.code ({ cls := "java/lang/String", name := "getBytes", desc := "([BIB)V" } : Jvm.MethodName) jdk_42_method_147_code (4 : Nat) (Option.none : Option Jvm.ClassFile.FieldType), Jvm.Cond.code ({ cls := "java/lang/StringBuilder", name := "toString", desc := "()Ljava/lang/String;" } : Jvm.MethodName) jdk_67_method_42_code (1 : Nat) (Option.some (Jvm.ClassFile.FieldType.object "java/lang/String")), Jvm.Cond.code ({ cls := "java/lang/String", name := "<init>", desc := "(Ljava/lang/StringBuilder;)V" } : Jvm.MethodName) jdk_42_method_53_code (2 : Nat) (Option.none : Option Jvm.ClassFile.FieldType), Jvm.Cond.code ({ cls := "java/lang/String", name := "<init>", desc := "(Ljava/lang/AbstractStringBuilder;Ljava/lang/Void;)V" } : Jvm.MethodName) jdk_42_method_150_code (5 : Nat) (Option.none : Option Jvm.ClassFile.FieldType), Jvm.Cond.code ({ cls := "java/lang/AbstractStringBuilder", name := "getValue", desc := "()[B" } : Jvm.MethodName) jdk_68_method_64_code (1 : Nat) (Option.some (Jvm.ClassFile.FieldType.array Jvm.ClassFile.FieldType.byte)), Jvm.Cond.code ({ cls := "java/lang/StringBuilder", name := "length", desc := "()I" } : Jvm.MethodName) jdk_67_method_93_code (1 : Nat) (Option.some Jvm.ClassFile.FieldType.int), Jvm.Cond.code ({ cls := "java/lang/AbstractStringBuilder", name := "length", desc := "()I" } : Jvm.MethodName) jdk_68_method_6_code (1 : Nat) (Option.some Jvm.ClassFile.FieldType.int), Jvm.Cond.code ({ cls := "java/lang/AbstractStringBuilder", name := "isLatin1", desc := "()Z" } : Jvm.MethodName) jdk_68_method_68_code (1 : Nat) (Option.some Jvm.ClassFile.FieldType.boolean), Jvm.Cond.code ({ cls := "java/util/Arrays", name := "copyOfRange", desc := "([BII)[B" } : Jvm.MethodName) jdk_65_method_132_code (3 : Nat) (Option.some (Jvm.ClassFile.FieldType.array Jvm.ClassFile.FieldType.byte)), Jvm.Cond.code ({ cls := "java/util/Arrays", name := "copyOfRangeByte", desc := "([BII)[B" } : Jvm.MethodName) jdk_65_method_133_code (5 : Nat) (Option.some (Jvm.ClassFile.FieldType.array Jvm.ClassFile.FieldType.byte)), Jvm.Cond.code ({ cls := "java/util/Arrays", name := "checkLength", desc := "(II)V" } : Jvm.MethodName) jdk_65_method_131_code (2 : Nat) (Option.none : Option Jvm.ClassFile.FieldType), Jvm.Cond.code ({ cls := "com/example/levy/levy/store/StoreException", name := "<init>", desc := "(Ljava/lang/String;)V" } : Jvm.MethodName) prog_37_method_2_code (2 : Nat) (Option.none : Option Jvm.ClassFile.FieldType), Jvm.Cond.code ({ cls := "java/lang/RuntimeException", name := "<init>", desc := "(Ljava/lang/String;)V" } : Jvm.MethodName) jdk_58_method_2_code (2 : Nat) (Option.none : Option Jvm.ClassFile.FieldType), Jvm.Cond.code ({ cls := "java/lang/Exception", name := "<init>", desc := "(Ljava/lang/String;)V" } : Jvm.MethodName) jdk_59_method_2_code (2 : Nat) (Option.none : Option Jvm.ClassFile.FieldType), Jvm.Cond.code ({ cls := "java/lang/Throwable", name := "<init>", desc := "(Ljava/lang/String;)V" } : Jvm.MethodName) jdk_78_method_2_code (2 : Nat) (Option.none : Option Jvm.ClassFile.FieldType), Jvm.Cond.code ({ cls := "java/lang/Throwable", name := "<init>", desc := "()V" } : Jvm.MethodName) jdk_78_method_1_code (1 : Nat) (Option.none : Option Jvm.ClassFile.FieldType), Jvm.Cond.code ({ cls := "java/lang/Throwable", name := "getMessage", desc := "()Ljava/lang/String;" } : Jvm.MethodName) jdk_78_method_6_code (1 : Nat) (Option.some (Jvm.ClassFile.FieldType.object "java/lang/String")), Jvm.Cond.code ({ cls := "com/example/levy/levy/store/StoreExceptionUnknownPinLaw", name := "expected", desc := "(ZZCCCC)Ljava/lang/String;" } : Jvm.MethodName) method_3_code (6 : Nat) (Option.some (Jvm.ClassFile.FieldType.object "java/lang/String")), Jvm.Cond.code ({ cls := "java/lang/String", name := "equals", desc := "(Ljava/lang/Object;)Z" } : Jvm.MethodName) jdk_42_method_66_code (3 : Nat) (Option.some Jvm.ClassFile.FieldType.boolean), Jvm.Cond.code ({ cls := "java/lang/StringLatin1", name := "equals", desc := "([B[B)Z" } : Jvm.MethodName) jdk_43_method_13_code (3 : Nat) (Option.some Jvm.ClassFile.FieldType.boolean), Jvm.Cond.code ({ cls := "java/lang/StringUTF16", name := "compress", desc := "([CII)[B" } : Jvm.MethodName) jdk_52_method_16_code (6 : Nat) (Option.some (Jvm.ClassFile.FieldType.array Jvm.ClassFile.FieldType.byte)), Jvm.Cond.code ({ cls := "java/lang/StringUTF16", name := "compress", desc := "([CI[BII)I" } : Jvm.MethodName) jdk_52_method_21_code (7 : Nat) (Option.some Jvm.ClassFile.FieldType.int), Jvm.Cond.code ({ cls := "java/lang/StringUTF16", name := "coderFromArrayLen", desc := "([BI)B" } : Jvm.MethodName) jdk_52_method_15_code (2 : Nat) (Option.some Jvm.ClassFile.FieldType.byte), Jvm.Cond.code ({ cls := "java/lang/StringUTF16", name := "toBytes", desc := "([CII)[B" } : Jvm.MethodName) jdk_52_method_14_code (5 : Nat) (Option.some (Jvm.ClassFile.FieldType.array Jvm.ClassFile.FieldType.byte)), Jvm.Cond.code ({ cls := "java/lang/StringUTF16", name := "newBytesFor", desc := "(I)[B" } : Jvm.MethodName) jdk_52_method_2_code (1 : Nat) (Option.some (Jvm.ClassFile.FieldType.array Jvm.ClassFile.FieldType.byte)), Jvm.Cond.code ({ cls := "java/lang/StringUTF16", name := "newBytesLength", desc := "(I)I" } : Jvm.MethodName) jdk_52_method_3_code (1 : Nat) (Option.some Jvm.ClassFile.FieldType.int), Jvm.Cond.code ({ cls := "java/lang/StringUTF16", name := "putChar", desc := "([BII)V" } : Jvm.MethodName) jdk_52_method_4_code (3 : Nat) (Option.none : Option Jvm.ClassFile.FieldType), Jvm.Cond.code ({ cls := "java/lang/StringUTF16", name := "getChar", desc := "([BI)C" } : Jvm.MethodName) jdk_52_method_5_code (2 : Nat) (Option.some Jvm.ClassFile.FieldType.char), Jvm.Cond.code ({ cls := "java/lang/AbstractStringBuilder", name := "inflate", desc := "()V" } : Jvm.MethodName) jdk_68_method_11_code (2 : Nat) (Option.none : Option Jvm.ClassFile.FieldType), Jvm.Cond.code ({ cls := "java/lang/StringLatin1", name := "inflate", desc := "([BI[BII)V" } : Jvm.MethodName) jdk_43_method_50_code (5 : Nat) (Option.none : Option Jvm.ClassFile.FieldType), Jvm.Cond.code ({ cls := "java/lang/StringUTF16", name := "inflate", desc := "([BI[BII)V" } : Jvm.MethodName) jdk_52_method_86_code (6 : Nat) (Option.none : Option Jvm.ClassFile.FieldType), Jvm.Cond.code ({ cls := "java/lang/StringUTF16", name := "checkBoundsOffCount", desc := "(II[B)V" } : Jvm.MethodName) jdk_52_method_94_code (3 : Nat) (Option.none : Option Jvm.ClassFile.FieldType), Jvm.Cond.code ({ cls := "java/lang/StringUTF16", name := "length", desc := "([B)I" } : Jvm.MethodName) jdk_52_method_6_code (1 : Nat) (Option.some Jvm.ClassFile.FieldType.int), Jvm.Cond.code ({ cls := "java/lang/String", name := "checkBoundsOffCount", desc := "(III)I" } : Jvm.MethodName) jdk_42_method_157_code (3 : Nat) (Option.some Jvm.ClassFile.FieldType.int), Jvm.Cond.code ({ cls := "jdk/internal/util/Preconditions", name := "checkFromIndexSize", desc := "(IIILjava/util/function/BiFunction;)I" } : Jvm.MethodName) jdk_41_method_13_code (4 : Nat) (Option.some Jvm.ClassFile.FieldType.int)]
set_option maxRecDepth 65536 in
theorem codes_eq : words1.filter isCode = codes1 := rfl
theorem w_codes : ∀ c ∈ words1.filter isCode, c.before args0 about1 = true := by
  rw [codes_eq]
  intro c hc
  simp only [codes1, List.mem_cons, List.not_mem_nil, or_false] at hc
  rcases hc with rfl | rfl | rfl | rfl | rfl | rfl | rfl | rfl | rfl | rfl | rfl | rfl | rfl | rfl | rfl | rfl | rfl | rfl | rfl | rfl | rfl | rfl | rfl | rfl | rfl | rfl | rfl | rfl | rfl | rfl | rfl | rfl | rfl | rfl | rfl | rfl | rfl | rfl | rfl | rfl | rfl | rfl | rfl | rfl | rfl | rfl | rfl | rfl | rfl | rfl | rfl | rfl | rfl | rfl
  · exact w_c0
  · exact w_c1
  · exact w_c2
  · exact w_c3
  · exact w_c4
  · exact w_c5
  · exact w_c6
  · exact w_c7
  · exact w_c8
  · exact w_c9
  · exact w_c10
  · exact w_c11
  · exact w_c12
  · exact w_c13
  · exact w_c14
  · exact w_c15
  · exact w_c16
  · exact w_c17
  · exact w_c18
  · exact w_c19
  · exact w_c20
  · exact w_c21
  · exact w_c22
  · exact w_c23
  · exact w_c24
  · exact w_c25
  · exact w_c26
  · exact w_c27
  · exact w_c28
  · exact w_c29
  · exact w_c30
  · exact w_c31
  · exact w_c32
  · exact w_c33
  · exact w_c34
  · exact w_c35
  · exact w_c36
  · exact w_c37
  · exact w_c38
  · exact w_c39
  · exact w_c40
  · exact w_c41
  · exact w_c42
  · exact w_c43
  · exact w_c44
  · exact w_c45
  · exact w_c46
  · exact w_c47
  · exact w_c48
  · exact w_c49
  · exact w_c50
  · exact w_c51
  · exact w_c52
  · exact w_c53
set_option maxRecDepth 65536 in
theorem w_t1 : (words1.take 24).all (fun c => isCode c || c.before args0 about1) = true := by decide +kernel
set_option maxRecDepth 65536 in
theorem w_t2 : ((words1.drop 24).take 24).all (fun c => isCode c || c.before args0 about1) = true := by decide +kernel
set_option maxRecDepth 65536 in
theorem w_t3 : (((words1.drop 24).drop 24).take 24).all (fun c => isCode c || c.before args0 about1) = true := by decide +kernel
set_option maxRecDepth 65536 in
theorem w_t4 : ((((words1.drop 24).drop 24).drop 24).take 24).all (fun c => isCode c || c.before args0 about1) = true := by decide +kernel
set_option maxRecDepth 65536 in
theorem w_t5 : (((((words1.drop 24).drop 24).drop 24).drop 24).take 24).all (fun c => isCode c || c.before args0 about1) = true := by decide +kernel
set_option maxRecDepth 65536 in
theorem w_t6 : ((((((words1.drop 24).drop 24).drop 24).drop 24).drop 24).take 24).all (fun c => isCode c || c.before args0 about1) = true := by decide +kernel
set_option maxRecDepth 65536 in
theorem w_t7 : (((((((words1.drop 24).drop 24).drop 24).drop 24).drop 24).drop 24).take 24).all (fun c => isCode c || c.before args0 about1) = true := by decide +kernel
set_option maxRecDepth 65536 in
theorem w_t8 : ((((((((words1.drop 24).drop 24).drop 24).drop 24).drop 24).drop 24).drop 24).take 24).all (fun c => isCode c || c.before args0 about1) = true := by decide +kernel
set_option maxRecDepth 65536 in
theorem w_t9 : (((((((((words1.drop 24).drop 24).drop 24).drop 24).drop 24).drop 24).drop 24).drop 24).take 24).all (fun c => isCode c || c.before args0 about1) = true := by decide +kernel
set_option maxRecDepth 65536 in
theorem w_t10 : ((((((((((words1.drop 24).drop 24).drop 24).drop 24).drop 24).drop 24).drop 24).drop 24).drop 24).take 24).all (fun c => isCode c || c.before args0 about1) = true := by decide +kernel
set_option maxRecDepth 65536 in
theorem w_t11 : (((((((((((words1.drop 24).drop 24).drop 24).drop 24).drop 24).drop 24).drop 24).drop 24).drop 24).drop 24).take 24).all (fun c => isCode c || c.before args0 about1) = true := by decide +kernel
set_option maxRecDepth 65536 in
theorem w_t12 : ((((((((((((words1.drop 24).drop 24).drop 24).drop 24).drop 24).drop 24).drop 24).drop 24).drop 24).drop 24).drop 24).take 24).all (fun c => isCode c || c.before args0 about1) = true := by decide +kernel
set_option maxRecDepth 65536 in
theorem w_t13 : ((((((((((((words1.drop 24).drop 24).drop 24).drop 24).drop 24).drop 24).drop 24).drop 24).drop 24).drop 24).drop 24).drop 24).all (fun c => isCode c || c.before args0 about1) = true := by decide +kernel
theorem w_tables : (allAtoms (Jvm.Cond.code x code maxLocals ret :: tables_1)).before args0 about1 = true := by
  rw [allAtoms_all]
  show words1.all (fun c => c.before args0 about1) = true
  refine all_split ?_ w_codes
  rw [← List.take_append_drop 24 words1, List.all_append, w_t1, ← List.take_append_drop 24 (words1.drop 24), List.all_append, w_t2, ← List.take_append_drop 24 ((words1.drop 24).drop 24), List.all_append, w_t3, ← List.take_append_drop 24 (((words1.drop 24).drop 24).drop 24), List.all_append, w_t4, ← List.take_append_drop 24 ((((words1.drop 24).drop 24).drop 24).drop 24), List.all_append, w_t5, ← List.take_append_drop 24 (((((words1.drop 24).drop 24).drop 24).drop 24).drop 24), List.all_append, w_t6, ← List.take_append_drop 24 ((((((words1.drop 24).drop 24).drop 24).drop 24).drop 24).drop 24), List.all_append, w_t7, ← List.take_append_drop 24 (((((((words1.drop 24).drop 24).drop 24).drop 24).drop 24).drop 24).drop 24), List.all_append, w_t8, ← List.take_append_drop 24 ((((((((words1.drop 24).drop 24).drop 24).drop 24).drop 24).drop 24).drop 24).drop 24), List.all_append, w_t9, ← List.take_append_drop 24 (((((((((words1.drop 24).drop 24).drop 24).drop 24).drop 24).drop 24).drop 24).drop 24).drop 24), List.all_append, w_t10, ← List.take_append_drop 24 ((((((((((words1.drop 24).drop 24).drop 24).drop 24).drop 24).drop 24).drop 24).drop 24).drop 24).drop 24), List.all_append, w_t11, ← List.take_append_drop 24 (((((((((((words1.drop 24).drop 24).drop 24).drop 24).drop 24).drop 24).drop 24).drop 24).drop 24).drop 24).drop 24), List.all_append, w_t12, w_t13]
  rfl
set_option maxRecDepth 65536 in
theorem w_rest : rest_1_c.before args0 about1 = true := by decide +kernel
set_option maxRecDepth 65536 in
theorem w_case : (Jvm.Cond.and given_1 narrow_1).before args0 about1 = true := by decide +kernel
set_option maxRecDepth 65536 in
theorem w_consts : constsHeld consts_1 about1 := Jvm.Lit.constsHeldB_iff.mp (by decide +kernel)
theorem w_applies : (headSpec (Jvm.Cond.code x code maxLocals ret :: tables_1) room_1).applies x e0.platform about1 = true :=
  (Spec.applies_iff w_frames).mpr ⟨w_running, w_runnable, w_alone, w_named, w_hears, w_ripe, w_room, w_tables⟩
theorem atStart : AtStart classFile x code maxLocals ret World_1 tables_1 room_1 Calls_1 rest_1 Pre_1 launch0 p0 e0 about1 theMethod args0 below0 :=
  ⟨lists_1, trivial, launch0.admits_env _ _ _, launch0.least_env, fairChoices_fair.cas, fairChoices_fair.clock, w_frames, w_args, w_heap, w_applies, ⟨(by decide +kernel : framesKnown about1 = true), ⟨(by decide +kernel : tablesKnown about1 = true), ⟨w_consts, trivial⟩⟩⟩, w_rest, w_case⟩
end start1
theorem witness_1 : WitnessClaimed_1 := ⟨start1.p0, start1.e0, start1.about1, start1.theMethod, start1.args0, start1.below0, start1.atStart⟩
end Jvm.Pilot.@@N@@
