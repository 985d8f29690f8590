import JvmDerived
import JvmDerived.Pilot.@@N@@Statement
import JvmDerived.Pilot.@@N@@Code
set_option linter.unusedVariables false
set_option linter.unusedSimpArgs false
namespace Jvm.RoadKit
open Sem ClassFile Op Lib Jvm.Stand Jvm.Free Jvm.LawKit
section New
variable {p : Program} {l : Launch} {e : Env} {R : Room} {s : State} {m : MethodId} {args : Array Value} {below : List Frame} {meth : Method} {c : Code} {T : State} {locs : List Loc} {cells slots : Nat}
theorem retI (X : Stand p l e R s m args below meth c T locs cells slots) (hx : p.tables.exec = Jvm.exec) {pc : Nat} {Ls : Array Slot} {z : Int32} {rest : List Value} (hret : meth.sig.returnType = some .int) (hd : decode c.code pc = .ok (.ireturn, 1)) {fs : List Frame}
    (hl : ∀ (f : JFrame) (acts : List Action), f.method = m → f.locked = none → f.entered = [] → (doReturn e (T.setTop f) acts (some (.int z))).1 = T.setFrames fs) : Steps p.tables e below (T.setTop (mkF m pc Ls (.int z :: rest))) (T.setFrames fs) := by
  have hm' : T.vm.method? m = some meth := X.method'
  have hn : narrow .int (.int z) = .int z := rfl
  show Steps p.tables e below (T.setTop { method := m, pc := pc, locals := Ls, stack := _ :: rest, locked := none }) _
  jvm_step X.here [X.here.top, hx, hd, hm', hret, hn]
  first | (intro acts; rw [hl _ acts rfl rfl rfl]) | rw [hl _ _ rfl rfl rfl]
  exact Steps.refl _
end New
end Jvm.RoadKit
/- laws to paste: Road.backV (cut by pick.py; bodies as the Statement names them) -/
namespace Jvm.Pilot.@@N@@
namespace StrChars
open Jvm Sem ClassFile Op Lib Jvm.Stand Jvm.Free.XT Jvm.Free.ALB Jvm.Free.JM Jvm.Free
open Jvm.Lib.Cold (StaticIs)
/-- a char array whose places are chars -/
def Ch (a : Addr) (A : Cell) (U : State) : Prop := Arr .char a A U ∧ Typed .char A
theorem Ch.mv {a : Addr} {A : Cell} {U U' : State} (h : Ch a A U) (hal : U.vm.Alike U'.vm) (hh : U'.heap = U.heap) : Ch a A U' := ⟨h.1.mv hal hh, h.2⟩
theorem Ch.keep {a : Addr} {A : Cell} {U U' : State} (h : Ch a A U) (hal : U.vm.Alike U'.vm) (hk : U'.heap[a]? = some A) : Ch a A U' := ⟨h.1.keep hal hk, h.2⟩
/-- what place i of a char[]'s cell holds -/
def cv (A : Cell) (i : Nat) : Int32 := match A.slots[i]? with | some (.int x) => x | _ => 0
theorem Ch.get {a : Addr} {A : Cell} {U : State} (h : Ch a A U) {i : Nat} (hi : i < A.slots.size) : A.slots[i]? = some (.int (cv A i)) := by
  have e := Array.getElem?_eq_getElem hi
  have f := h.2 i _ e
  unfold cv; rw [e]
  generalize A.slots[i] = v at f
  cases v <;> simp [fits] at f ⊢
/-- the byte that i2b leaves of a char -/
def lo8 (x : Int32) : Int32 := x.toInt8.toInt32
theorem fits_lo8 (y : Int32) : fits .byte (.int (lo8 y)) = true := by
  have h1 := y.toInt8.le_toInt
  have h2 := y.toInt8.toInt_lt
  simp only [lo8, fits, Bool.and_eq_true, decide_eq_true_eq, Int32.le_iff_toInt_le, Int8.toInt_toInt32, show (-128 : Int32).toInt = -128 from by decide, show (127 : Int32).toInt = 127 from by decide]
  omega
/-- A' is A but that each place j of lo .. hi - 1 holds f j -/
def Laid (A A' : Cell) (lo hi : Nat) (f : Nat → Value) : Prop := A'.cls = A.cls ∧ A'.vm = A.vm ∧ A'.slots.size = A.slots.size ∧ ∀ i, A'.slots[i]? = if lo ≤ i ∧ i < hi then some (f i) else A.slots[i]?
theorem Laid.zero (A : Cell) (lo : Nat) (f : Nat → Value) : Laid A A lo (lo + 0) f := ⟨rfl, rfl, rfl, fun i => by rw [if_neg (by omega)]⟩
theorem Laid.step {A Ak : Cell} {lo k : Nat} {f : Nat → Value} {v : Value} (h : Laid A Ak lo k f) (hlo : lo ≤ k) (hk : k < Ak.slots.size) (hv : v = f k) : Laid A (Ak.setSlot k v) lo (k + 1) f := by
  refine ⟨h.1, h.2.1, by simpa [Cell.setSlot] using h.2.2.1, fun i => ?_⟩
  by_cases e : k = i
  · subst e; rw [Cell.slots_setSlot_self v hk, if_pos (by omega), hv]
  · rw [Cell.slots_setSlot_ne v e, h.2.2.2 i]
    by_cases q : lo ≤ i ∧ i < k
    · rw [if_pos q, if_pos (by omega)]
    · rw [if_neg q, if_neg (by omega)]
def U16 : String := "java/lang/StringUTF16"
namespace Cmp5
def yN : MethodName := ⟨"java/lang/StringUTF16", "compress", "([CI[BII)I"⟩
abbrev yB : ByteArray := jdk_52_method_21_code
theorem d0 : decode yB 0 = .ok (.iconst 0, 1) := by decide +kernel
theorem d1 : decode yB 1 = .ok (.istore 5, 2) := by decide +kernel
theorem d3 : decode yB 3 = .ok (.iload 5, 2) := by decide +kernel
theorem d5 : decode yB 5 = .ok (.iload 4, 2) := by decide +kernel
theorem d7 : decode yB 7 = .ok (.if_icmp (.ge) 37, 3) := by decide +kernel
theorem d10 : decode yB 10 = .ok (.aload_n 0, 1) := by decide +kernel
theorem d11 : decode yB 11 = .ok (.iload_n 1, 1) := by decide +kernel
theorem d12 : decode yB 12 = .ok (.caload, 1) := by decide +kernel
theorem d13 : decode yB 13 = .ok (.istore 6, 2) := by decide +kernel
theorem d15 : decode yB 15 = .ok (.iload 6, 2) := by decide +kernel
theorem d17 : decode yB 17 = .ok (.sipush 255, 3) := by decide +kernel
theorem d20 : decode yB 20 = .ok (.if_icmp (.le) 6, 3) := by decide +kernel
theorem d26 : decode yB 26 = .ok (.aload_n 2, 1) := by decide +kernel
theorem d27 : decode yB 27 = .ok (.iload_n 3, 1) := by decide +kernel
theorem d28 : decode yB 28 = .ok (.iload 6, 2) := by decide +kernel
theorem d30 : decode yB 30 = .ok (.i2b, 1) := by decide +kernel
theorem d31 : decode yB 31 = .ok (.bastore, 1) := by decide +kernel
theorem d32 : decode yB 32 = .ok (.iinc 1 1, 3) := by decide +kernel
theorem d35 : decode yB 35 = .ok (.iinc 3 1, 3) := by decide +kernel
theorem d38 : decode yB 38 = .ok (.iinc 5 1, 3) := by decide +kernel
theorem d41 : decode yB 41 = .ok (.goto (-38), 3) := by decide +kernel
theorem d44 : decode yB 44 = .ok (.iload 4, 2) := by decide +kernel
theorem d46 : decode yB 46 = .ok (.ireturn, 1) := by decide +kernel
def site : List Cond := []
def tab : Cond := tabOf yN yB 7 (some .int) site
def P (b : Addr) (A : Cell) (d : Addr) (B : Cell) (o q len : Nat) (args : Array Value) (s : State) : Prop := args = #[.ref b, .int (Int32.ofNat o), .ref d, .int (Int32.ofNat q), .int (Int32.ofNat len)] ∧ Ch b A s ∧ Arr .byte d B s ∧ b ≠ d ∧ o + len ≤ A.slots.size ∧ q + len ≤ B.slots.size ∧ ∀ i, i < len → ¬ 255 < cv A (o + i)
def E (b : Addr) (A : Cell) (d : Addr) (B : Cell) (o q len : Nat) (r : Option Value) (s u : State) : Prop := r = some (.int (Int32.ofNat len)) ∧ ∃ B', Put d B' s u ∧ Laid B B' q (q + len) (fun j => Value.int (lo8 (cv A (o + (j - q)))))
/-- no char of the range above 255: len; the places written hold each char's low byte -/
theorem law (l : Launch) (b : Addr) (A : Cell) (d : Addr) (B : Cell) (o q len : Nat) : Law l yN 5 5 0 0 yB 7 (some .int) site (P b A d B o q len) (E b A d B o q len) (copyLocs d q len) 0 0 := by
  refine Law.of_walk (plainFor_of_name (by decide +kernel)) (by decide +kernel) (by decide +kernel) (by decide) (fun _ _ h => by rw [h.1]; rfl) (fun _ U U' hal hh h => ⟨h.1, h.2.1.mv hal hh, h.2.2.1.mv hal hh, h.2.2.2⟩) (fun r U U' V V' h1 hal h2 h => ⟨h.1, h.2.elim fun B' q => ⟨B', q.1.mv h1 h2, q.2⟩⟩) ?_
  intro p e s m args below meth c s₁ X0 hexec hbytes hml hret hlk hnm hown hh0 W hP
  obtain ⟨rfl, hA, hB, hne, l1, l2, hp⟩ := hP
  have c1 : Steps p.tables e below (s₁.setTop (entryFrame m #[.ref b, .int (Int32.ofNat o), .ref d, .int (Int32.ofNat q), .int (Int32.ofNat len)] 7)) (s₁.setTop (mkF m 0 #[.val (.ref b), .val (.int (Int32.ofNat o)), .val (.ref d), .val (.int (Int32.ofNat q)), .val (.int (Int32.ofNat len)), .unset, .unset] [])) := entry rfl
  have hA0 := hA.1.mv X0.warmed.alike hh0
  have hB0 := hB.mv X0.warmed.alike hh0
  have a31 := hA.1.2.2.2
  have c2 : Steps p.tables e below (s₁.setTop (entryFrame m #[.ref b, .int (Int32.ofNat o), .ref d, .int (Int32.ofNat q), .int (Int32.ofNat len)] 7)) (s₁.setTop (mkF m 3 #[.val (.ref b), .val (.int (Int32.ofNat o)), .val (.ref d), .val (.int (Int32.ofNat q)), .val (.int (Int32.ofNat len)), .val (.int 0), .unset] [])) := c1.trans (by
    refine iconstV X0.here hexec rfl 0 (hb hbytes d0) (by decide) ?_
    refine XS.istore X0.here hexec rfl (hb hbytes d1) rfl rfl ?_
    exact Steps.refl _)
  have loop : ∀ (r i : Nat), i + r = len → ∀ (z : Slot), (z = .unset ∨ ∃ w, z = .val w ∧ w.category = 1) → ∀ (Tl : State) (Bk : Cell), Stand p l e { frames := 0, locals := 0, cells := 0, slots := 0 } s m #[.ref b, .int (Int32.ofNat o), .ref d, .int (Int32.ofNat q), .int (Int32.ofNat len)] below meth c Tl ([] ++ copyLocs d q i) 0 0 → Put d Bk s₁ Tl → Laid B Bk q (q + i) (fun j => Value.int (lo8 (cv A (o + (j - q))))) →
      Steps p.tables e below (s₁.setTop (entryFrame m #[.ref b, .int (Int32.ofNat o), .ref d, .int (Int32.ofNat q), .int (Int32.ofNat len)] 7)) (Tl.setTop (mkF m 3 #[.val (.ref b), .val (.int (Int32.ofNat (o + i))), .val (.ref d), .val (.int (Int32.ofNat (q + i))), .val (.int (Int32.ofNat len)), .val (.int (Int32.ofNat i)), z] [])) → ∃ (T' : State) (B' : Cell) (z' : Slot), Stand p l e { frames := 0, locals := 0, cells := 0, slots := 0 } s m #[.ref b, .int (Int32.ofNat o), .ref d, .int (Int32.ofNat q), .int (Int32.ofNat len)] below meth c T' ([] ++ copyLocs d q len) 0 0 ∧ Put d B' s₁ T' ∧ Laid B B' q (q + len) (fun j => Value.int (lo8 (cv A (o + (j - q))))) ∧
      Steps p.tables e below (s₁.setTop (entryFrame m #[.ref b, .int (Int32.ofNat o), .ref d, .int (Int32.ofNat q), .int (Int32.ofNat len)] 7)) (T'.setTop (mkF m 3 #[.val (.ref b), .val (.int (Int32.ofNat (o + len))), .val (.ref d), .val (.int (Int32.ofNat (q + len))), .val (.int (Int32.ofNat len)), .val (.int (Int32.ofNat len)), z'] [])) := by
    intro r
    induction r with
    | zero =>
      intro i hi z hz Tl Bk Xl pl fl cl
      have hil : i = len := by omega
      rw [hil] at Xl fl cl
      exact ⟨Tl, Bk, z, Xl, pl, fl, cl⟩
    | succ r ih =>
      intro i hi z hz Tl Bk Xl pl fl cl
      have all := X0.warmed.alike.symm.trans Xl.warmed.alike
      have hAl := hA0.keep all (pl.other hne hA0.1)
      have hBk := hB0.like all pl.1 fl.1 fl.2.1 fl.2.2.1
      have hlt : q + i < Bk.slots.size := by rw [fl.2.2.1]; omega
      have c3 : Steps p.tables e below (s₁.setTop (entryFrame m #[.ref b, .int (Int32.ofNat o), .ref d, .int (Int32.ofNat q), .int (Int32.ofNat len)] 7)) (Tl.setTop (mkF m 12 #[.val (.ref b), .val (.int (Int32.ofNat (o + i))), .val (.ref d), .val (.int (Int32.ofNat (q + i))), .val (.int (Int32.ofNat len)), .val (.int (Int32.ofNat i)), z] [.int (Int32.ofNat (o + i)), .ref b])) := cl.trans (by
        refine XS.iload Xl.here hexec rfl (hb hbytes d3) rfl ?_
        refine XS.iload Xl.here hexec rfl (hb hbytes d5) rfl ?_
        refine XS.icmpNo Xl.here hexec rfl (hb hbytes d7) rfl (ii_ge_f (lt32 (by omega) (by omega))) ?_
        refine XS.aloadN Xl.here hexec rfl (hb hbytes d10) rfl rfl ?_
        refine XS.iloadN Xl.here hexec rfl (hb hbytes d11) rfl ?_
        exact Steps.refl _)
      have c4 : Steps p.tables e below (s₁.setTop (entryFrame m #[.ref b, .int (Int32.ofNat o), .ref d, .int (Int32.ofNat q), .int (Int32.ofNat len)] 7)) (Tl.setTop (mkF m 13 #[.val (.ref b), .val (.int (Int32.ofNat (o + i))), .val (.ref d), .val (.int (Int32.ofNat (q + i))), .val (.int (Int32.ofNat len)), .val (.int (Int32.ofNat i)), z] [.int (cv A (o + i))])) := c3.trans (by
        refine Xl.aget hexec hAl rfl (hA.get (i := o + i) (by omega)) rfl rfl (hb hbytes d12) ?_
        exact Steps.refl _)
      have c5 : Steps p.tables e below (s₁.setTop (entryFrame m #[.ref b, .int (Int32.ofNat o), .ref d, .int (Int32.ofNat q), .int (Int32.ofNat len)] 7)) (Tl.setTop (mkF m 15 #[.val (.ref b), .val (.int (Int32.ofNat (o + i))), .val (.ref d), .val (.int (Int32.ofNat (q + i))), .val (.int (Int32.ofNat len)), .val (.int (Int32.ofNat i)), .val (.int (cv A (o + i)))] [])) := c4.trans (by
        refine XS.istoreS Xl.here hexec rfl (hb hbytes d13) rfl rfl hz ?_
        exact Steps.refl _)
      have c6 : Steps p.tables e below (s₁.setTop (entryFrame m #[.ref b, .int (Int32.ofNat o), .ref d, .int (Int32.ofNat q), .int (Int32.ofNat len)] 7)) (Tl.setTop (mkF m 31 #[.val (.ref b), .val (.int (Int32.ofNat (o + i))), .val (.ref d), .val (.int (Int32.ofNat (q + i))), .val (.int (Int32.ofNat len)), .val (.int (Int32.ofNat i)), .val (.int (cv A (o + i)))] [.int (lo8 (cv A (o + i))), .int (Int32.ofNat (q + i)), .ref d])) := c5.trans (by
        refine XS.iload Xl.here hexec rfl (hb hbytes d15) rfl ?_
        refine sipushV Xl.here hexec rfl 255 (hb hbytes d17) (by decide) ?_
        refine XS.icmpYes Xl.here hexec rfl (pc0 := 20) rfl (hb hbytes d20) rfl (ii_le_t (hp i (by omega))) (by decide) rfl ?_
        refine XS.aloadN Xl.here hexec rfl (hb hbytes d26) rfl rfl ?_
        refine XS.iloadN Xl.here hexec rfl (hb hbytes d27) rfl ?_
        refine XS.iload Xl.here hexec rfl (hb hbytes d28) rfl ?_
        refine i2b Xl.here hexec rfl (hb hbytes d30) rfl ?_
        exact Steps.refl _)
      obtain ⟨T7, X7, p7, st7⟩ := Xl.aput hexec hBk rfl hlt rfl (fits_lo8 (cv A (o + i))) (g := (mkF m 31 #[.val (.ref b), .val (.int (Int32.ofNat (o + i))), .val (.ref d), .val (.int (Int32.ofNat (q + i))), .val (.int (Int32.ofNat len)), .val (.int (Int32.ofNat i)), .val (.int (cv A (o + i)))] [.int (lo8 (cv A (o + i))), .int (Int32.ofNat (q + i)), .ref d])) rfl (rest := []) rfl (hb hbytes d31)
      have c8 : Steps p.tables e below (s₁.setTop (entryFrame m #[.ref b, .int (Int32.ofNat o), .ref d, .int (Int32.ofNat q), .int (Int32.ofNat len)] 7)) (T7.setTop (mkF m 32 #[.val (.ref b), .val (.int (Int32.ofNat (o + i))), .val (.ref d), .val (.int (Int32.ofNat (q + i))), .val (.int (Int32.ofNat len)), .val (.int (Int32.ofNat i)), .val (.int (cv A (o + i)))] [])) := c6.trans (st7 _ (Steps.refl _))
      have c9 : Steps p.tables e below (s₁.setTop (entryFrame m #[.ref b, .int (Int32.ofNat o), .ref d, .int (Int32.ofNat q), .int (Int32.ofNat len)] 7)) (T7.setTop (mkF m 3 #[.val (.ref b), .val (.int (Int32.ofNat (o + i) + 1)), .val (.ref d), .val (.int (Int32.ofNat (q + i) + 1)), .val (.int (Int32.ofNat len)), .val (.int (Int32.ofNat i + 1)), .val (.int (cv A (o + i)))] [])) := c8.trans (by
        refine iincV X7.here hexec rfl 1 (hb hbytes d32) (by decide) rfl rfl ?_
        refine iincV X7.here hexec rfl 1 (hb hbytes d35) (by decide) rfl rfl ?_
        refine iincV X7.here hexec rfl 1 (hb hbytes d38) (by decide) rfl rfl ?_
        refine XS.goto X7.here hexec rfl (pc0 := 41) rfl (hb hbytes d41) (by decide) rfl ?_
        exact Steps.refl _)
      have c10 : Steps p.tables e below (s₁.setTop (entryFrame m #[.ref b, .int (Int32.ofNat o), .ref d, .int (Int32.ofNat q), .int (Int32.ofNat len)] 7)) (T7.setTop (mkF m 3 #[.val (.ref b), .val (.int (Int32.ofNat (o + (i + 1)))), .val (.ref d), .val (.int (Int32.ofNat (q + (i + 1)))), .val (.int (Int32.ofNat len)), .val (.int (Int32.ofNat (i + 1))), .val (.int (cv A (o + i)))] [])) := by
        have := c9
        rw [succ32, succ32, succ32] at this
        exact this
      exact ih (i + 1) (by omega) _ (Or.inr ⟨_, rfl, rfl⟩) T7 _ (by rw [copyLocs_step, ← List.append_assoc]; exact X7) (pl.trans p7) (fl.step (by omega) hlt (by simp)) c10
  obtain ⟨T9, B9, z9, X9, p9, f9, g9⟩ := loop len 0 (by omega) .unset (Or.inl rfl) s₁ B (by simpa [copyLocs] using X0) ⟨hB0.1, fun _ _ => rfl, rfl⟩ (Laid.zero _ _ _) c2
  have c11 : Steps p.tables e below (s₁.setTop (entryFrame m #[.ref b, .int (Int32.ofNat o), .ref d, .int (Int32.ofNat q), .int (Int32.ofNat len)] 7)) (T9.setTop (mkF m 46 #[.val (.ref b), .val (.int (Int32.ofNat (o + len))), .val (.ref d), .val (.int (Int32.ofNat (q + len))), .val (.int (Int32.ofNat len)), .val (.int (Int32.ofNat len)), z9] [.int (Int32.ofNat len)])) := g9.trans (by
    refine XS.iload X9.here hexec rfl (hb hbytes d3) rfl ?_
    refine XS.iload X9.here hexec rfl (hb hbytes d5) rfl ?_
    refine XS.icmpYes X9.here hexec rfl (pc0 := 7) rfl (hb hbytes d7) rfl (ii_ge_t (nlt32 (by omega) (Nat.le_refl _))) (by decide) rfl ?_
    refine XS.iload X9.here hexec rfl (hb hbytes d44) rfl ?_
    exact Steps.refl _)
  exact ⟨T9, some (.int (Int32.ofNat len)), _, _, _, X9, by simp, rfl, rfl, (fun h => by cases h), ⟨rfl, B9, p9.from hh0, f9⟩, fun fs hl => c11.trans (X9.ireturnOut hexec hret rfl (Or.inl rfl) (hb hbytes d46) hl)⟩
end Cmp5
namespace Cmp3
def yN : MethodName := ⟨"java/lang/StringUTF16", "compress", "([CII)[B"⟩
abbrev yB : ByteArray := jdk_52_method_16_code
theorem d0 : decode yB 0 = .ok (.iload_n 2, 1) := by decide +kernel
theorem d1 : decode yB 1 = .ok (.newarray .byte, 2) := by decide +kernel
theorem d3 : decode yB 3 = .ok (.astore_n 3, 1) := by decide +kernel
theorem d4 : decode yB 4 = .ok (.aload_n 0, 1) := by decide +kernel
theorem d5 : decode yB 5 = .ok (.iload_n 1, 1) := by decide +kernel
theorem d6 : decode yB 6 = .ok (.aload_n 3, 1) := by decide +kernel
theorem d7 : decode yB 7 = .ok (.iconst 0, 1) := by decide +kernel
theorem d8 : decode yB 8 = .ok (.iload_n 2, 1) := by decide +kernel
theorem d9 : decode yB 9 = .ok (.invokestatic 115, 3) := by decide +kernel
theorem d12 : decode yB 12 = .ok (.istore 4, 2) := by decide +kernel
theorem d14 : decode yB 14 = .ok (.iload 4, 2) := by decide +kernel
theorem d16 : decode yB 16 = .ok (.iload_n 2, 1) := by decide +kernel
theorem d17 : decode yB 17 = .ok (.if_icmp (.eq) 40, 3) := by decide +kernel
theorem d57 : decode yB 57 = .ok (.aload_n 3, 1) := by decide +kernel
theorem d58 : decode yB 58 = .ok (.areturn, 1) := by decide +kernel
def site : List Cond := [.arrayClass .byte, Cmp5.tab] ++ staticW U16 115 Cmp5.yN
def tab : Cond := tabOf yN yB 6 (some (.array .byte)) site
def P (b : Addr) (A : Cell) (o len : Nat) (args : Array Value) (s : State) : Prop := args = #[.ref b, .int (Int32.ofNat o), .int (Int32.ofNat len)] ∧ Ch b A s ∧ o + len ≤ A.slots.size ∧ len ≤ 536870912 ∧ ∀ i, i < len → ¬ 255 < cv A (o + i)
def E (b : Addr) (A : Cell) (o len : Nat) (r : Option Value) (s u : State) : Prop := NewArr .byte "[B" len (fun j => .int (lo8 (cv A (o + j)))) r s u ∧ u.heap.size = s.heap.size + 1
/-- no char of the range above 255: a new byte[] of their low bytes -/
theorem law (l : Launch) (b : Addr) (A : Cell) (o len : Nat) : Law l yN 3 3 1 18 yB 6 (some (.array .byte)) site (P b A o len) (E b A o len) [] 1 len := by
  refine Law.of_walk (plainFor_of_name (by decide +kernel)) (by decide +kernel) (by decide +kernel) (by decide) (fun _ _ h => by rw [h.1]; rfl) (fun _ U U' hal hh h => ⟨h.1, h.2.1.mv hal hh, h.2.2⟩) (fun r U U' V V' h1 hal h2 h => ⟨NewArr.mv r U U' V V' h1 hal h2 h.1, by rw [h1, h2]; exact h.2⟩) ?_
  intro p e s m args below meth c s₁ X0 hexec hbytes hml hret hlk hnm hown hh0 W hP
  obtain ⟨rfl, hA, l1, l2, hp⟩ := hP
  have a31 := hA.1.2.2.2
  have c1 : Steps p.tables e below (s₁.setTop (entryFrame m #[.ref b, .int (Int32.ofNat o), .int (Int32.ofNat len)] 6)) (s₁.setTop (mkF m 0 #[.val (.ref b), .val (.int (Int32.ofNat o)), .val (.int (Int32.ofNat len)), .unset, .unset, .unset] [])) := entry rfl
  have c2 : Steps p.tables e below (s₁.setTop (entryFrame m #[.ref b, .int (Int32.ofNat o), .int (Int32.ofNat len)] 6)) (s₁.setTop (mkF m 1 #[.val (.ref b), .val (.int (Int32.ofNat o)), .val (.int (Int32.ofNat len)), .unset, .unset, .unset] [.int (Int32.ofNat len)])) := c1.trans (by
    refine XS.iloadN X0.here hexec rfl (hb hbytes d0) rfl ?_
    exact Steps.refl _)
  obtain ⟨T3, B3, X3, ba3, bs3, bv3, bh3, bf3, st3⟩ := X0.anew hexec (atype := .byte) (wk W (.arrayClass .byte)) rfl (by show len * 1 ≤ _; omega) (by omega) (g := (mkF m 1 #[.val (.ref b), .val (.int (Int32.ofNat o)), .val (.int (Int32.ofNat len)), .unset, .unset, .unset] [.int (Int32.ofNat len)])) rfl (hb hbytes d1) (rest := []) rfl (Nat.le_refl _) (by show 0 + len ≤ len; omega)
  rw [hh0] at ba3 st3
  have kp3 : XT.Kept s T3 := (XT.Kept.of_eq hh0).push bh3
  have hA3 := hA.keep X3.warmed.alike (kp3 _ _ hA.1.1)
  have hne : b ≠ s.heap.size := hA.1.ne
  have c4 : Steps p.tables e below (s₁.setTop (entryFrame m #[.ref b, .int (Int32.ofNat o), .int (Int32.ofNat len)] 6)) (T3.setTop (mkF m 3 #[.val (.ref b), .val (.int (Int32.ofNat o)), .val (.int (Int32.ofNat len)), .unset, .unset, .unset] [.ref s.heap.size])) := c2.trans (st3 _ (Steps.refl _))
  have c5 : Steps p.tables e below (s₁.setTop (entryFrame m #[.ref b, .int (Int32.ofNat o), .int (Int32.ofNat len)] 6)) (T3.setTop (mkF m 9 #[.val (.ref b), .val (.int (Int32.ofNat o)), .val (.int (Int32.ofNat len)), .val (.ref s.heap.size), .unset, .unset] [.int (Int32.ofNat len), .int 0, .ref s.heap.size, .int (Int32.ofNat o), .ref b])) := c4.trans (by
    refine XS.astoreN X3.here hexec rfl (hb hbytes d3) rfl rfl rfl ?_
    refine XS.aloadN X3.here hexec rfl (hb hbytes d4) rfl rfl ?_
    refine XS.iloadN X3.here hexec rfl (hb hbytes d5) rfl ?_
    refine XS.aloadN X3.here hexec rfl (hb hbytes d6) rfl rfl ?_
    refine iconstV X3.here hexec rfl 0 (hb hbytes d7) (by decide) ?_
    refine XS.iloadN X3.here hexec rfl (hb hbytes d8) rfl ?_
    exact Steps.refl _)
  obtain ⟨v6, T6, X6, E6, g6⟩ := X3.callS hexec (Cmp5.law l b A s.heap.size B3 o 0 len) hown (wks W (staticW U16 115 Cmp5.yN)) (wk W Cmp5.tab) (W := 0) (Nat.le_of_ble_eq_true rfl) (Nat.le_of_ble_eq_true rfl) (Nat.le_refl _) (by show 0 + len + 0 ≤ len; omega) (g := (mkF m 9 #[.val (.ref b), .val (.int (Int32.ofNat o)), .val (.int (Int32.ofNat len)), .val (.ref s.heap.size), .unset, .unset] [.int (Int32.ofNat len), .int (Int32.ofNat 0), .ref s.heap.size, .int (Int32.ofNat o), .ref b])) rfl (by rw [hml]; rfl) c5 (argsL := [.ref b, .int (Int32.ofNat o), .ref s.heap.size, .int (Int32.ofNat 0), .int (Int32.ofNat len)]) (rest := []) rfl rfl (by show 2 * 0 + 0 ≤ _; decide) (hb hbytes d9) (⟨rfl, hA3, ba3, hne, l1, by rw [bs3]; simp, hp⟩)
  obtain ⟨rfl, B6, p6, f6⟩ := E6
  have c7 : Steps p.tables e below (s₁.setTop (entryFrame m #[.ref b, .int (Int32.ofNat o), .int (Int32.ofNat len)] 6)) (T6.setTop (mkF m 12 #[.val (.ref b), .val (.int (Int32.ofNat o)), .val (.int (Int32.ofNat len)), .val (.ref s.heap.size), .unset, .unset] [.int (Int32.ofNat len)])) := g6
  have c8 : Steps p.tables e below (s₁.setTop (entryFrame m #[.ref b, .int (Int32.ofNat o), .int (Int32.ofNat len)] 6)) (T6.setTop (mkF m 58 #[.val (.ref b), .val (.int (Int32.ofNat o)), .val (.int (Int32.ofNat len)), .val (.ref s.heap.size), .val (.int (Int32.ofNat len)), .unset] [.ref s.heap.size])) := c7.trans (by
    refine XS.istore X6.here hexec rfl (hb hbytes d12) rfl rfl ?_
    refine XS.iload X6.here hexec rfl (hb hbytes d14) rfl ?_
    refine XS.iloadN X6.here hexec rfl (hb hbytes d16) rfl ?_
    refine XS.icmpYes X6.here hexec rfl (pc0 := 17) rfl (hb hbytes d17) rfl (ii_eq_t rfl) (by decide) rfl ?_
    refine XS.aloadN X6.here hexec rfl (hb hbytes d57) rfl rfl ?_
    exact Steps.refl _)
  have X8 := X6.wide (L' := []) (cells' := 1) (slots' := len) (fun x hx hlt => by
    simp only [List.nil_append, copyLocs, List.mem_map, List.mem_range] at hx
    obtain ⟨i, -, rfl⟩ := hx
    exact absurd hlt (Nat.lt_irrefl _)) (Nat.le_refl _) (by omega)
  exact ⟨T6, some (.ref s.heap.size), _, _, _, X8, rfl, rfl, rfl, (fun h => by cases h), ⟨⟨rfl, B6, ba3.like (X3.warmed.alike.symm.trans X6.warmed.alike) p6.1 f6.1 f6.2.1 f6.2.2.1, f6.2.1.trans bv3, by rw [X6.warmed.alike.findClass, f6.1]; exact bf3, by rw [f6.2.2.1, bs3]; simp, fun j hj => by rw [f6.2.2.2 j, if_pos (by omega)]; rfl, kp3.put p6 (Nat.le_refl _)⟩, by rw [p6.2.2, bh3, hh0]; simp⟩, fun fs hl => c8.trans (X8.areturnOut hexec rfl hret rfl (hb hbytes d58) hl)⟩
end Cmp3
namespace CodL
def yN : MethodName := ⟨"java/lang/StringUTF16", "coderFromArrayLen", "([BI)B"⟩
abbrev yB : ByteArray := jdk_52_method_15_code
theorem d0 : decode yB 0 = .ok (.iload_n 1, 1) := by decide +kernel
theorem d1 : decode yB 1 = .ok (.aload_n 0, 1) := by decide +kernel
theorem d2 : decode yB 2 = .ok (.arraylength, 1) := by decide +kernel
theorem d3 : decode yB 3 = .ok (.isub, 1) := by decide +kernel
theorem d4 : decode yB 4 = .ok (.bipush 31, 2) := by decide +kernel
theorem d6 : decode yB 6 = .ok (.iushr, 1) := by decide +kernel
theorem d7 : decode yB 7 = .ok (.i2b, 1) := by decide +kernel
theorem d8 : decode yB 8 = .ok (.ireturn, 1) := by decide +kernel
def site : List Cond := []
def tab : Cond := tabOf yN yB 2 (some .byte) site
def P (d : Addr) (B : Cell) (args : Array Value) (s : State) : Prop := args = #[.ref d, .int (Int32.ofNat B.slots.size)] ∧ Arr .byte d B s
def E (r : Option Value) (s u : State) : Prop := XT.PureE (some (.int 0)) r s u
/-- an array as long as the number of chars: LATIN1 -/
theorem law (l : Launch) (d : Addr) (B : Cell) : Law l yN 2 2 0 0 yB 2 (some .byte) site (P d B) E [] 0 0 := by
  refine Law.of_walk (plainFor_of_name (by decide +kernel)) (by decide +kernel) (by decide +kernel) (by decide) (fun _ _ h => by rw [h.1]; rfl) (fun _ U U' hal hh h => ⟨h.1, h.2.mv hal hh⟩) (fun r U U' V V' h1 hal h2 h => XT.PureE.mv r U U' V V' h1 hal h2 h) ?_
  intro p e s m args below meth c s₁ X0 hexec hbytes hml hret hlk hnm hown hh0 W hP
  obtain ⟨rfl, hB⟩ := hP
  have hB0 := hB.mv X0.warmed.alike hh0
  have c1 : Steps p.tables e below (s₁.setTop (entryFrame m #[.ref d, .int (Int32.ofNat B.slots.size)] 2)) (s₁.setTop (mkF m 0 #[.val (.ref d), .val (.int (Int32.ofNat B.slots.size))] [])) := entry rfl
  have c2 : Steps p.tables e below (s₁.setTop (entryFrame m #[.ref d, .int (Int32.ofNat B.slots.size)] 2)) (s₁.setTop (mkF m 2 #[.val (.ref d), .val (.int (Int32.ofNat B.slots.size))] [.ref d, .int (Int32.ofNat B.slots.size)])) := c1.trans (by
    refine XS.iloadN X0.here hexec rfl (hb hbytes d0) rfl ?_
    refine XS.aloadN X0.here hexec rfl (hb hbytes d1) rfl rfl ?_
    exact Steps.refl _)
  have c3 : Steps p.tables e below (s₁.setTop (entryFrame m #[.ref d, .int (Int32.ofNat B.slots.size)] 2)) (s₁.setTop (mkF m 8 #[.val (.ref d), .val (.int (Int32.ofNat B.slots.size))] [.int (lo8 (ushr (Int32.ofNat B.slots.size - Int32.ofNat B.slots.size) 31))])) := c2.trans (by
    refine X0.alen hexec hB0 rfl rfl (hb hbytes d2) ?_
    refine XS.isub X0.here hexec rfl (hb hbytes d3) rfl ?_
    refine bipushV X0.here hexec rfl 31 (hb hbytes d4) (by decide) ?_
    refine iushr X0.here hexec rfl (hb hbytes d6) rfl ?_
    refine i2b X0.here hexec rfl (hb hbytes d7) rfl ?_
    exact Steps.refl _)
  have e0 : lo8 (ushr (Int32.ofNat B.slots.size - Int32.ofNat B.slots.size) 31) = 0 := by rw [Int32.sub_self]; decide
  rw [e0] at c3
  exact ⟨s₁, some (.int 0), _, _, _, X0, rfl, rfl, rfl, (fun h => by cases h), ⟨rfl, hh0⟩, fun fs hl => c3.trans (X0.ireturnOut hexec hret rfl (Or.inr (Or.inr (Or.inl rfl))) (hb hbytes d8) hl)⟩
end CodL
/-- the String at a is Latin-1 over a new byte[] (the heap's one new cell): the low bytes of the len chars of A from o on; every cell but a is kept -/
def Got (a : Addr) (D : Cell) (fV fC : Field) (A : Cell) (o len : Nat) (r : Option Value) (s u : State) : Prop := r = none ∧ ∃ D' V : Cell, Blank "java/lang/String" a D' u ∧ Same D D' [fV.slot, fC.slot] ∧ D'.slots[fV.slot]? = some (.ref s.heap.size) ∧ D'.slots[fC.slot]? = some (.int 0) ∧ Arr .byte s.heap.size V u ∧ V.vm = .none ∧ u.vm.findClass "[B" = some V.cls ∧ V.slots.size = len ∧ (∀ j, j < len → V.slots[j]? = some (.int (lo8 (cv A (o + j))))) ∧ (∀ (y : Addr) (c : Cell), y ≠ a → s.heap[y]? = some c → u.heap[y]? = some c) ∧ u.heap.size = s.heap.size + 1
theorem Got.mv {a : Addr} {D A : Cell} {fV fC : Field} {o len : Nat} : ∀ r (U U' V V' : State), U'.heap = U.heap → V.vm.Alike V'.vm → V'.heap = V.heap → Got a D fV fC A o len r U V → Got a D fV fC A o len r U' V' :=
  fun r U U' V V' h1 hal h2 ⟨e0, D', X, a1, a2, a3, a4, a5, a6, a7, a8, a9, a10, a11⟩ => ⟨e0, D', X, a1.mv hal h2, a2, by rw [h1]; exact a3, a4, by rw [h1]; exact a5.mv hal h2, a6, by rw [hal.findClass]; exact a7, a8, a9, by rw [h1, h2]; exact a10, by rw [h1, h2]; exact a11⟩
namespace New4
def yN : MethodName := ⟨"java/lang/String", "<init>", "([CIILjava/lang/Void;)V"⟩
abbrev yB : ByteArray := jdk_42_method_149_code
theorem d0 : decode yB 0 = .ok (.aload_n 0, 1) := by decide +kernel
theorem d1 : decode yB 1 = .ok (.invokespecial 1, 3) := by decide +kernel
theorem d4 : decode yB 4 = .ok (.iload_n 3, 1) := by decide +kernel
theorem d5 : decode yB 5 = .ok (.ifCond (.ne) 22, 3) := by decide +kernel
theorem d27 : decode yB 27 = .ok (.getstatic 38, 3) := by decide +kernel
theorem d30 : decode yB 30 = .ok (.ifCond (.eq) 28, 3) := by decide +kernel
theorem d33 : decode yB 33 = .ok (.aload_n 1, 1) := by decide +kernel
theorem d34 : decode yB 34 = .ok (.iload_n 2, 1) := by decide +kernel
theorem d35 : decode yB 35 = .ok (.iload_n 3, 1) := by decide +kernel
theorem d36 : decode yB 36 = .ok (.invokestatic 177, 3) := by decide +kernel
theorem d39 : decode yB 39 = .ok (.astore 5, 2) := by decide +kernel
theorem d41 : decode yB 41 = .ok (.aload_n 0, 1) := by decide +kernel
theorem d42 : decode yB 42 = .ok (.aload 5, 2) := by decide +kernel
theorem d44 : decode yB 44 = .ok (.iload_n 3, 1) := by decide +kernel
theorem d45 : decode yB 45 = .ok (.invokestatic 47, 3) := by decide +kernel
theorem d48 : decode yB 48 = .ok (.putfield 15, 3) := by decide +kernel
theorem d51 : decode yB 51 = .ok (.aload_n 0, 1) := by decide +kernel
theorem d52 : decode yB 52 = .ok (.aload 5, 2) := by decide +kernel
theorem d54 : decode yB 54 = .ok (.putfield 9, 3) := by decide +kernel
theorem d57 : decode yB 57 = .ok (.return_, 1) := by decide +kernel
def site : List Cond := [.fieldLink "java/lang/String" 38 "java/lang/String" "COMPACT_STRINGS" "Z", Cmp3.tab, CodL.tab, .laysFinal "java/lang/String" "java/lang/String" "value" "[B", .fieldLink "java/lang/String" 9 "java/lang/String" "value" "[B", .laysFinal "java/lang/String" "java/lang/String" "coder" "B", .fieldLink "java/lang/String" 15 "java/lang/String" "coder" "B"] ++ objW "java/lang/String" 1 ++ staticW "java/lang/String" 177 Cmp3.yN ++ staticW "java/lang/String" 47 CodL.yN
def tab : Cond := tabOf yN yB 6 none site
def P (a : Addr) (D : Cell) (fV fC : Field) (b : Addr) (A : Cell) (z : Int32) (o len : Nat) (args : Array Value) (s : State) : Prop := args = #[.ref a, .ref b, .int (Int32.ofNat o), .int (Int32.ofNat len), .null] ∧ Blank "java/lang/String" a D s ∧ Found "java/lang/String" "value" "[B" fV s ∧ Found "java/lang/String" "coder" "B" fC s ∧ Ch b A s ∧ StaticIs s "java/lang/String" "COMPACT_STRINGS" "Z" (.int z) ∧ ¬ z = 0 ∧ 0 < len ∧ o + len ≤ A.slots.size ∧ len ≤ 536870912 ∧ ∀ i, i < len → ¬ 255 < cv A (o + i)
def E (a : Addr) (D : Cell) (fV fC : Field) (A : Cell) (o len : Nat) (r : Option Value) (s u : State) : Prop := Got a D fV fC A o len r s u
/-- len > 0, no char of the range above 255: a Latin-1 String of their low bytes -/
theorem law (l : Launch) (a : Addr) (D : Cell) (fV fC : Field) (b : Addr) (A : Cell) (z : Int32) (o len : Nat) : Law l yN 5 4 2 35 yB 6 none site (P a D fV fC b A z o len) (E a D fV fC A o len) [⟨a, fC.slot⟩, ⟨a, fV.slot⟩] 1 len := by
  refine Law.of_walk (plainFor_of_name (by decide +kernel)) (by decide +kernel) (by decide +kernel) (by decide) (fun _ _ h => by rw [h.1]; rfl) (fun _ U U' hal hh h => ⟨h.1, h.2.1.mv hal hh, h.2.2.1.al hal, h.2.2.2.1.al hal, h.2.2.2.2.1.mv hal hh, h.2.2.2.2.2.1.there hal hh, h.2.2.2.2.2.2⟩) (fun r U U' V V' h1 hal h2 h => Got.mv r U U' V V' h1 hal h2 h) ?_
  intro p e s m args below meth c s₁ X0 hexec hbytes hml hret hlk hnm hown hh0 W hP
  obtain ⟨rfl, hB, f1, f2, hA, s1, hz, l0, l1, l2, hp⟩ := hP
  have a31 := hA.1.2.2.2
  have c1 : Steps p.tables e below (s₁.setTop (entryFrame m #[.ref a, .ref b, .int (Int32.ofNat o), .int (Int32.ofNat len), .null] 6)) (s₁.setTop (mkF m 0 #[.val (.ref a), .val (.ref b), .val (.int (Int32.ofNat o)), .val (.int (Int32.ofNat len)), .val .null, .unset] [])) := entry rfl
  have c2 : Steps p.tables e below (s₁.setTop (entryFrame m #[.ref a, .ref b, .int (Int32.ofNat o), .int (Int32.ofNat len), .null] 6)) (s₁.setTop (mkF m 1 #[.val (.ref a), .val (.ref b), .val (.int (Int32.ofNat o)), .val (.int (Int32.ofNat len)), .val .null, .unset] [.ref a])) := c1.trans (by
    refine XS.aloadN X0.here hexec rfl (hb hbytes d0) rfl rfl ?_
    exact Steps.refl _)
  obtain ⟨T3, X3, q3, st3⟩ := X0.oinit hexec hown (wks W (objW "java/lang/String" 1)) (g := (mkF m 1 #[.val (.ref a), .val (.ref b), .val (.int (Int32.ofNat o)), .val (.int (Int32.ofNat len)), .val .null, .unset] [.ref a])) rfl (by rw [hml]; rfl) (rest := []) rfl (hb hbytes d1) (W := 0) (by show 2 * 0 + 0 ≤ _; decide) (Nat.le_of_ble_eq_true rfl) (Nat.le_of_ble_eq_true rfl)
  have hh3 := q3.trans hh0
  have c4 : Steps p.tables e below (s₁.setTop (entryFrame m #[.ref a, .ref b, .int (Int32.ofNat o), .int (Int32.ofNat len), .null] 6)) (T3.setTop (mkF m 27 #[.val (.ref a), .val (.ref b), .val (.int (Int32.ofNat o)), .val (.int (Int32.ofNat len)), .val .null, .unset] [])) := (c2.trans (st3 _ (Steps.refl _))).trans (by
    refine XS.iloadN X3.here hexec rfl (hb hbytes d4) rfl ?_
    refine XS.ifYes X3.here hexec rfl (pc0 := 5) rfl (hb hbytes d5) rfl (i0_ne_t (nz32 (by omega) l0)) (by decide) rfl ?_
    exact Steps.refl _)
  obtain ⟨T5, X5, q5, st5⟩ := X3.sget hexec hown (wk W (.fieldLink "java/lang/String" 38 "java/lang/String" "COMPACT_STRINGS" "Z")) s1 (fun _ _ h => by rw [hh3]; exact h) (g := (mkF m 27 #[.val (.ref a), .val (.ref b), .val (.int (Int32.ofNat o)), .val (.int (Int32.ofNat len)), .val .null, .unset] [])) rfl (hb hbytes d27)
  have hh5 := q5.trans hh3
  have c6 : Steps p.tables e below (s₁.setTop (entryFrame m #[.ref a, .ref b, .int (Int32.ofNat o), .int (Int32.ofNat len), .null] 6)) (T5.setTop (mkF m 30 #[.val (.ref a), .val (.ref b), .val (.int (Int32.ofNat o)), .val (.int (Int32.ofNat len)), .val .null, .unset] [.int z])) := c4.trans (st5 _ (Steps.refl _))
  have c7 : Steps p.tables e below (s₁.setTop (entryFrame m #[.ref a, .ref b, .int (Int32.ofNat o), .int (Int32.ofNat len), .null] 6)) (T5.setTop (mkF m 36 #[.val (.ref a), .val (.ref b), .val (.int (Int32.ofNat o)), .val (.int (Int32.ofNat len)), .val .null, .unset] [.int (Int32.ofNat len), .int (Int32.ofNat o), .ref b])) := c6.trans (by
    refine XS.ifNo X5.here hexec rfl (hb hbytes d30) rfl (i0_eq_f hz) ?_
    refine XS.aloadN X5.here hexec rfl (hb hbytes d33) rfl rfl ?_
    refine XS.iloadN X5.here hexec rfl (hb hbytes d34) rfl ?_
    refine XS.iloadN X5.here hexec rfl (hb hbytes d35) rfl ?_
    exact Steps.refl _)
  obtain ⟨v8, T8, X8, E8, g8⟩ := X5.callS hexec (Cmp3.law l b A o len) hown (wks W (staticW "java/lang/String" 177 Cmp3.yN)) (wk W Cmp3.tab) (W := 0) (Nat.le_of_ble_eq_true rfl) (Nat.le_of_ble_eq_true rfl) (Nat.le_refl _) (by show 0 + len ≤ len; omega) (g := (mkF m 36 #[.val (.ref a), .val (.ref b), .val (.int (Int32.ofNat o)), .val (.int (Int32.ofNat len)), .val .null, .unset] [.int (Int32.ofNat len), .int (Int32.ofNat o), .ref b])) rfl (by rw [hml]; rfl) c7 (argsL := [.ref b, .int (Int32.ofNat o), .int (Int32.ofNat len)]) (rest := []) rfl rfl (by show 2 * 0 + 0 ≤ _; decide) (hb hbytes d36) (⟨rfl, hA.mv X5.warmed.alike hh5, l1, l2, hp⟩)
  obtain ⟨e8, z8⟩ := E8
  obtain ⟨rfl, N, n1, n2, n3, n4, n5, n6⟩ := NewArr.mv _ T5 s _ _ hh5.symm (Vm.Alike.refl _) rfl e8
  rw [hh5] at z8
  have hB1 := hB.keep X8.warmed.alike (n6 _ _ hB.1)
  have hne : s.heap.size ≠ a := (Nat.ne_of_lt (Array.getElem?_eq_some_iff.mp hB.1).1).symm
  have c9 : Steps p.tables e below (s₁.setTop (entryFrame m #[.ref a, .ref b, .int (Int32.ofNat o), .int (Int32.ofNat len), .null] 6)) (T8.setTop (mkF m 39 #[.val (.ref a), .val (.ref b), .val (.int (Int32.ofNat o)), .val (.int (Int32.ofNat len)), .val .null, .unset] [.ref s.heap.size])) := g8
  have c10 : Steps p.tables e below (s₁.setTop (entryFrame m #[.ref a, .ref b, .int (Int32.ofNat o), .int (Int32.ofNat len), .null] 6)) (T8.setTop (mkF m 45 #[.val (.ref a), .val (.ref b), .val (.int (Int32.ofNat o)), .val (.int (Int32.ofNat len)), .val .null, .val (.ref s.heap.size)] [.int (Int32.ofNat N.slots.size), .ref s.heap.size, .ref a])) := by
    have hc : Steps p.tables e below (s₁.setTop (entryFrame m #[.ref a, .ref b, .int (Int32.ofNat o), .int (Int32.ofNat len), .null] 6)) (T8.setTop (mkF m 45 #[.val (.ref a), .val (.ref b), .val (.int (Int32.ofNat o)), .val (.int (Int32.ofNat len)), .val .null, .val (.ref s.heap.size)] [.int (Int32.ofNat len), .ref s.heap.size, .ref a])) := c9.trans (by
      refine XS.astore X8.here hexec rfl (hb hbytes d39) rfl rfl rfl ?_
      refine XS.aloadN X8.here hexec rfl (hb hbytes d41) rfl rfl ?_
      refine XS.aload X8.here hexec rfl (hb hbytes d42) rfl rfl ?_
      refine XS.iloadN X8.here hexec rfl (hb hbytes d44) rfl ?_
      exact Steps.refl _)
    rw [n4]; exact hc
  obtain ⟨v11, T11, X11, E11, g11⟩ := X8.callS hexec (CodL.law l s.heap.size N) hown (wks W (staticW "java/lang/String" 47 CodL.yN)) (wk W CodL.tab) (W := 1) (Nat.le_of_ble_eq_true rfl) (Nat.le_of_ble_eq_true rfl) (Nat.le_refl _) (by show 0 + len + 0 ≤ len; omega) (g := (mkF m 45 #[.val (.ref a), .val (.ref b), .val (.int (Int32.ofNat o)), .val (.int (Int32.ofNat len)), .val .null, .val (.ref s.heap.size)] [.int (Int32.ofNat N.slots.size), .ref s.heap.size, .ref a])) rfl (by rw [hml]; rfl) c10 (argsL := [.ref s.heap.size, .int (Int32.ofNat N.slots.size)]) (rest := [.ref a]) rfl rfl (by show 2 * 0 + (1 + 0) ≤ _; decide) (hb hbytes d45) (⟨rfl, n1⟩)
  obtain ⟨rfl, q11⟩ := E11
  have hB11 := hB1.mv (X8.warmed.alike.symm.trans X11.warmed.alike) q11
  have c12 : Steps p.tables e below (s₁.setTop (entryFrame m #[.ref a, .ref b, .int (Int32.ofNat o), .int (Int32.ofNat len), .null] 6)) (T11.setTop (mkF m 48 #[.val (.ref a), .val (.ref b), .val (.int (Int32.ofNat o)), .val (.int (Int32.ofNat len)), .val .null, .val (.ref s.heap.size)] [.int 0, .ref a])) := g11
  obtain ⟨T13, X13, p13, bl13, sl13, st13⟩ := X11.finit hexec hown (wk W (.fieldLink "java/lang/String" 15 "java/lang/String" "coder" "B")) (Or.inr ⟨_, (wk W (.laysFinal "java/lang/String" "java/lang/String" "coder" "B"))⟩) (Or.inl ⟨rfl, hnm⟩) f2 (Or.inl rfl) hB11 (t := .byte) (by decide +kernel) rfl (g := (mkF m 48 #[.val (.ref a), .val (.ref b), .val (.int (Int32.ofNat o)), .val (.int (Int32.ofNat len)), .val .null, .val (.ref s.heap.size)] [.int 0, .ref a])) rfl (rest := []) rfl (hb hbytes d48)
  have c14 : Steps p.tables e below (s₁.setTop (entryFrame m #[.ref a, .ref b, .int (Int32.ofNat o), .int (Int32.ofNat len), .null] 6)) (T13.setTop (mkF m 54 #[.val (.ref a), .val (.ref b), .val (.int (Int32.ofNat o)), .val (.int (Int32.ofNat len)), .val .null, .val (.ref s.heap.size)] [.ref s.heap.size, .ref a])) := (c12.trans (st13 _ (Steps.refl _))).trans (by
    refine XS.aloadN X13.here hexec rfl (hb hbytes d51) rfl rfl ?_
    refine XS.aload X13.here hexec rfl (hb hbytes d52) rfl rfl ?_
    exact Steps.refl _)
  obtain ⟨T15, X15, p15, bl15, sl15, st15⟩ := X13.finit hexec hown (wk W (.fieldLink "java/lang/String" 9 "java/lang/String" "value" "[B")) (Or.inr ⟨_, (wk W (.laysFinal "java/lang/String" "java/lang/String" "value" "[B"))⟩) (Or.inl ⟨rfl, hnm⟩) f1 (Or.inl rfl) bl13 (t := (.array .byte)) (by decide +kernel) rfl (g := (mkF m 54 #[.val (.ref a), .val (.ref b), .val (.int (Int32.ofNat o)), .val (.int (Int32.ofNat len)), .val .null, .val (.ref s.heap.size)] [.ref s.heap.size, .ref a])) rfl (rest := []) rfl (hb hbytes d54)
  have c16 : Steps p.tables e below (s₁.setTop (entryFrame m #[.ref a, .ref b, .int (Int32.ofNat o), .int (Int32.ofNat len), .null] 6)) (T15.setTop (mkF m 57 #[.val (.ref a), .val (.ref b), .val (.int (Int32.ofNat o)), .val (.int (Int32.ofNat len)), .val .null, .val (.ref s.heap.size)] [])) := c14.trans (st15 _ (Steps.refl _))
  have ap := apart (Or.inr ⟨_, (wk W (.laysFinal "java/lang/String" "java/lang/String" "value" "[B"))⟩) (Or.inr ⟨_, (wk W (.laysFinal "java/lang/String" "java/lang/String" "coder" "B"))⟩) f1 f2 (t₁ := .array .byte) (t₂ := .byte) (by decide +kernel) (by decide +kernel) (by decide)
  have al := X8.warmed.alike.symm.trans X15.warmed.alike
  have n7 : T11.heap[s.heap.size]? = some N := by rw [q11]; exact n1.1
  exact ⟨T15, none, _, _, _, X15, by simp, rfl, by omega, (fun _ => rfl), ⟨rfl, _, N, bl15, ((Same.refl D _).set _ (by simp)).set _ (by simp), sl15, (Cell.slots_setSlot_ne _ ap).trans sl13, n1.keep al (p15.other hne (p13.other hne n7)), n2, by rw [al.findClass]; exact n3, n4, n5, fun y c h1 h2 => p15.other h1 (p13.other h1 (by rw [q11]; exact n6 y c h2)), by rw [p15.2.2, p13.2.2, q11]; exact z8⟩, fun fs hl => c16.trans (X15.returnOut hexec hret (hb hbytes d57) hl)⟩
end New4
namespace New1
def yN : MethodName := ⟨"java/lang/String", "<init>", "([C)V"⟩
abbrev yB : ByteArray := jdk_42_method_3_code
theorem d0 : decode yB 0 = .ok (.aload_n 0, 1) := by decide +kernel
theorem d1 : decode yB 1 = .ok (.aload_n 1, 1) := by decide +kernel
theorem d2 : decode yB 2 = .ok (.iconst 0, 1) := by decide +kernel
theorem d3 : decode yB 3 = .ok (.aload_n 1, 1) := by decide +kernel
theorem d4 : decode yB 4 = .ok (.arraylength, 1) := by decide +kernel
theorem d5 : decode yB 5 = .ok (.aconst_null, 1) := by decide +kernel
theorem d6 : decode yB 6 = .ok (.invokespecial 27, 3) := by decide +kernel
theorem d9 : decode yB 9 = .ok (.return_, 1) := by decide +kernel
def site : List Cond := [New4.tab] ++ initW "java/lang/String" 27 New4.yN
def tab : Cond := tabOf yN yB 2 none site
def P (a : Addr) (D : Cell) (fV fC : Field) (b : Addr) (A : Cell) (z : Int32) (args : Array Value) (s : State) : Prop := args = #[.ref a, .ref b] ∧ Blank "java/lang/String" a D s ∧ Found "java/lang/String" "value" "[B" fV s ∧ Found "java/lang/String" "coder" "B" fC s ∧ Ch b A s ∧ StaticIs s "java/lang/String" "COMPACT_STRINGS" "Z" (.int z) ∧ ¬ z = 0 ∧ 0 < A.slots.size ∧ A.slots.size ≤ 536870912 ∧ ∀ i, i < A.slots.size → ¬ 255 < cv A i
def E (a : Addr) (D : Cell) (fV fC : Field) (A : Cell) (r : Option Value) (s u : State) : Prop := Got a D fV fC A 0 A.slots.size r s u
/-- new String(chars), not empty, no char above 255: a Latin-1 String of their low bytes -/
theorem law (l : Launch) (a : Addr) (D : Cell) (fV fC : Field) (b : Addr) (A : Cell) (z : Int32) : Law l yN 2 1 3 52 yB 2 none site (P a D fV fC b A z) (E a D fV fC A) [⟨a, fC.slot⟩, ⟨a, fV.slot⟩] 1 A.slots.size := by
  refine Law.of_walk (plainFor_of_name (by decide +kernel)) (by decide +kernel) (by decide +kernel) (by decide) (fun _ _ h => by rw [h.1]; rfl) (fun _ U U' hal hh h => ⟨h.1, h.2.1.mv hal hh, h.2.2.1.al hal, h.2.2.2.1.al hal, h.2.2.2.2.1.mv hal hh, h.2.2.2.2.2.1.there hal hh, h.2.2.2.2.2.2⟩) (fun r U U' V V' h1 hal h2 h => Got.mv r U U' V V' h1 hal h2 h) ?_
  intro p e s m args below meth c s₁ X0 hexec hbytes hml hret hlk hnm hown hh0 W hP
  obtain ⟨rfl, hB, f1, f2, hA, s1, hz, l0, l2, hp⟩ := hP
  have c1 : Steps p.tables e below (s₁.setTop (entryFrame m #[.ref a, .ref b] 2)) (s₁.setTop (mkF m 0 #[.val (.ref a), .val (.ref b)] [])) := entry rfl
  have c2 : Steps p.tables e below (s₁.setTop (entryFrame m #[.ref a, .ref b] 2)) (s₁.setTop (mkF m 6 #[.val (.ref a), .val (.ref b)] [.null, .int (Int32.ofNat A.slots.size), .int 0, .ref b, .ref a])) := c1.trans (by
    refine XS.aloadN X0.here hexec rfl (hb hbytes d0) rfl rfl ?_
    refine XS.aloadN X0.here hexec rfl (hb hbytes d1) rfl rfl ?_
    refine iconstV X0.here hexec rfl 0 (hb hbytes d2) (by decide) ?_
    refine XS.aloadN X0.here hexec rfl (hb hbytes d3) rfl rfl ?_
    refine X0.alen hexec (hA.1.mv X0.warmed.alike hh0) rfl rfl (hb hbytes d4) ?_
    refine XS.aconstNull X0.here hexec rfl (hb hbytes d5) ?_
    exact Steps.refl _)
  obtain ⟨v3, T3, X3, E3, g3⟩ := X0.callN hexec (New4.law l a D fV fC b A z 0 A.slots.size) rfl hown (wks W (initW "java/lang/String" 27 New4.yN)) (W New4.tab (by simp only [site, List.mem_cons, List.mem_append, true_or, or_true])) (W := 0) (Nat.le_of_ble_eq_true rfl) (Nat.le_of_ble_eq_true rfl) (Nat.le_refl _) (by show 0 + A.slots.size ≤ A.slots.size; omega) (g := (mkF m 6 #[.val (.ref a), .val (.ref b)] [.null, .int (Int32.ofNat A.slots.size), .int (Int32.ofNat 0), .ref b, .ref a])) rfl (by rw [hml]; rfl) c2 (argsL := [.ref b, .int (Int32.ofNat 0), .int (Int32.ofNat A.slots.size), .null]) (rest := []) rfl rfl (by show 2 * 0 + 0 ≤ _; decide) (hb hbytes d6) (⟨rfl, hB.mv X0.warmed.alike hh0, f1.al X0.warmed.alike, f2.al X0.warmed.alike, hA.mv X0.warmed.alike hh0, s1.there X0.warmed.alike hh0, hz, l0, by omega, l2, fun i hi => by rw [Nat.zero_add]; exact hp i hi⟩)
  have e0 := Got.mv _ s₁ s _ _ hh0.symm (Vm.Alike.refl _) rfl E3
  obtain rfl := e0.1
  have c4 : Steps p.tables e below (s₁.setTop (entryFrame m #[.ref a, .ref b] 2)) (T3.setTop (mkF m 9 #[.val (.ref a), .val (.ref b)] [])) := g3
  exact ⟨T3, none, _, _, _, X3, by simp, rfl, by omega, (fun _ => rfl), e0, fun fs hl => c4.trans (X3.returnOut hexec hret (hb hbytes d9) hl)⟩
theorem pays {l : Launch} {R : Room} {p : Program} {e : Env} {below : List Frame} {s : State} {sargs : Array Value} {len W : Nat} (a : Addr) (D : Cell) (fV fC : Field) (b : Addr) (A : Cell) (z : Int32) (htab : tab.before sargs s = true) (hfr : 4 ≤ R.frames) (hlo : W + 65 ≤ R.locals) :
    Back l R p e below s sargs yN len W (fun A₁ a₁ => A₁.cells + 1 ≤ R.cells ∧ A₁.slots + A.slots.size ≤ R.slots ∧ P a D fV fC b A z a₁ A₁.U) (fun A₁ _ v₁ B₁ => E a D fV fC A v₁ A₁.U B₁.U ∧ B₁.locs = A₁.locs ++ [⟨a, fC.slot⟩, ⟨a, fV.slot⟩] ∧ B₁.cells = A₁.cells + 1 ∧ B₁.slots = A₁.slots + A.slots.size) :=
  (law l a D fV fC b A z).pays htab hfr (by omega)
end New1
end StrChars
namespace StrChars.Road
open Jvm Sem ClassFile Op Lib Jvm.Stand Jvm.Free Jvm.Free.XT
open Jvm.Lib.Cold (StaticIs)
abbrev ST : String := "java/lang/String"
/-- every table word that New1's law asks, flat -/
abbrev words : List Jvm.Cond := [.code New1.yN New1.yB 2 none, .initialized ST, .methodLink ST 27 New4.yN, .instanceMethod New4.yN,
  .code New4.yN New4.yB 6 none, .fieldLink ST 38 ST "COMPACT_STRINGS" "Z", .laysFinal ST ST "value" "[B", .fieldLink ST 9 ST "value" "[B", .laysFinal ST ST "coder" "B", .fieldLink ST 15 ST "coder" "B",
  .methodLink ST 1 Lib.objectInit, .instanceMethod Lib.objectInit, .code Lib.objectInit ⟨#[0xb1]⟩ 1 none, .methodLink ST 177 Cmp3.yN, .static Cmp3.yN, .methodLink ST 47 CodL.yN, .static CodL.yN,
  .code Cmp3.yN Cmp3.yB 6 (some (.array .byte)), .initialized U16, .arrayClass .byte, .methodLink U16 115 Cmp5.yN, .static Cmp5.yN, .code Cmp5.yN Cmp5.yB 7 (some .int), .code CodL.yN CodL.yB 2 (some .byte)]
theorem tab_of {a : Array Value} {s : State} (h : ∀ w ∈ words, w.before a s = true) : New1.tab.before a s = true := by
  have h5 : Cmp5.tab.before a s = true := unparts (wk h (.code Cmp5.yN Cmp5.yB 7 (some .int))) (wks h (.initialized Cmp5.yN.cls :: Cmp5.site))
  have hc : CodL.tab.before a s = true := unparts (wk h (.code CodL.yN CodL.yB 2 (some .byte))) (wks h (.initialized CodL.yN.cls :: CodL.site))
  have q5 : ∀ w ∈ Cmp5.tab :: words, w.before a s = true := fun w hw => (List.mem_cons.mp hw).elim (fun e => e ▸ h5) (h w)
  have h3 : Cmp3.tab.before a s = true := unparts (wk q5 (.code Cmp3.yN Cmp3.yB 6 (some (.array .byte)))) (wks q5 (.initialized Cmp3.yN.cls :: Cmp3.site))
  have q3 : ∀ w ∈ Cmp3.tab :: CodL.tab :: words, w.before a s = true := fun w hw => (List.mem_cons.mp hw).elim (fun e => e ▸ h3) fun hw => (List.mem_cons.mp hw).elim (fun e => e ▸ hc) (h w)
  have h4 : New4.tab.before a s = true := unparts (wk q3 (.code New4.yN New4.yB 6 none)) (wks q3 (.initialized New4.yN.cls :: New4.site))
  have q4 : ∀ w ∈ New4.tab :: words, w.before a s = true := fun w hw => (List.mem_cons.mp hw).elim (fun e => e ▸ h4) (h w)
  exact unparts (wk q4 (.code New1.yN New1.yB 2 none)) (wks q4 (.initialized New1.yN.cls :: New1.site))
/-- the words ride from the start Z to the walk's own state -/
theorem moved {Z s : State} {a0 args : Array Value} (hZ : Z.Warmed39 s.vm) (hw : ∀ d ∈ words, d.before a0 Z = true) : ∀ d ∈ words, d.before args s = true := fun d hd => by
  have q := hw d hd
  have t : ∀ d ∈ words, d = .arrayClass .byte ∨ (d.onTables && d.keepsFace) = true := by decide +kernel
  rcases t d hd with rfl | t
  · exact RoadKit.mvA hZ q
  · exact RoadKit.mv hZ q t
/-- WHAT COMES BACK, over the tables of the start Z: h the heap at the call, h' behind it -/
def Q (Z : State) (x : Addr) (A : Cell) (h : Heap) (v : Option Value) (h' : Heap) (L : List Loc) : Prop := v = none ∧ (∀ y ∈ L, y.base = x) ∧ RoadKit.Keep h h' [x] ∧ h'.size = h.size + 1 ∧ RoadKit.Exa Z h' x ST ∧ RoadKit.Fld Z h' x ST "value" "[B" (.ref h.size) ∧ RoadKit.Fld Z h' x ST "coder" "B" (.int 0) ∧
  (∃ V : Cell, RoadKit.Arr Z h' h.size V .byte ∧ V.vm = .none ∧ Z.vm.findClass "[B" = some V.cls ∧ V.slots.size = A.slots.size ∧ ∀ j, j < A.slots.size → V.slots[j]? = some (.int (lo8 (cv A j)))) ∧
  ∀ (O n d : String) (w : Value), RoadKit.Fld Z h x O n d w → RoadKit.slotOf Z O n d ≠ RoadKit.slotOf Z ST "value" "[B" → RoadKit.slotOf Z O n d ≠ RoadKit.slotOf Z ST "coder" "B" → RoadKit.Fld Z h' x O n d w
/-- **new String(chars) AT A CALL, IN THE ROAD'S FORM**: for specialBack behind newO: x the fresh String, b the char[] with the cell A -/
theorem back {p : Program} {l : Launch} {e : Env} {R : Room} {s : State} {args : Array Value} {below : List Frame} {len W : Nat} {Z : State} {a0 : Array Value} {h : Heap} (hZ : Z.Warmed39 s.vm) (hw : ∀ d ∈ words, d.before a0 Z = true) {kI : Nat} (wi : (Jvm.Cond.instantiable ST kI).before a0 Z = true)
    {x b : Addr} {A : Cell} {z : Int32} {v0 c0 : Value} (E : RoadKit.Exa Z h x ST) (V : RoadKit.Fld Z h x ST "value" "[B" v0) (C : RoadKit.Fld Z h x ST "coder" "B" c0) (K : RoadKit.Arr Z h b A .char) (hty : Typed .char A) (S : RoadKit.Sta Z h ST "COMPACT_STRINGS" "Z" (.int z)) (hz : ¬ z = 0)
    (l0 : 0 < A.slots.size) (l2 : A.slots.size ≤ 536870912) (hp : ∀ i, i < A.slots.size → ¬ 255 < cv A i) (hfr : 4 ≤ R.frames) (hlo : W + 65 ≤ R.locals) :
    Back l R p e below s args New1.yN len W (fun P a => a = #[.ref x, .ref b] ∧ P.U.heap = h ∧ P.cells + 1 ≤ R.cells ∧ P.slots + A.slots.size ≤ R.slots)
      (fun P _ v B => ∃ L, Q Z x A h v B.U.heap L ∧ B.locs = P.locs ++ L ∧ B.cells = P.cells + 1 ∧ B.slots = P.slots + A.slots.size) := by
  intro m meth c P g ig mk a X hg hsize hdg hW hn hp'
  obtain ⟨rfl, rfl, r1, r2⟩ := hp'
  have al : Z.vm.Alike P.U.vm := hZ.alike.trans X.warmed.alike
  obtain ⟨D, cfV, kV, iV, fV, hD, gV, stV, knV, obV, asV, slV⟩ := id V
  obtain ⟨D', cfC, kC, iC, fC, hD', gC, stC, -, -, asC, slC⟩ := id C
  cases hD.symm.trans hD'
  obtain ⟨D2, kD, e1, e2, e3, e4, e5⟩ := id E
  cases hD.symm.trans e1
  obtain ⟨c2, k2, i1, i2, i3, -⟩ := Cond.instantiable_spec wi
  cases e2.symm.trans i1
  cases e3.symm.trans i2
  obtain ⟨kU, u1, u2⟩ := al.2.2 _ _ e3
  have hB : Blank ST x D P.U := ⟨hD, ⟨knV, fun q hq => by rw [hq] at obV; cases obV⟩, by rw [al.findClass]; exact e2, kU, u1, by rw [u2]; exact i3, by rw [u2]; exact e5 i3⟩
  have F1 : Found ST "value" "[B" fV P.U := ⟨SBG.found_only al ⟨cfV, kV, iV, gV⟩, stV⟩
  have F2 : Found ST "coder" "B" fC P.U := ⟨SBG.found_only al ⟨cfC, kC, iC, gC⟩, stC⟩
  have hA : Ch b A P.U := ⟨⟨K.1, State.isArrayOf_alike al K.2.1, K.2.2, by omega⟩, hty⟩
  have hS : StaticIs P.U ST "COMPACT_STRINGS" "Z" (.int z) := by
    obtain ⟨cfS, iS, kS, fS, st, cS, t1, t2, t3, t4, t5, t6, t7⟩ := S
    exact StaticIs.there (s := { Z with heap := P.U.heap }) ⟨cfS, iS, kS, fS, st, cS, t1, t2, t3, t4, t5, (fun q => by rw [q] at t6; cases t6), t7⟩ al rfl
  obtain ⟨v, B, X', ⟨⟨hv, E', V', q1, q2, q3, q4, q5, q6, q7, q8, q9, q10, q11⟩, hl, hc, hs⟩, st⟩ := New1.pays x D fV fC b A z (tab_of (moved hZ hw)) hfr hlo m meth c P g ig mk _ X hg hsize hdg hW hn ⟨r1, r2, rfl, hB, F1, F2, hA, hS, hz, l0, l2, hp⟩
  have al' : Z.vm.Alike B.U.vm := hZ.alike.trans X'.warmed.alike
  have hsz : E'.slots.size = D.slots.size := by
    obtain ⟨-, -, -, kB, w1, w2, w3⟩ := q1
    obtain ⟨kB', y1, y2⟩ := al'.2.2 _ _ e3
    rw [q2.2.1] at w1
    cases w1.symm.trans y1
    rw [w3, e5 i3, y2]
  refine ⟨v, B, X', ⟨_, ⟨hv, ?_, ⟨by omega, fun y cy hy hn' => q10 y cy (by simpa using hn') hy, fun y cy hy => ?_⟩, q11, ⟨E', _, q1.1, by rw [q2.2.1]; exact e2, by rw [q2.2.1]; exact e3, by rw [q2.1]; exact obV, fun _ => by rw [hsz]; exact e5 i3⟩,
    ⟨E', cfV, kV, iV, fV, q1.1, gV, stV, by rw [q2.1]; exact knV, by rw [q2.1]; exact obV, by rw [q2.2.1]; exact asV, q3⟩, ⟨E', cfC, kC, iC, fC, q1.1, gC, stC, by rw [q2.1]; exact knV, by rw [q2.1]; exact obV, by rw [q2.2.1]; exact asC, q4⟩,
    ⟨V', ⟨q5.1, State.isArrayOf_alike al'.symm q5.2.1, q5.2.2.1⟩, q6, by rw [← al'.findClass]; exact q7, q8, fun j hj => by have := q9 j hj; rwa [Nat.zero_add] at this⟩, fun O n d w F n1 n2 => ?_⟩, hl, hc, hs⟩, st⟩
  · intro y hy
    simp only [List.mem_cons, List.not_mem_nil, or_false] at hy
    rcases hy with rfl | rfl <;> rfl
  · by_cases q : y = x
    · subst q
      cases hD.symm.trans hy
      exact ⟨E', q1.1, q2.2.1, q2.1, hsz⟩
    · exact ⟨cy, q10 y cy q hy, rfl, rfl, rfl⟩
  · obtain ⟨D3, cf, k, i, f, g1, g2, g3, g4, g5, g6, g7⟩ := F
    cases hD.symm.trans g1
    simp only [RoadKit.slotOf, g2, gV, gC, Option.map_some, Option.getD_some] at n1 n2
    exact ⟨E', cf, k, i, f, q1.1, g2, g3, by rw [q2.1]; exact g4, by rw [q2.1]; exact g5, by rw [q2.2.1]; exact g6, by rw [q2.2.2 f.slot (by simp [n1, n2])]; exact g7⟩
end StrChars.Road
namespace StrChars.Road
open Jvm Sem ClassFile Op Lib Jvm.Stand Jvm.Free Jvm.Free.XT
/-- WHAT COMES BACK, the byte[] as a list of values -/
def QA (Z : State) (x : Addr) (zn : Int32) (cs : List Int32) (h : Heap) (v : Option Value) (h' : Heap) (L : List Loc) : Prop := v = none ∧ (∀ y ∈ L, y.base = x) ∧ RoadKit.Keep h h' [x] ∧ h'.size = h.size + 1 ∧ RoadKit.Exa Z h' x ST ∧ RoadKit.Fld Z h' x ST "value" "[B" (.ref h.size) ∧ RoadKit.Fld Z h' x ST "coder" "B" (.int 0) ∧
  (∃ kb, Z.vm.findClass "[B" = some kb ∧ RoadKit.Arv Z h' h.size kb .byte zn (cs.map fun c => .int (lo8 c)) (.int 0)) ∧
  ∀ (O n d : String) (w : Value), RoadKit.Fld Z h x O n d w → RoadKit.slotOf Z O n d ≠ RoadKit.slotOf Z ST "value" "[B" → RoadKit.slotOf Z O n d ≠ RoadKit.slotOf Z ST "coder" "B" → RoadKit.Fld Z h' x O n d w
/-- **new String(chars) AT A CALL, THE ARRAYS AS LISTS**: the char[] at b holds cs, not empty, no char above 255 -/
theorem backArv {p : Program} {l : Launch} {e : Env} {R : Room} {s : State} {args : Array Value} {below : List Frame} {len W : Nat} {Z : State} {a0 : Array Value} {h : Heap} (hZ : Z.Warmed39 s.vm) (hw : ∀ d ∈ words, d.before a0 Z = true) {kI : Nat} (wi : (Jvm.Cond.instantiable ST kI).before a0 Z = true)
    {x b : Addr} {k : ClassId} {zn z : Int32} {cs : List Int32} {dv v0 c0 : Value} (E : RoadKit.Exa Z h x ST) (V : RoadKit.Fld Z h x ST "value" "[B" v0) (C : RoadKit.Fld Z h x ST "coder" "B" c0) (K : RoadKit.Arv Z h b k .char zn (cs.map Value.int) dv) (S : RoadKit.Sta Z h ST "COMPACT_STRINGS" "Z" (.int z)) (hz : ¬ z = 0)
    (hlen : zn.toNatClampNeg = cs.length) (h0 : 0 < cs.length) (hbig : cs.length ≤ 536870912) (hall : ∀ c ∈ cs, ¬ 255 < c) (hfr : 4 ≤ R.frames) (hlo : W + 65 ≤ R.locals) :
    Back l R p e below s args New1.yN len W (fun P a => a = #[.ref x, .ref b] ∧ P.U.heap = h ∧ P.cells + 1 ≤ R.cells ∧ P.slots + cs.length ≤ R.slots)
      (fun P _ v B => ∃ L, QA Z x zn cs h v B.U.heap L ∧ B.locs = P.locs ++ L ∧ B.cells = P.cells + 1 ∧ B.slots = P.slots + cs.length) := by
  obtain ⟨A, K1, K2, K3, K4, K5, K6⟩ := K
  have e : A.slots.size = cs.length := K3.trans hlen
  have hat : ∀ (i : Nat) (hi : i < cs.length), A.slots[i]? = some (.int cs[i]) := fun i hi => by rw [K5 i (by omega)]; simp [List.getD_eq_getElem?_getD, hi]
  have hcv : ∀ (i : Nat) (hi : i < cs.length), cv A i = cs[i] := fun i hi => by unfold cv; rw [hat i hi]
  have hty : Typed .char A := fun i v hv => by
    have hi : i < A.slots.size := (Array.getElem?_eq_some_iff.mp hv).1
    have q := K5 i hi
    rw [hv] at q
    rw [Option.some.inj q]
    exact K6 i hi
  refine Back.mono (back hZ hw wi E V C K1 hty S hz (by omega) (by omega) (fun i hi => by rw [hcv i (by omega)]; exact hall _ (List.getElem_mem _)) hfr hlo) (fun P a hp => ⟨hp.1, hp.2.1, hp.2.2.1, by rw [e]; exact hp.2.2.2⟩) (fun P a v B hp hq => ?_)
  obtain ⟨L, ⟨q1, q2, q3, q4, q5, q6, q7, ⟨V', v1, v2, v3, v4, v5⟩, q9⟩, hl, hc, hs⟩ := hq
  refine ⟨L, ⟨q1, q2, q3, q4, q5, q6, q7, ⟨V'.cls, v3, V', v1, rfl, by rw [v4, e, hlen], K4, fun i hi => ?_, fun i hi => ?_⟩, q9⟩, hl, hc, by rw [hs, e]⟩
  · have hi' : i < cs.length := by omega
    rw [v5 i (by omega), hcv i hi']; simp [List.getD_eq_getElem?_getD, hi']
  · have hi' : i < cs.length := by omega
    simp only [List.getD_eq_getElem?_getD, List.getElem?_map, List.getElem?_eq_getElem hi', Option.map_some, Option.getD_some]
    exact fits_lo8 _
end StrChars.Road
namespace StrChars.Road
open Jvm Sem ClassFile Op Lib Jvm.Stand Jvm.Free Jvm.Free.XT
/-- WHAT COMES BACK, in the writer's own shape -/
def QV (Z : State) (x : Addr) (N : Int32) (bs : List Int32) (h : Heap) (n0 : Nat) (v : Option Value) (h' : Heap) (L : List Loc) : Prop := v = none ∧ RoadKit.Fr n0 L ∧ RoadKit.Keep h h' [x] ∧ RoadKit.Exa Z h' x ST ∧ RoadKit.Fld Z h' x ST "coder" "B" (.int 0) ∧
  ∃ (t : Addr) (kb : ClassId), n0 ≤ t ∧ h.size ≤ t ∧ ¬ t = x ∧ RoadKit.Fld Z h' x ST "value" "[B" (.ref t) ∧ RoadKit.Arv Z h' t kb .byte N (bs.map Value.int) (.int 0)
/-- **new String(chars) AT A CALL, FOR THE WRITER**: a char[] of n known ints, each 0 to 255 -/
theorem backV {p : Program} {l : Launch} {e : Env} {R : Room} {s : State} {args : Array Value} {below : List Frame} {len W : Nat} {Z : State} {a0 : Array Value} {h : Heap} (hZ : Z.Warmed39 s.vm) (hw : ∀ d ∈ words, d.before a0 Z = true) {kI : Nat} (wi : (Jvm.Cond.instantiable ST kI).before a0 Z = true)
    {x b : Addr} {kC : ClassId} {cs bs : List Int32} {d v0 c0 : Value} {z N : Int32} {n n0 : Nat} (hx0 : n0 ≤ x) (hh0 : n0 ≤ h.size) (E : RoadKit.Exa Z h x ST) (V : RoadKit.Fld Z h x ST "value" "[B" v0) (C : RoadKit.Fld Z h x ST "coder" "B" c0) (K : RoadKit.Arv Z h b kC .char N (cs.map Value.int) d) (S : RoadKit.Sta Z h ST "COMPACT_STRINGS" "Z" (.int z)) (hz : ¬ z = 0)
    (hn : cs.length = n) (hN : N = Int32.ofNat n) (l0 : 0 < n) (l2 : n ≤ 4000) (hp : ∀ c ∈ cs, ¬ c < 0 ∧ ¬ (255 : Int32) < c) (hb : bs = cs.map (fun c => c.toInt8.toInt32)) (hfr : 4 ≤ R.frames) (hlo : W + 65 ≤ R.locals) :
    Back l R p e below s args (⟨"java/lang/String", "<init>", "([C)V"⟩ : MethodName) len W (fun P a => a = #[.ref x, .ref b] ∧ P.U.heap = h ∧ P.cells + 1 ≤ R.cells ∧ P.slots + n ≤ R.slots)
      (fun P _ v B => ∃ L, QV Z x N bs h n0 v B.U.heap L ∧ B.locs = P.locs ++ L ∧ B.cells = P.cells + 1 ∧ B.slots = P.slots + n) := by
  subst hn hN hb
  refine Back.mono (backArv hZ hw wi E V C K S hz (n32 (by omega)) l0 (by omega) (fun c hc => (hp c hc).2) hfr hlo) (fun P a hp => hp) (fun P a v B hp hq => ?_)
  obtain ⟨L, ⟨q1, q2, q3, q4, q5, q6, q7, ⟨kb, v1, v2⟩, q9⟩, hl, hc, hs⟩ := hq
  exact ⟨L, ⟨q1, fun y hy => by rw [q2 y hy]; exact hx0, q3, q5, q7, h.size, kb, hh0, Nat.le_refl _, Nat.ne_of_gt E.lt, q6, by rw [List.map_map]; exact v2⟩, hl, hc, hs⟩
end StrChars.Road
end Jvm.Pilot.@@N@@
namespace Jvm.Pilot.@@N@@
open Jvm Jvm.ClassFile Sem Op Lib Jvm.Free Jvm.Stand Jvm.LawKit Jvm.RoadKit Bundle Jvm.Pilot.@@N@@.Jvm.D
theorem own_z0 {Z : State} {n0 : Nat} {h : Heap} (X : Old Z n0 h) : n0 ≤ h.size := X.1 ▸ X.2.1
theorem own_insKeep {Z : State} {h h' : Heap} {ws : List Addr} {a : Addr} {C : String} (F : Ins Z h a C true) (K : Keep h h' ws) : Ins Z h' a C true := by
  obtain ⟨cell, cT, h1, h2, h3⟩ := F
  obtain ⟨c', q, r1, r2, r3⟩ := K.2.2 a cell h1
  exact ⟨c', cT, q, h2, by rw [r1, r2]; exact h3⟩
theorem own_neArv {Z : State} {h : Heap} {a b : Addr} {C : String} {a0 : Array Value} {k : Nat} {kk : ClassId} {ty : FieldType} {z : Int32} {vs : List Value} {d : Value} (F : Exa Z h a C) (wi : (Cond.instantiable C k).before a0 Z = true) (G : Arv Z h b kk ty z vs d) : a ≠ b := by
  obtain ⟨c, A, -⟩ := G
  exact ne_arr F wi A
theorem own_mvM {Z s : State} {a0 args : Array Value} {own host : String} {index : Nat} {y : MethodName} (hZ : Z.Warmed39 s.vm) (w : (Cond.methodLinkNest own index y host).before a0 Z = true) : (Cond.methodLinkNest own index y host).before args s = true := (Cond.methodLinkNest_wide hZ w :)
theorem own_eqI {args : Array Value} {s : State} {t : Term} {k : Int32} (h : (Jvm.Cond.eq t (Jvm.Term.int k)).value args s none s [] = some true) : t.eval args s none [] s = some (.int k) := by
  obtain ⟨x, y, e1, e2, k1, k2⟩ := cmp_v (Or.inl h)
  have e3 : y = .int k := (Option.some.inj e2).symm
  subst e3
  obtain ⟨z, rfl⟩ : ∃ z, x = .int z := k2
  rw [e1, gotT (Cond.eq_ints e1 (Term.int_eval k)) h]
theorem own_fldI {args : Array Value} {s : State} {t : Term} {a : Addr} {C n d : String} {k : Int32} (ev : t.eval args s none [] s = some (.ref a)) (h : (Jvm.Cond.eq (Jvm.Term.field t C n d) (Jvm.Term.int k)).value args s none s [] = some true) : Fld s s.heap a C n d (.int k) := Fld.start ((fld_at ev).symm.trans (own_eqI h))
theorem own_len {args : Array Value} {s : State} {t : Term} {a : Addr} {cl : Cell} {k : Int32} (ev : t.eval args s none [] s = some (.ref a)) (hc : s.heap[a]? = some cl) (h : (Jvm.Cond.eq (Jvm.Term.length t) (Jvm.Term.int k)).value args s none s [] = some true) : cl.slots.size < 2 ^ 31 ∧ cl.slots.size.toInt32 = k := by
  have e := own_eqI h
  have e' := e
  obtain ⟨a', cell, h1, h2, h3⟩ := Term.length_spec e
  cases ev.symm.trans h1
  cases hc.symm.trans (State.arrayAt?_spec h2).1
  refine ⟨?_, (Value.int.inj h3).symm⟩
  by_cases q : cl.slots.size < 2147483648
  · exact q
  · simp [Term.eval, ev, h2, q] at e'
theorem own_elem {args : Array Value} {s : State} {t i : Term} {a : Addr} {cl : Cell} {j k : Int32} (ev : t.eval args s none [] s = some (.ref a)) (hc : s.heap[a]? = some cl) (hi : i.eval args s none [] s = some (.int j)) (h : (Jvm.Cond.eq (Jvm.Term.elem t i) (Jvm.Term.int k)).value args s none s [] = some true) : cl.slots[j.toNatClampNeg]? = some (.int k) := (elem_in (own_eqI h) ev hi hc).2
theorem own_narR {w : Value} {n : String} (h : w.isRef = true) : narrow (.object n) w = w := by cases w <;> simp [Value.isRef] at h <;> rfl
theorem own_fitR {w : Value} {n : String} (h : w.isRef = true) : fits (.object n) w = true := by cases w <;> simp [Value.isRef] at h <;> rfl
theorem own_safeNull {Z : State} {EL : List (String × Nat)} {vm : Vm} {h : Heap} {x : Addr} (hal : Z.vm.Alike vm) (E : Exa Z h x "java/lang/String") (F : Fld Z h x "java/lang/String" "value" "[B" .null) : Safe Z EL vm h x := fun B => by
  obtain ⟨cell, k, e1, e2, e3, -, -⟩ := E
  obtain ⟨cl, cf, kf, i, f, g1, g2, -, -, -, -, g7⟩ := F
  cases e1.symm.trans g1
  obtain ⟨p, -, u, a, -, q, -, S, rfl | rfl⟩ := B
  · cases (show h[q.sa]? = some q.sC from S.ha).symm.trans e1
    obtain ⟨cS, ⟨⟨-, -, -, ⟨c1, k1, i1, f1, -⟩, -, -, -, v1, -⟩, -⟩, -⟩ := S
    obtain ⟨k3, e4, -⟩ := State.fieldFound?_setVm (s := Z) hal g2
    have e5 := (show (Wst Z vm h).fieldFound? _ _ _ = _ from e4).symm.trans f1
    simp only [Option.some.injEq, Prod.mk.injEq] at e5
    rw [e5.2.2.2, v1] at g7
    cases g7
  · cases (show h[q.sd]? = some q.SA from S.hd).symm.trans e1
    obtain ⟨cS, -, -, f0, -⟩ := S
    have f1 : Z.vm.findClass "[B" = some q.SA.cls := by rw [← hal.findClass]; exact f0
    obtain ⟨k1, q1, q2⟩ := Vm.findClass_spec f1
    obtain ⟨k2, q3, q4⟩ := Vm.findClass_spec e2
    cases q1.symm.trans q3
    exact absurd (q2.symm.trans q4) (by decide)
theorem own_catR {w : Value} (h : w.isRef = true) : w.category = 1 := by cases w <;> simp [Value.isRef] at h <;> rfl
theorem own_ret {v w : Value} (h : v = w) : some v = some w := congrArg some h
theorem own_selfPriv {Z : State} {a0 : Array Value} {C : String} {y : MethodName} (w : (Cond.selects C y y).before a0 Z = true) (wp : (Cond.privateMethod y).before a0 Z = true) (wi : (Cond.instanceMethod y).before a0 Z = true) (hy : y.cls ≠ "java/lang/invoke/MethodHandle" ∧ y.cls ≠ "java/lang/invoke/VarHandle") : (Cond.selects y.cls y y).before a0 Z = true := by
  obtain ⟨_, _, _, -, -, q3, -, kP, hkP, hkPi⟩ := Cond.selects_spec w
  exact Jvm.Stand.selects_self_of_private (findClass_of_methodNamed q3) hkP hkPi (Cond.privateMethod_at wp) wi hy
theorem own_sameM {Z : State} {a0 : Array Value} {C : String} {y z z' : MethodName} (w1 : (Cond.declares y).before a0 Z = true) (w2 : (Cond.selects C z z').before a0 Z = true) (hc : z'.cls = y.cls) (hy : y.cls ≠ "java/lang/invoke/MethodHandle" ∧ y.cls ≠ "java/lang/invoke/VarHandle") : (Cond.sameMethod y.cls y.cls y.name y.desc).before a0 Z = true := by
  obtain ⟨m, meth, h1, -, -, -⟩ := Cond.declares_spec w1
  obtain ⟨_, _, m2, -, -, q3, -, kP, hkP, hkPi⟩ := Cond.selects_spec w2
  have f1 := findClass_of_methodNamed h1
  have f2 := findClass_of_methodNamed q3
  rw [hc] at f2
  have e : m.cls = m2.cls := Option.some.inj (f1.symm.trans f2)
  rw [← e] at hkP
  have g : Z.methodFound? y.cls y.name y.desc = some m := State.methodFound?_of_named h1 hy
  have h2 : Z.methodNamed? ⟨y.cls, y.name, y.desc⟩ = some m := h1
  simp only [Cond.before, Cond.holds, Cond.value, f1, g, h2, hkP]
  simp [hkPi]
theorem own_nfSel {s : State} {args : Array Value} {C : String} {y z z' : MethodName} (w : (Cond.selects C z z').before args s = true) (hc : z'.cls = y.cls) : NotFace s y := fun r0 h0 => by
  obtain ⟨_, _, m2, -, -, q3, -, kP, hkP, hkPi⟩ := Cond.selects_spec w
  have f1 := findClass_of_methodNamed h0
  have f2 := findClass_of_methodNamed q3
  rw [hc] at f2
  have e : r0.cls = m2.cls := Option.some.inj (f1.symm.trans f2)
  exact ⟨kP, by rw [e]; exact hkP, hkPi⟩
theorem own_zy {x y m n : Nat} (h : x = y ∨ n ≤ x) (hy : m ≤ y) (hn : m ≤ n) : m ≤ x := by rcases h with rfl | q; exact hy; exact Nat.le_trans hn q
theorem own_yy {x y z m n : Nat} (h : x = y ∨ n ≤ x) (hy : y = z ∨ m ≤ y) (hn : m ≤ n) : x = z ∨ m ≤ x := by rcases h with rfl | q; exact hy; exact Or.inr (Nat.le_trans hn q)
theorem own_neY {z x y n : Nat} (h : x = y ∨ n ≤ x) (hy : z ≠ y) (hz : z < n) : z ≠ x := by rcases h with rfl | q; exact hy; exact Nat.ne_of_lt (Nat.lt_of_lt_of_le hz q)
theorem own_safeY {Z : State} {EL : List (String × Nat)} {vm : Vm} {h : Heap} {x y : Addr} (q : x = y ∨ h.size ≤ x) (S : Safe Z EL vm h y) : Safe Z EL vm h x := by
  rcases q with rfl | q
  · exact S
  · exact Safe.new q
theorem own_cut {G : Prop} (P : Prop → Prop) (h1 : P G) (h2 : P G → G) : G := h2 h1
theorem own_loop {G : Prop} (P : Nat → Prop → Prop) (h1 : ∀ k, (∀ j, j < k → P j G) → P k G) (h2 : (∀ k, P k G) → G) : G := h2 fun k => Nat.strongRecOn k h1
theorem w_107 : (Jvm.Cond.stringLink "java/lang/StringLatin1" (151 : Nat) "") ∈ tables_1 := List.mem_of_getElem? (i := 107) (by decide +kernel)
theorem w_15 : (Jvm.Cond.stringLink "java/lang/String" (7 : Nat) "") ∈ tables_1 := List.mem_of_getElem? (i := 15) (by decide +kernel)
def own_EL : List (String × Nat) := [("java/lang/String", 7), ("java/lang/StringLatin1", 151)]
theorem own_EW {Z : State} {a0 : Array Value} (hw : ∀ d ∈ tables_1, d.before a0 Z = true) : EW Z a0 own_EL := (EW.cons (hw _ w_15) (by decide) (EW.cons (hw _ w_107) (by decide) EW.nil))
theorem own_wS {Z : State} {a0 : Array Value} (hw : ∀ d ∈ tables_1, d.before a0 Z = true) : ∀ d ∈ Bundle.stringAtoms, d.before a0 Z = true := fun d hd => hw d ((by decide +kernel : ∀ d ∈ Bundle.stringAtoms, d ∈ tables_1) d hd)
theorem own_sw {Z : State} {a0 : Array Value} (hw : ∀ d ∈ tables_1, d.before a0 Z = true) : ∀ d ∈ StrChars.Road.words, d.before a0 Z = true := fun d hd => hw d ((by decide +kernel : ∀ d ∈ StrChars.Road.words, d ∈ tables_1) d hd)
def own_i (k : Nat) : Int32 := Int32.ofNat k
theorem own_it {a : Nat} (h : a < 2147483648) : (own_i a).toInt = a := by
  unfold own_i; exact Int32.toInt_ofNat_of_lt (by simpa using h)
theorem own_ilt {a b : Nat} (ha : a < 2147483648) (hb : b < 2147483648) : own_i a < own_i b ↔ a < b := by rw [Int32.lt_iff_toInt_lt, own_it ha, own_it hb]; omega
theorem own_ieq {a b : Nat} (ha : a < 2147483648) (hb : b < 2147483648) : own_i a = own_i b ↔ a = b := by rw [← Int32.toInt_inj, own_it ha, own_it hb]; omega
theorem own_inat {a : Nat} (h : a < 2147483648) : (own_i a).toNatClampNeg = a := by
  show (own_i a).toInt.toNat = a
  rw [own_it h]; rfl
theorem own_iadd (a b : Nat) : own_i a + own_i b = own_i (a + b) := (Int32.ofNat_add a b).symm
theorem own_isub {a b : Nat} (h : b ≤ a) : own_i a - own_i b = own_i (a - b) := by
  obtain ⟨c, rfl⟩ := Nat.exists_eq_add_of_le h
  rw [Nat.add_sub_cancel_left, ← own_iadd, Int32.add_comm, Int32.add_sub_cancel]
theorem own_idec {a : Nat} (h : 1 ≤ a) : own_i a + (-1 : Int32) = own_i (a - 1) := by
  rw [show (-1 : Int32) = -(1 : Int32) from rfl, ← Int32.sub_eq_add_neg]; exact own_isub (b := 1) h
theorem own_i0 {a : Nat} (h : a < 2147483648) : own_i a = (0 : Int32) ↔ a = 0 := own_ieq (b := 0) h (by decide)
theorem own_inn {a : Nat} (h : a < 2147483648) : ¬ own_i a < (0 : Int32) := by rw [Int32.lt_iff_toInt_lt, own_it h]; show ¬ ((a : Int) < 0); omega
theorem own_anti {x y : Int32} (h1 : ¬ x < y) (h2 : ¬ y < x) : x = y := by rw [Int32.lt_iff_toInt_lt] at h1 h2; exact Int32.toInt_inj.mp (by omega)
theorem own_shr0 (x : Int32) : x >>> ((0 : Int32) &&& 31) = x := by rw [show ((0 : Int32) &&& 31) = 0 from rfl]; exact Int32.shiftRight_zero
def own_u (xs : List Int32) (i : Nat) : Int32 := xs.getD i 0 &&& 255
theorem own_gdN (xs : List Int32) (i : Nat) : (xs.map Value.int).getD i (.int (0 : Int32)) = .int (xs.getD i 0) := by
  simp only [List.getD_eq_getElem?_getD, List.getElem?_map]
  cases xs[i]? <;> rfl
theorem own_gd (xs : List Int32) {i : Nat} (h : i < 2147483648) : (xs.map Value.int).getD (own_i i).toNatClampNeg (.int (0 : Int32)) = .int (xs.getD i 0) := by rw [own_inat h]; exact own_gdN xs i
theorem own_nar8 (x : Int32) : nar .char ((x &&& (255 : Int32)).toUInt32.toUInt16.toUInt32.toInt32) = x &&& 255 := by
  simp only [nar, narrow]
  rw [i2c_mask]
  exact i2c_mask x
theorem own_narU (xs : List Int32) (i : Nat) : nar .char (own_u xs i) = own_u xs i := by
  show nar .char (xs.getD i 0 &&& 255) = _
  simp only [nar, narrow]
  exact i2c_mask _
theorem own_cp0 (K : Nat) (d : Value) (us : List Value) : (List.replicate K d).take (0 : Int32).toNatClampNeg ++ us ++ (List.replicate K d).drop ((0 : Int32).toNatClampNeg + K) = us := by
  rw [show (0 : Int32).toNatClampNeg = 0 from rfl, Nat.zero_add, List.take_zero, List.nil_append, List.drop_of_length_le (by simp), List.append_nil]
theorem own_slice (xs : List Int32) {f g : Nat} (hg : g < 2147483648) (h1 : f ≤ g) (h2 : g ≤ xs.length) : ((xs.drop f).take (g - f)).map Value.int = (List.range (own_i (g - f)).toNatClampNeg).map fun i => (xs.map Value.int).getD ((own_i f).toNatClampNeg + i) (.int (0 : Int32)) := by
  rw [own_inat (by omega), own_inat (by omega)]
  apply List.ext_getElem
  · simp; omega
  · intro i q1 q2
    simp only [List.length_map, List.length_take, List.length_drop] at q1
    simp only [List.getElem_map, List.getElem_range, own_gdN, List.getElem_take, List.getElem_drop]
    rw [List.getD_eq_getElem?_getD, List.getElem?_eq_getElem (by omega)]; rfl
theorem own_m255 (x : Int32) : ¬ nar .char ((x &&& (255 : Int32)).toUInt32.toUInt16.toUInt32.toInt32) < 0 ∧ ¬ (255 : Int32) < nar .char ((x &&& (255 : Int32)).toUInt32.toUInt16.toUInt32.toInt32) := by
  have e : nar .char ((x &&& (255 : Int32)).toUInt32.toUInt16.toUInt32.toInt32) = x &&& 255 := by
    simp only [nar, narrow]
    rw [i2c_mask]
    exact i2c_mask x
  rw [e]
  have q : (x &&& 255).toBitVec.toNat < 256 := by
    simp only [Int32.toBitVec_and, BitVec.toNat_and]
    exact Nat.lt_succ_of_le Nat.and_le_right
  have e : (x &&& 255).toInt = (x &&& 255).toBitVec.toInt := rfl
  rw [Int32.lt_iff_toInt_lt, Int32.lt_iff_toInt_lt, show (255 : Int32).toInt = 255 from rfl, show (0 : Int32).toInt = 0 from rfl, e, BitVec.toInt_eq_toNat_cond]
  split <;> omega
theorem own_c255 (x : Int32) : ¬ (255 : Int32) < ((x &&& (255 : Int32)).toUInt32.toUInt16.toUInt32.toInt32) := by
  have q := (own_m255 x).2
  have e : nar .char ((x &&& (255 : Int32)).toUInt32.toUInt16.toUInt32.toInt32) = x &&& 255 := by
    simp only [nar, narrow]
    rw [i2c_mask]
    exact i2c_mask x
  rw [e] at q
  rw [i2c_mask]
  exact q
def own_w (c : Int32) : Int32 := if c = 32 then 1 else if c = 9 then 1 else if c = 10 then 1 else if c = 13 then 1 else 0
theorem own_w01 {c : Int32} (h : ¬ own_w c = 0) : own_w c = 1 := by
  unfold own_w at h ⊢
  split
  · rfl
  · split
    · rfl
    · split
      · rfl
      · split
        · rfl
        · simp_all
def own_Tr (N : Nat) (xs : List Int32) (k j : Nat) : Prop := k ≤ j ∧ j ≤ N ∧ (∀ i, i < k → ¬ own_w (own_u xs i) = 0) ∧ (∀ i, j ≤ i → i < N → ¬ own_w (own_u xs i) = 0) ∧ (j = k → k = N) ∧ (k < j → own_w (own_u xs k) = 0 ∧ own_w (own_u xs (j - 1)) = 0)
def own_wa (N : Nat) (cs : List Int32) (i : Nat) : Int32 := if i < N then own_w (cs.getD i 0) else 0
theorem own_wa1 {N : Nat} {cs : List Int32} {i : Nat} (h : i < N) (q : own_w (cs.getD i 0) = 0) : own_wa N cs i = 0 := by unfold own_wa; rw [if_pos h]; exact q
theorem own_wa2 {N : Nat} {cs : List Int32} {i : Nat} (h : i < N) (q : ¬ own_w (cs.getD i 0) = 0) : own_wa N cs i = 1 := by unfold own_wa; rw [if_pos h]; exact own_w01 q
theorem own_wa3 {N : Nat} {cs : List Int32} {i : Nat} (h : ¬ i < N) : own_wa N cs i = 0 := by unfold own_wa; rw [if_neg h]
theorem own_256 {q : Int32} (h : ¬ q < 0 ∧ ¬ (255 : Int32) < q) : ∃ m : Fin 256, q = own_i m.val := by
  rw [Int32.lt_iff_toInt_lt, Int32.lt_iff_toInt_lt, show (255 : Int32).toInt = 255 from rfl, show (0 : Int32).toInt = 0 from rfl] at h
  refine ⟨⟨q.toInt.toNat, by omega⟩, Int32.toInt_inj.mp ?_⟩
  rw [own_it (by show q.toInt.toNat < _; omega)]
  show q.toInt = (q.toInt.toNat : Int)
  omega
theorem own_chr {q : Int32} (h : ¬ q < 0 ∧ ¬ (255 : Int32) < q) : nar .char q = q := by
  obtain ⟨m, rfl⟩ := own_256 h
  exact (by decide +kernel : ∀ m : Fin 256, nar .char (own_i m.val) = own_i m.val) m
theorem own_lat {q : Int32} (h : ¬ q < 0 ∧ ¬ (255 : Int32) < q) : ¬ nar .char q < 0 ∧ ¬ (255 : Int32) < nar .char q := by rw [own_chr h]; exact h
def own_b (c : Int32) : Int32 := c.toInt8.toInt32
theorem own_bu {q : Int32} (h : ¬ q < 0 ∧ ¬ (255 : Int32) < q) : own_b q &&& 255 = q := by
  obtain ⟨m, rfl⟩ := own_256 h
  exact (by decide +kernel : ∀ m : Fin 256, own_b (own_i m.val) &&& 255 = own_i m.val) m
theorem own_ub {cs : List Int32} (h : ∀ c ∈ cs, ¬ c < 0 ∧ ¬ (255 : Int32) < c) (i : Nat) : own_u (cs.map own_b) i = cs.getD i 0 := by
  unfold own_u
  simp only [List.getD_eq_getElem?_getD, List.getElem?_map]
  cases q : cs[i]? with
  | none => rfl
  | some c => exact own_bu (h c (List.mem_of_getElem? q))
def own_pf (N : Nat) (cs : List Int32) : Int32 := if own_wa N cs 0 = 0 then 0 else if own_wa N cs 1 = 0 then 1 else if own_wa N cs 2 = 0 then 2 else if own_wa N cs 3 = 0 then 3 else 4
theorem own_pk {N : Nat} {cs : List Int32} {k : Nat} (hk4 : k ≤ 4) (h1 : ∀ i, i < k → ¬ own_wa N cs i = 0) (h2 : own_wa N cs k = 0) : own_pf N cs = own_i k := by
  unfold own_pf
  rcases (show k = 0 ∨ k = 1 ∨ k = 2 ∨ k = 3 ∨ k = 4 by omega) with rfl | rfl | rfl | rfl | rfl
  · rw [if_pos h2]; rfl
  · rw [if_neg (h1 0 (by decide)), if_pos h2]; rfl
  · rw [if_neg (h1 0 (by decide)), if_neg (h1 1 (by decide)), if_pos h2]; rfl
  · rw [if_neg (h1 0 (by decide)), if_neg (h1 1 (by decide)), if_neg (h1 2 (by decide)), if_pos h2]; rfl
  · rw [if_neg (h1 0 (by decide)), if_neg (h1 1 (by decide)), if_neg (h1 2 (by decide)), if_neg (h1 3 (by decide))]; rfl
theorem own_uslice (xs : List Int32) {k M i : Nat} (h : i < M) : own_u ((xs.drop k).take M) i = own_u xs (k + i) := by
  unfold own_u
  simp only [List.getD_eq_getElem?_getD, List.getElem?_take, List.getElem?_drop, if_pos h]
theorem own_all {N : Nat} {cs : List Int32} {k j : Nat} (hN : N ≤ 4) (hl : cs.length = N) (hcs : ∀ c ∈ cs, ¬ c < 0 ∧ ¬ (255 : Int32) < c) (hT : own_Tr N (cs.map own_b) k j) :
    own_pf N cs = own_i k ∧ k + (j - k) ≤ N ∧ (∀ i, i < N → ¬ i < k → i < k + (j - k) → (own_u (((cs.map own_b).drop k).take (j - k)) (i - k)) = cs.getD i 0) ∧ (∀ i, i < N → (i < k ∨ ¬ i < k + (j - k)) → own_w (cs.getD i 0) = 1) ∧
      (0 < j - k → own_w (own_u (((cs.map own_b).drop k).take (j - k)) 0) = 0 ∧ own_w (own_u (((cs.map own_b).drop k).take (j - k)) (j - k - 1)) = 0) := by
  obtain ⟨h1, h2, h3, h4, h5, h6⟩ := hT
  simp only [own_ub hcs] at h3 h4 h6
  refine ⟨own_pk (by omega) (fun i q => ?_) ?_, by omega, fun i q1 q2 q3 => ?_, fun i q1 q2 => ?_, fun q => ?_⟩
  · unfold own_wa; rw [if_pos (by omega)]; exact h3 i q
  · by_cases z : k < N
    · exact own_wa1 z (h6 (by omega)).1
    · exact own_wa3 z
  · rw [own_uslice _ (by omega), own_ub hcs, show k + (i - k) = i by omega]
  · rcases q2 with q2 | q2
    · exact own_w01 (h3 i q2)
    · exact own_w01 (h4 i (by omega) q1)
  · rw [own_uslice _ q, own_uslice _ (by omega), own_ub hcs, own_ub hcs, show k + (j - k - 1) = j - 1 by omega]
    exact h6 (by omega)
theorem own_n5 (x : Int32) : ((x &&& 2147483647) - (x &&& 2147483647) / 5 * 5 = (0 : Int32)) ∨ ((x &&& 2147483647) - (x &&& 2147483647) / 5 * 5 = (1 : Int32)) ∨ ((x &&& 2147483647) - (x &&& 2147483647) / 5 * 5 = (2 : Int32)) ∨ ((x &&& 2147483647) - (x &&& 2147483647) / 5 * 5 = (3 : Int32)) ∨ ((x &&& 2147483647) - (x &&& 2147483647) / 5 * 5 = (4 : Int32)) := by
  rw [irem_eq_mod]
  have h1 := (c_andS x 2147483647).2.2 (by decide)
  have h2 := (c_irem (x &&& 2147483647) 5 5 rfl).1 h1
  have h3 : ((x &&& 2147483647) % 5).toInt = 0 ∨ ((x &&& 2147483647) % 5).toInt = 1 ∨ ((x &&& 2147483647) % 5).toInt = 2 ∨ ((x &&& 2147483647) % 5).toInt = 3 ∨ ((x &&& 2147483647) % 5).toInt = 4 := by rw [h2]; omega
  rcases h3 with h | h | h | h | h
  · exact Or.inl (Int32.toInt_inj.mp h)
  · exact Or.inr (Or.inl (Int32.toInt_inj.mp h))
  · exact Or.inr (Or.inr (Or.inl (Int32.toInt_inj.mp h)))
  · exact Or.inr (Or.inr (Or.inr (Or.inl (Int32.toInt_inj.mp h))))
  · exact Or.inr (Or.inr (Or.inr (Or.inr (Int32.toInt_inj.mp h))))
theorem d11_0 : decode jdk_29_method_69_code 0 = .ok (.iload_n 0, 1) := by decide +kernel
theorem d11_1 : decode jdk_29_method_69_code 1 = .ok (.iload_n 1, 1) := by decide +kernel
theorem d11_2 : decode jdk_29_method_69_code 2 = .ok (.if_icmp .gt 7, 3) := by decide +kernel
theorem d11_9 : decode jdk_29_method_69_code 9 = .ok (.iload_n 1, 1) := by decide +kernel
theorem d11_10 : decode jdk_29_method_69_code 10 = .ok (.ireturn, 1) := by decide +kernel
abbrev mN0 : MethodName := ⟨"java/lang/Math", "min", "(II)I"⟩
theorem ef_minG (m : MethodId) (x0 : Int32) (x1 : Int32) : entryFrame m #[(.int x0), (.int x1)] 2 = mkF m 0 #[.val (.int x0), .val (.int x1)] [] := by first | (simp [entryFrame, mkF, argsToLocals, Value.category]; done) | rfl
def QminG (Z : State) (xx : Int32) (yy : Int32) (h0 : Heap) (n0 : Nat) (v : Option Value) (h : Heap) (L : List Loc) : Prop := v = some (.int yy) ∧ Fr n0 L ∧ h = h0
theorem pn_b11 : plainFor (⟨"java/lang/Math", "min", "(II)I"⟩ : MethodName) = true := by decide +kernel
set_option maxRecDepth 65536 in
set_option maxHeartbeats 40000000 in
theorem rmminG (l : Launch) (Z : State) (a0 : Array Value) (hw : ∀ d ∈ tables_1, d.before a0 Z = true) (ws : List Jvm.Cond) (xx : Int32) (yy : Int32) (h0 : Heap) (n0 : Nat) (O0 : Old Z n0 h0) (h : (yy < xx)) :
    MetFree l mN0 (head1 (Jvm.Cond.code mN0 jdk_29_method_69_code 2 (some .int) :: ws) ({ frames := 0, cells := 0, slots := 0, locals := 0 } : Room)) (fun as_ U => as_ = #[(.int xx), (.int yy)] ∧ Z.Warmed39 U.vm ∧ U.heap = h0) (fun _ _ _ _ _ => True) (fun _ U o U' => ∃ v L, o = .returned v ∧ QminG Z xx yy h0 n0 v U'.heap L ∧ FrameEnd U o U' L ({ frames := 0, cells := 0, slots := 0, locals := 0 } : Room).cells ({ frames := 0, cells := 0, slots := 0, locals := 0 } : Room).slots) := by
  refine MetFree.of_bodySF pn_b11 hisR ?_
  intro p e s m args below meth c s₁ Bd hml0 hP hK
  obtain ⟨rfl, hZ, hh⟩ := hP
  have hx := Bd.exec
  have hby := Bd.bytes
  have hml : c.maxLocals = 2 := hml0
  have hown : s.vm.findClass "java/lang/Math" = some m.cls := findClass_of_methodNamed Bd.named
  have hnm := (name_of_methodNamed Bd.named Bd.method).1
  have X0 : Stand p l e ({ frames := 0, cells := 0, slots := 0, locals := 0 } : Room) s m #[(.int xx), (.int yy)] below meth c s₁ [] 0 0 := Stand.of_body Bd
  have e0 : s₁.heap = h0 := by rw [← hh, Bd.state]; rfl
  have N0 := Fr.nil n0
  have Z0 := own_z0 O0
  have pre0 : ∀ tg_, Steps p.tables e below (s₁.setTop (mkF m 0 #[.val (.int xx), .val (.int yy)] [])) tg_ → Steps p.tables e below (s₁.setTop (entryFrame m #[(.int xx), (.int yy)] 2)) tg_ := fun tg_ kt_ => castTop (ef_minG m xx yy) kt_
  obtain ⟨fs, hr, hrun, hended, hW, hsame⟩ := X0.leave (v := some (.int yy)) (fun h => by rw [Bd.returns] at h; cases h)
  refine ⟨_, _, pre0 _ ?_, hrun, hended, _, _, rfl, ?_, ⟨_, rfl⟩, hW, hsame.mono (by decide) (by decide)⟩
  · refine XS.iloadN X0.here hx rfl (hb hby d11_0) rfl ?_
    refine XS.iloadN X0.here hx rfl (hb hby d11_1) rfl ?_
    refine XS.icmpYes X0.here hx rfl (pc0 := 2) (pc' := 9) rfl (hb hby d11_2) rfl (tlt h).2.2.1 (by decide) (by decide) ?_
    show Steps p.tables e below (s₁.setTop (mkF m 9 #[.val (.int xx), .val (.int yy)] [])) _
    refine XS.iloadN X0.here hx rfl (hb hby d11_9) rfl ?_
    show Steps p.tables e below (s₁.setTop (mkF m 10 #[.val (.int xx), .val (.int yy)] [(.int yy)])) _
    exact retI X0 hx Bd.returns (hb hby d11_10) hr
  · show QminG Z xx yy h0 n0 _ s₁.heap _
    rw [e0]
    exact ⟨rfl, N0, rfl⟩
theorem d11_5 : decode jdk_29_method_69_code 5 = .ok (.iload_n 0, 1) := by decide +kernel
theorem d11_6 : decode jdk_29_method_69_code 6 = .ok (.goto 4, 3) := by decide +kernel
theorem ef_minL (m : MethodId) (x0 : Int32) (x1 : Int32) : entryFrame m #[(.int x0), (.int x1)] 2 = mkF m 0 #[.val (.int x0), .val (.int x1)] [] := by first | (simp [entryFrame, mkF, argsToLocals, Value.category]; done) | rfl
def QminL (Z : State) (xx : Int32) (yy : Int32) (h0 : Heap) (n0 : Nat) (v : Option Value) (h : Heap) (L : List Loc) : Prop := v = some (.int xx) ∧ Fr n0 L ∧ h = h0
set_option maxRecDepth 65536 in
set_option maxHeartbeats 40000000 in
theorem rmminL (l : Launch) (Z : State) (a0 : Array Value) (hw : ∀ d ∈ tables_1, d.before a0 Z = true) (ws : List Jvm.Cond) (xx : Int32) (yy : Int32) (h0 : Heap) (n0 : Nat) (O0 : Old Z n0 h0) (h : (¬ (yy < xx))) :
    MetFree l mN0 (head1 (Jvm.Cond.code mN0 jdk_29_method_69_code 2 (some .int) :: ws) ({ frames := 0, cells := 0, slots := 0, locals := 0 } : Room)) (fun as_ U => as_ = #[(.int xx), (.int yy)] ∧ Z.Warmed39 U.vm ∧ U.heap = h0) (fun _ _ _ _ _ => True) (fun _ U o U' => ∃ v L, o = .returned v ∧ QminL Z xx yy h0 n0 v U'.heap L ∧ FrameEnd U o U' L ({ frames := 0, cells := 0, slots := 0, locals := 0 } : Room).cells ({ frames := 0, cells := 0, slots := 0, locals := 0 } : Room).slots) := by
  refine MetFree.of_bodySF pn_b11 hisR ?_
  intro p e s m args below meth c s₁ Bd hml0 hP hK
  obtain ⟨rfl, hZ, hh⟩ := hP
  have hx := Bd.exec
  have hby := Bd.bytes
  have hml : c.maxLocals = 2 := hml0
  have hown : s.vm.findClass "java/lang/Math" = some m.cls := findClass_of_methodNamed Bd.named
  have hnm := (name_of_methodNamed Bd.named Bd.method).1
  have X0 : Stand p l e ({ frames := 0, cells := 0, slots := 0, locals := 0 } : Room) s m #[(.int xx), (.int yy)] below meth c s₁ [] 0 0 := Stand.of_body Bd
  have e0 : s₁.heap = h0 := by rw [← hh, Bd.state]; rfl
  have N0 := Fr.nil n0
  have Z0 := own_z0 O0
  have pre0 : ∀ tg_, Steps p.tables e below (s₁.setTop (mkF m 0 #[.val (.int xx), .val (.int yy)] [])) tg_ → Steps p.tables e below (s₁.setTop (entryFrame m #[(.int xx), (.int yy)] 2)) tg_ := fun tg_ kt_ => castTop (ef_minL m xx yy) kt_
  obtain ⟨fs, hr, hrun, hended, hW, hsame⟩ := X0.leave (v := some (.int xx)) (fun h => by rw [Bd.returns] at h; cases h)
  refine ⟨_, _, pre0 _ ?_, hrun, hended, _, _, rfl, ?_, ⟨_, rfl⟩, hW, hsame.mono (by decide) (by decide)⟩
  · refine XS.iloadN X0.here hx rfl (hb hby d11_0) rfl ?_
    refine XS.iloadN X0.here hx rfl (hb hby d11_1) rfl ?_
    refine XS.icmpNo X0.here hx rfl (hb hby d11_2) rfl (flt h).2.2.1 ?_
    show Steps p.tables e below (s₁.setTop (mkF m 5 #[.val (.int xx), .val (.int yy)] [])) _
    refine XS.iloadN X0.here hx rfl (hb hby d11_5) rfl ?_
    refine XS.goto X0.here hx rfl (pc0 := 6) (pc' := 10) rfl (hb hby d11_6) (by decide) (by decide) ?_
    show Steps p.tables e below (s₁.setTop (mkF m 10 #[.val (.int xx), .val (.int yy)] [(.int xx)])) _
    exact retI X0 hx Bd.returns (hb hby d11_10) hr
  · show QminL Z xx yy h0 n0 _ s₁.heap _
    rw [e0]
    exact ⟨rfl, N0, rfl⟩
theorem w_37 : (Jvm.Cond.fieldLink "java/lang/String" (38 : Nat) "java/lang/String" "COMPACT_STRINGS" "Z") ∈ tables_1 := List.mem_of_getElem? (i := 37) (by decide +kernel)
theorem d6_0 : decode jdk_42_method_152_code 0 = .ok (.getstatic 38, 3) := by decide +kernel
theorem d6_3 : decode jdk_42_method_152_code 3 = .ok (.ifCond .eq 10, 3) := by decide +kernel
theorem d6_6 : decode jdk_42_method_152_code 6 = .ok (.aload_n 0, 1) := by decide +kernel
theorem w_22 : (Jvm.Cond.fieldLink "java/lang/String" (15 : Nat) "java/lang/String" "coder" "B") ∈ tables_1 := List.mem_of_getElem? (i := 22) (by decide +kernel)
theorem d6_7 : decode jdk_42_method_152_code 7 = .ok (.getfield 15, 3) := by decide +kernel
theorem d6_10 : decode jdk_42_method_152_code 10 = .ok (.goto 4, 3) := by decide +kernel
theorem d6_14 : decode jdk_42_method_152_code 14 = .ok (.ireturn, 1) := by decide +kernel
abbrev mN1 : MethodName := ⟨"java/lang/String", "coder", "()B"⟩
theorem ef_coder (m : MethodId) (x0 : Addr) : entryFrame m #[(.ref x0)] 1 = mkF m 0 #[.val (.ref x0)] [] := by first | (simp [entryFrame, mkF, argsToLocals, Value.category]; done) | rfl
def Qcoder (Z : State) (a : Addr) (cz : Int32) (h0 : Heap) (n0 : Nat) (v : Option Value) (h : Heap) (L : List Loc) : Prop := v = some (.int (0 : Int32)) ∧ Fr n0 L ∧ h = h0
theorem pn_java_lang_String : plainName "java/lang/String" = true := by first | (simp [plainName, overriddenIn]; done) | decide +kernel
set_option maxRecDepth 65536 in
set_option maxHeartbeats 40000000 in
theorem rmcoder (l : Launch) (Z : State) (a0 : Array Value) (hw : ∀ d ∈ tables_1, d.before a0 Z = true) (ws : List Jvm.Cond) (a : Addr) (cz : Int32) (h0 : Heap) (n0 : Nat) (O0 : Old Z n0 h0) (hp0 : Fld Z h0 a "java/lang/String" "coder" "B" (.int (0 : Int32))) (hp1 : Sta Z Z.heap "java/lang/String" "COMPACT_STRINGS" "Z" (.int cz)) (hcz : (¬ (cz = (0 : Int32)))) :
    MetFree l mN1 (head1 (Jvm.Cond.code mN1 jdk_42_method_152_code 1 (some .byte) :: ws) ({ frames := 0, cells := 0, slots := 0, locals := 0 } : Room)) (fun as_ U => as_ = #[(.ref a)] ∧ Z.Warmed39 U.vm ∧ U.heap = h0) (fun _ _ _ _ _ => True) (fun _ U o U' => ∃ v L, o = .returned v ∧ Qcoder Z a cz h0 n0 v U'.heap L ∧ FrameEnd U o U' L ({ frames := 0, cells := 0, slots := 0, locals := 0 } : Room).cells ({ frames := 0, cells := 0, slots := 0, locals := 0 } : Room).slots) := by
  refine MetFree.of_bodySF (plainFor_of_name pn_java_lang_String) hisR ?_
  intro p e s m args below meth c s₁ Bd hml0 hP hK
  obtain ⟨rfl, hZ, hh⟩ := hP
  have hx := Bd.exec
  have hby := Bd.bytes
  have hml : c.maxLocals = 1 := hml0
  have hown : s.vm.findClass "java/lang/String" = some m.cls := findClass_of_methodNamed Bd.named
  have hnm := (name_of_methodNamed Bd.named Bd.method).1
  have X0 : Stand p l e ({ frames := 0, cells := 0, slots := 0, locals := 0 } : Room) s m #[(.ref a)] below meth c s₁ [] 0 0 := Stand.of_body Bd
  have e0 : s₁.heap = h0 := by rw [← hh, Bd.state]; rfl
  have N0 := Fr.nil n0
  have Z0 := own_z0 O0
  have pre0 : ∀ tg_, Steps p.tables e below (s₁.setTop (mkF m 0 #[.val (.ref a)] [])) tg_ → Steps p.tables e below (s₁.setTop (entryFrame m #[(.ref a)] 1)) tg_ := fun tg_ kt_ => castTop (ef_coder m a) kt_
  obtain ⟨T1, X1, e1, st1⟩ := getS2 X0 hx hZ hown (host := "") (Or.inl (hw _ w_37)) Via.refl e0 (hp1.ext O0.2) (g := (mkF m 0 #[.val (.ref a)] [])) rfl (hb hby d6_0)
  obtain ⟨T2, X2, e2, st2⟩ := getF X1 hx hZ hown (host := "") (Or.inl (hw _ w_22)) Via.refl e1 hp0 (g := (mkF m 7 #[.val (.ref a)] [(.ref a)])) rfl rfl (hb hby d6_7)
  obtain ⟨fs, hr, hrun, hended, hW, hsame⟩ := X2.leave (v := some (.int (0 : Int32))) (fun h => by rw [Bd.returns] at h; cases h)
  refine ⟨_, _, pre0 _ ?_, hrun, hended, _, _, rfl, ?_, ⟨_, rfl⟩, hW, hsame.mono (by decide) (by decide)⟩
  · show Steps p.tables e below (s₁.setTop (mkF m 0 #[.val (.ref a)] [])) _
    refine st1 _ ?_
    refine XS.ifNo X1.here hx rfl (hb hby d6_3) rfl ((if0 _ _).trans (feq hcz).1) ?_
    refine XS.aloadN X1.here hx rfl (hb hby d6_6) rfl rfl ?_
    show Steps p.tables e below (T1.setTop (mkF m 7 #[.val (.ref a)] [(.ref a)])) _
    refine st2 _ ?_
    refine XS.goto X2.here hx rfl (pc0 := 10) (pc' := 14) rfl (hb hby d6_10) (by decide) (by decide) ?_
    show Steps p.tables e below (T2.setTop (mkF m 14 #[.val (.ref a)] [(.int (0 : Int32))])) _
    exact retN X2 hx (t := .byte) Bd.returns (by simp) (hb hby d6_14) hr
  · show Qcoder Z a cz h0 n0 _ T2.heap _
    rw [e2]
    exact ⟨rfl, N0, rfl⟩
theorem d5_0 : decode jdk_42_method_54_code 0 = .ok (.aload_n 0, 1) := by decide +kernel
theorem w_21 : (Jvm.Cond.fieldLink "java/lang/String" (9 : Nat) "java/lang/String" "value" "[B") ∈ tables_1 := List.mem_of_getElem? (i := 21) (by decide +kernel)
theorem d5_1 : decode jdk_42_method_54_code 1 = .ok (.getfield 9, 3) := by decide +kernel
theorem d5_4 : decode jdk_42_method_54_code 4 = .ok (.arraylength, 1) := by decide +kernel
theorem d5_5 : decode jdk_42_method_54_code 5 = .ok (.aload_n 0, 1) := by decide +kernel
theorem w_32 : (Jvm.Cond.methodLink "java/lang/String" (335 : Nat) ({ cls := "java/lang/String", name := "coder", desc := "()B" } : Jvm.MethodName)) ∈ tables_1 := List.mem_of_getElem? (i := 32) (by decide +kernel)
theorem w_36 : (Jvm.Cond.code ({ cls := "java/lang/String", name := "coder", desc := "()B" } : Jvm.MethodName) jdk_42_method_152_code (1 : Nat) (Option.some Jvm.ClassFile.FieldType.byte)) ∈ tables_1 := List.mem_of_getElem? (i := 36) (by decide +kernel)
theorem w_4 : (Jvm.Cond.initialized "java/lang/String") ∈ tables_1 := List.mem_of_getElem? (i := 4) (by decide +kernel)
theorem pd___B : parseMethodDescriptor "()B" = some ⟨[], some .byte⟩ := by decide +kernel
theorem d5_6 : decode jdk_42_method_54_code 6 = .ok (.invokevirtual 335, 3) := by decide +kernel
theorem w_35 : (Jvm.Cond.selects "java/lang/String" ({ cls := "java/lang/String", name := "coder", desc := "()B" } : Jvm.MethodName) ({ cls := "java/lang/String", name := "coder", desc := "()B" } : Jvm.MethodName)) ∈ tables_1 := List.mem_of_getElem? (i := 35) (by decide +kernel)
theorem w_33 : (Jvm.Cond.declares ({ cls := "java/lang/String", name := "coder", desc := "()B" } : Jvm.MethodName)) ∈ tables_1 := List.mem_of_getElem? (i := 33) (by decide +kernel)
theorem w_34 : (Jvm.Cond.instanceMethod ({ cls := "java/lang/String", name := "coder", desc := "()B" } : Jvm.MethodName)) ∈ tables_1 := List.mem_of_getElem? (i := 34) (by decide +kernel)
theorem d5_9 : decode jdk_42_method_54_code 9 = .ok (.ishr, 1) := by decide +kernel
theorem d5_10 : decode jdk_42_method_54_code 10 = .ok (.ireturn, 1) := by decide +kernel
abbrev mN2 : MethodName := ⟨"java/lang/String", "length", "()I"⟩
theorem ef_slen (m : MethodId) (x0 : Addr) : entryFrame m #[(.ref x0)] 1 = mkF m 0 #[.val (.ref x0)] [] := by first | (simp [entryFrame, mkF, argsToLocals, Value.category]; done) | rfl
def Qslen (Z : State) (a : Addr) (cz : Int32) (t : Addr) (kt : ClassId) (N : Nat) (xs : List Int32) (h0 : Heap) (n0 : Nat) (v : Option Value) (h : Heap) (L : List Loc) : Prop := v = some (.int (own_i N)) ∧ Fr n0 L ∧ h = h0
set_option maxRecDepth 65536 in
set_option maxHeartbeats 40000000 in
theorem rmslen (l : Launch) (Z : State) (a0 : Array Value) (hw : ∀ d ∈ tables_1, d.before a0 Z = true) (ws : List Jvm.Cond) (a : Addr) (cz : Int32) (t : Addr) (kt : ClassId) (N : Nat) (xs : List Int32) (h0 : Heap) (n0 : Nat) (O0 : Old Z n0 h0) (hp0 : Exa Z h0 a "java/lang/String") (hp1 : Fld Z h0 a "java/lang/String" "value" "[B" (.ref t)) (hp2 : Fld Z h0 a "java/lang/String" "coder" "B" (.int (0 : Int32))) (hp3 : Arv Z h0 t kt .byte (own_i N) (xs.map Value.int) (.int (0 : Int32))) (hp4 : Sta Z Z.heap "java/lang/String" "COMPACT_STRINGS" "Z" (.int cz)) (hcz : (¬ (cz = (0 : Int32)))) :
    MetFree l mN2 (head1 (Jvm.Cond.code mN2 jdk_42_method_54_code 1 (some .int) :: ws) ({ frames := 1, cells := 0, slots := 0, locals := 13 } : Room)) (fun as_ U => as_ = #[(.ref a)] ∧ Z.Warmed39 U.vm ∧ U.heap = h0) (fun _ _ _ _ _ => True) (fun _ U o U' => ∃ v L, o = .returned v ∧ Qslen Z a cz t kt N xs h0 n0 v U'.heap L ∧ FrameEnd U o U' L ({ frames := 1, cells := 0, slots := 0, locals := 13 } : Room).cells ({ frames := 1, cells := 0, slots := 0, locals := 13 } : Room).slots) := by
  refine MetFree.of_bodySF (plainFor_of_name pn_java_lang_String) hisR ?_
  intro p e s m args below meth c s₁ Bd hml0 hP hK
  obtain ⟨rfl, hZ, hh⟩ := hP
  have hx := Bd.exec
  have hby := Bd.bytes
  have hml : c.maxLocals = 1 := hml0
  have hown : s.vm.findClass "java/lang/String" = some m.cls := findClass_of_methodNamed Bd.named
  have hnm := (name_of_methodNamed Bd.named Bd.method).1
  have X0 : Stand p l e ({ frames := 1, cells := 0, slots := 0, locals := 13 } : Room) s m #[(.ref a)] below meth c s₁ [] 0 0 := Stand.of_body Bd
  have e0 : s₁.heap = h0 := by rw [← hh, Bd.state]; rfl
  have N0 := Fr.nil n0
  have Z0 := own_z0 O0
  have pre0 : ∀ tg_, Steps p.tables e below (s₁.setTop (mkF m 0 #[.val (.ref a)] [])) tg_ → Steps p.tables e below (s₁.setTop (entryFrame m #[(.ref a)] 1)) tg_ := fun tg_ kt_ => castTop (ef_slen m a) kt_
  obtain ⟨T1, X1, e1, st1⟩ := getF X0 hx hZ hown (host := "") (Or.inl (hw _ w_21)) Via.refl e0 hp1 (g := (mkF m 1 #[.val (.ref a)] [(.ref a)])) rfl rfl (hb hby d5_1)
  obtain ⟨cl2, Ar2, -, S2, Ng2, -, -⟩ := id hp3
  obtain ⟨cq3, kq3, q3a, q3b, q3c⟩ := isOf hZ e1 hp0
  obtain ⟨_, _, ⟨T3, L3, k3, n3⟩, -, X3, ⟨Lc3, hQ3, l3, y3, z3⟩, st3⟩ := X1.virtualBack hx (y := mN1) (z := mN1) hown (mvT hZ (hw _ w_32)) (mvT hZ (hw _ w_33)) (notFace_of_selects (args := #[]) (mvT hZ (hw _ w_35))) (mvT hZ (hw _ w_35)) (mvT hZ (hw _ w_34)) (by decide) (backOf (W := 1) (rmcoder l Z a0 hw [] a cz h0 n0 O0 hp2 hp4 hcz) hZ (hw _ w_36) (hw _ w_4) (by decide) (by decide)) q3a q3c (g := (mkF m 6 #[.val (.ref a)] [(.ref a), (.int (own_i N))])) rfl (by rw [hml]; rfl) (Steps.refl _) (argsL := []) (rest := [(.int (own_i N))]) (lenOf pd___B rfl) rfl (by show 2 * 0 + _ ≤ _; exact Nat.le_of_eq rfl) (hb hby d5_6) (fun _ _ => ⟨rfl, e1, (by decide : 0 + 0 ≤ _), (by decide : 0 + 0 ≤ _)⟩)
  dsimp only [Pt.U, Pt.locs, Pt.cells, Pt.slots] at X3 l3 y3 z3 st3 hQ3
  subst l3 y3 z3
  obtain ⟨rfl, N3q, eh3⟩ := hQ3
  have N3 := Fr.app N0 N3q
  obtain ⟨fs, hr, hrun, hended, hW, hsame⟩ := X3.leave (v := some (.int ((own_i N) >>> ((0 : Int32) &&& 31)))) (fun h => by rw [Bd.returns] at h; cases h)
  refine ⟨_, _, pre0 _ ?_, hrun, hended, _, _, rfl, ?_, ⟨_, rfl⟩, hW, hsame.mono (by decide) (by decide)⟩
  · refine XS.aloadN X0.here hx rfl (hb hby d5_0) rfl rfl ?_
    show Steps p.tables e below (s₁.setTop (mkF m 1 #[.val (.ref a)] [(.ref a)])) _
    refine st1 _ ?_
    show Steps p.tables e below (T1.setTop (mkF m 4 #[.val (.ref a)] [(.ref t)])) _
    refine X1.arraylength hx (by rw [e1]; exact Ar2.1) (State.isArrayOf_alike hZ.alike Ar2.2.1) (g := (mkF m 4 #[.val (.ref a)] [(.ref t)])) rfl rfl (hb hby d5_4) _ ?_
    rw [len_of S2 Ng2]
    refine XS.aloadN X1.here hx rfl (hb hby d5_5) rfl rfl ?_
    show Steps p.tables e below (T1.setTop (mkF m 6 #[.val (.ref a)] [(.ref a), (.int (own_i N))])) _
    refine st3.trans ?_
    refine XS.ishr X3.here hx rfl (hb hby d5_9) rfl ?_
    show Steps p.tables e below (T3.setTop (mkF m 10 #[.val (.ref a)] [(.int ((own_i N) >>> ((0 : Int32) &&& 31)))])) _
    exact retI X3 hx Bd.returns (hb hby d5_10) hr
  · show Qslen Z a cz t kt N xs h0 n0 _ T3.heap _
    rw [eh3]
    exact ⟨(own_ret (congrArg Value.int (own_shr0 _))), N3, rfl⟩
theorem d18_0 : decode jdk_42_method_154_code 0 = .ok (.getstatic 38, 3) := by decide +kernel
theorem d18_3 : decode jdk_42_method_154_code 3 = .ok (.ifCond .eq 14, 3) := by decide +kernel
theorem d18_6 : decode jdk_42_method_154_code 6 = .ok (.aload_n 0, 1) := by decide +kernel
theorem d18_7 : decode jdk_42_method_154_code 7 = .ok (.getfield 15, 3) := by decide +kernel
theorem d18_10 : decode jdk_42_method_154_code 10 = .ok (.ifCond .ne 7, 3) := by decide +kernel
theorem d18_13 : decode jdk_42_method_154_code 13 = .ok (.iconst 1, 1) := by decide +kernel
theorem d18_14 : decode jdk_42_method_154_code 14 = .ok (.goto 4, 3) := by decide +kernel
theorem d18_18 : decode jdk_42_method_154_code 18 = .ok (.ireturn, 1) := by decide +kernel
abbrev mN3 : MethodName := ⟨"java/lang/String", "isLatin1", "()Z"⟩
theorem ef_isL1 (m : MethodId) (x0 : Addr) : entryFrame m #[(.ref x0)] 1 = mkF m 0 #[.val (.ref x0)] [] := by first | (simp [entryFrame, mkF, argsToLocals, Value.category]; done) | rfl
def QisL1 (Z : State) (a : Addr) (cz : Int32) (h0 : Heap) (n0 : Nat) (v : Option Value) (h : Heap) (L : List Loc) : Prop := v = some (.int (1 : Int32)) ∧ Fr n0 L ∧ h = h0
set_option maxRecDepth 65536 in
set_option maxHeartbeats 40000000 in
theorem rmisL1 (l : Launch) (Z : State) (a0 : Array Value) (hw : ∀ d ∈ tables_1, d.before a0 Z = true) (ws : List Jvm.Cond) (a : Addr) (cz : Int32) (h0 : Heap) (n0 : Nat) (O0 : Old Z n0 h0) (hp0 : Fld Z h0 a "java/lang/String" "coder" "B" (.int (0 : Int32))) (hp1 : Sta Z Z.heap "java/lang/String" "COMPACT_STRINGS" "Z" (.int cz)) (hcz : (¬ (cz = (0 : Int32)))) :
    MetFree l mN3 (head1 (Jvm.Cond.code mN3 jdk_42_method_154_code 1 (some .boolean) :: ws) ({ frames := 0, cells := 0, slots := 0, locals := 0 } : Room)) (fun as_ U => as_ = #[(.ref a)] ∧ Z.Warmed39 U.vm ∧ U.heap = h0) (fun _ _ _ _ _ => True) (fun _ U o U' => ∃ v L, o = .returned v ∧ QisL1 Z a cz h0 n0 v U'.heap L ∧ FrameEnd U o U' L ({ frames := 0, cells := 0, slots := 0, locals := 0 } : Room).cells ({ frames := 0, cells := 0, slots := 0, locals := 0 } : Room).slots) := by
  refine MetFree.of_bodySF (plainFor_of_name pn_java_lang_String) hisR ?_
  intro p e s m args below meth c s₁ Bd hml0 hP hK
  obtain ⟨rfl, hZ, hh⟩ := hP
  have hx := Bd.exec
  have hby := Bd.bytes
  have hml : c.maxLocals = 1 := hml0
  have hown : s.vm.findClass "java/lang/String" = some m.cls := findClass_of_methodNamed Bd.named
  have hnm := (name_of_methodNamed Bd.named Bd.method).1
  have X0 : Stand p l e ({ frames := 0, cells := 0, slots := 0, locals := 0 } : Room) s m #[(.ref a)] below meth c s₁ [] 0 0 := Stand.of_body Bd
  have e0 : s₁.heap = h0 := by rw [← hh, Bd.state]; rfl
  have N0 := Fr.nil n0
  have Z0 := own_z0 O0
  have pre0 : ∀ tg_, Steps p.tables e below (s₁.setTop (mkF m 0 #[.val (.ref a)] [])) tg_ → Steps p.tables e below (s₁.setTop (entryFrame m #[(.ref a)] 1)) tg_ := fun tg_ kt_ => castTop (ef_isL1 m a) kt_
  obtain ⟨T1, X1, e1, st1⟩ := getS2 X0 hx hZ hown (host := "") (Or.inl (hw _ w_37)) Via.refl e0 (hp1.ext O0.2) (g := (mkF m 0 #[.val (.ref a)] [])) rfl (hb hby d18_0)
  obtain ⟨T2, X2, e2, st2⟩ := getF X1 hx hZ hown (host := "") (Or.inl (hw _ w_22)) Via.refl e1 hp0 (g := (mkF m 7 #[.val (.ref a)] [(.ref a)])) rfl rfl (hb hby d18_7)
  obtain ⟨fs, hr, hrun, hended, hW, hsame⟩ := X2.leave (v := some (.int (1 : Int32))) (fun h => by rw [Bd.returns] at h; cases h)
  refine ⟨_, _, pre0 _ ?_, hrun, hended, _, _, rfl, ?_, ⟨_, rfl⟩, hW, hsame.mono (by decide) (by decide)⟩
  · show Steps p.tables e below (s₁.setTop (mkF m 0 #[.val (.ref a)] [])) _
    refine st1 _ ?_
    refine XS.ifNo X1.here hx rfl (hb hby d18_3) rfl ((if0 _ _).trans (feq hcz).1) ?_
    refine XS.aloadN X1.here hx rfl (hb hby d18_6) rfl rfl ?_
    show Steps p.tables e below (T1.setTop (mkF m 7 #[.val (.ref a)] [(.ref a)])) _
    refine st2 _ ?_
    refine XS.ifNo X2.here hx rfl (hb hby d18_10) rfl ((if0 _ _).trans (teq (by decide : (0 : Int32) = (0 : Int32))).2) ?_
    refine XS.iconst X2.here hx rfl (hb hby d18_13) ?_
    refine XS.goto X2.here hx rfl (pc0 := 14) (pc' := 18) rfl (hb hby d18_14) (by decide) (by decide) ?_
    show Steps p.tables e below (T2.setTop (mkF m 18 #[.val (.ref a)] [(.int (1 : Int32))])) _
    exact retN X2 hx (t := .boolean) Bd.returns (by simp) (hb hby d18_18) hr
  · show QisL1 Z a cz h0 n0 _ T2.heap _
    rw [e2]
    exact ⟨rfl, N0, rfl⟩
theorem d21_0 : decode jdk_41_method_11_code 0 = .ok (.iload_n 0, 1) := by decide +kernel
theorem d21_1 : decode jdk_41_method_11_code 1 = .ok (.ifCond .lt 8, 3) := by decide +kernel
theorem d21_4 : decode jdk_41_method_11_code 4 = .ok (.iload_n 0, 1) := by decide +kernel
theorem d21_5 : decode jdk_41_method_11_code 5 = .ok (.iload_n 1, 1) := by decide +kernel
theorem d21_6 : decode jdk_41_method_11_code 6 = .ok (.if_icmp .lt 10, 3) := by decide +kernel
theorem d21_16 : decode jdk_41_method_11_code 16 = .ok (.iload_n 0, 1) := by decide +kernel
theorem d21_17 : decode jdk_41_method_11_code 17 = .ok (.ireturn, 1) := by decide +kernel
abbrev mN4 : MethodName := ⟨"jdk/internal/util/Preconditions", "checkIndex", "(IILjava/util/function/BiFunction;)I"⟩
theorem ef_pchk (m : MethodId) (x0 : Int32) (x1 : Int32) (x2 : Value) (hx2 : x2.isRef = true) : entryFrame m #[(.int x0), (.int x1), x2] 3 = mkF m 0 #[.val (.int x0), .val (.int x1), .val x2] [] := by cases x2 <;> first | (simp [entryFrame, mkF, argsToLocals, Value.category]; done) | rfl | (simp [Value.isRef] at hx2; done)
def Qpchk (Z : State) (i : Int32) (n : Int32) (sf : Value) (h0 : Heap) (n0 : Nat) (v : Option Value) (h : Heap) (L : List Loc) : Prop := v = some (.int i) ∧ Fr n0 L ∧ h = h0
theorem pn_jdk_internal_util_Preconditions : plainName "jdk/internal/util/Preconditions" = true := by first | (simp [plainName, overriddenIn]; done) | decide +kernel
set_option maxRecDepth 65536 in
set_option maxHeartbeats 40000000 in
theorem rmpchk (l : Launch) (Z : State) (a0 : Array Value) (hw : ∀ d ∈ tables_1, d.before a0 Z = true) (ws : List Jvm.Cond) (i : Int32) (n : Int32) (sf : Value) (h0 : Heap) (n0 : Nat) (O0 : Old Z n0 h0) (hsf : (sf.isRef = true)) (h1 : (¬ (i < (0 : Int32)))) (h2 : (i < n)) :
    MetFree l mN4 (head1 (Jvm.Cond.code mN4 jdk_41_method_11_code 3 (some .int) :: ws) ({ frames := 0, cells := 0, slots := 0, locals := 0 } : Room)) (fun as_ U => as_ = #[(.int i), (.int n), sf] ∧ Z.Warmed39 U.vm ∧ U.heap = h0) (fun _ _ _ _ _ => True) (fun _ U o U' => ∃ v L, o = .returned v ∧ Qpchk Z i n sf h0 n0 v U'.heap L ∧ FrameEnd U o U' L ({ frames := 0, cells := 0, slots := 0, locals := 0 } : Room).cells ({ frames := 0, cells := 0, slots := 0, locals := 0 } : Room).slots) := by
  refine MetFree.of_bodySF (plainFor_of_name pn_jdk_internal_util_Preconditions) hisR ?_
  intro p e s m args below meth c s₁ Bd hml0 hP hK
  obtain ⟨rfl, hZ, hh⟩ := hP
  have hx := Bd.exec
  have hby := Bd.bytes
  have hml : c.maxLocals = 3 := hml0
  have hown : s.vm.findClass "jdk/internal/util/Preconditions" = some m.cls := findClass_of_methodNamed Bd.named
  have hnm := (name_of_methodNamed Bd.named Bd.method).1
  have X0 : Stand p l e ({ frames := 0, cells := 0, slots := 0, locals := 0 } : Room) s m #[(.int i), (.int n), sf] below meth c s₁ [] 0 0 := Stand.of_body Bd
  have e0 : s₁.heap = h0 := by rw [← hh, Bd.state]; rfl
  have N0 := Fr.nil n0
  have Z0 := own_z0 O0
  have pre0 : ∀ tg_, Steps p.tables e below (s₁.setTop (mkF m 0 #[.val (.int i), .val (.int n), .val sf] [])) tg_ → Steps p.tables e below (s₁.setTop (entryFrame m #[(.int i), (.int n), sf] 3)) tg_ := fun tg_ kt_ => castTop (ef_pchk m i n sf hsf) kt_
  obtain ⟨fs, hr, hrun, hended, hW, hsame⟩ := X0.leave (v := some (.int i)) (fun h => by rw [Bd.returns] at h; cases h)
  refine ⟨_, _, pre0 _ ?_, hrun, hended, _, _, rfl, ?_, ⟨_, rfl⟩, hW, hsame.mono (by decide) (by decide)⟩
  · refine XS.iloadN X0.here hx rfl (hb hby d21_0) rfl ?_
    refine XS.ifNo X0.here hx rfl (hb hby d21_1) rfl ((if0 _ _).trans (flt h1).1) ?_
    refine XS.iloadN X0.here hx rfl (hb hby d21_4) rfl ?_
    show Steps p.tables e below (s₁.setTop (mkF m 5 #[.val (.int i), .val (.int n), .val sf] [(.int i)])) _
    refine XS.iloadN X0.here hx rfl (hb hby d21_5) rfl ?_
    refine XS.icmpYes X0.here hx rfl (pc0 := 6) (pc' := 16) rfl (hb hby d21_6) rfl (tlt h2).1 (by decide) (by decide) ?_
    refine XS.iloadN X0.here hx rfl (hb hby d21_16) rfl ?_
    show Steps p.tables e below (s₁.setTop (mkF m 17 #[.val (.int i), .val (.int n), .val sf] [(.int i)])) _
    exact retI X0 hx Bd.returns (hb hby d21_17) hr
  · show Qpchk Z i n sf h0 n0 _ s₁.heap _
    rw [e0]
    exact ⟨rfl, N0, rfl⟩
theorem d20_0 : decode jdk_42_method_155_code 0 = .ok (.iload_n 0, 1) := by decide +kernel
theorem d20_1 : decode jdk_42_method_155_code 1 = .ok (.iload_n 1, 1) := by decide +kernel
theorem w_47 : (Jvm.Cond.fieldLink "java/lang/String" (1053 : Nat) "jdk/internal/util/Preconditions" "SIOOBE_FORMATTER" "Ljava/util/function/BiFunction;") ∈ tables_1 := List.mem_of_getElem? (i := 47) (by decide +kernel)
theorem d20_2 : decode jdk_42_method_155_code 2 = .ok (.getstatic 1053, 3) := by decide +kernel
theorem w_94 : (Jvm.Cond.methodLink "java/lang/String" (1059 : Nat) ({ cls := "jdk/internal/util/Preconditions", name := "checkIndex", desc := "(IILjava/util/function/BiFunction;)I" } : Jvm.MethodName)) ∈ tables_1 := List.mem_of_getElem? (i := 94) (by decide +kernel)
theorem w_96 : (Jvm.Cond.code ({ cls := "jdk/internal/util/Preconditions", name := "checkIndex", desc := "(IILjava/util/function/BiFunction;)I" } : Jvm.MethodName) jdk_41_method_11_code (3 : Nat) (Option.some Jvm.ClassFile.FieldType.int)) ∈ tables_1 := List.mem_of_getElem? (i := 96) (by decide +kernel)
theorem w_48 : (Jvm.Cond.initialized "jdk/internal/util/Preconditions") ∈ tables_1 := List.mem_of_getElem? (i := 48) (by decide +kernel)
theorem pd__IILjava_util_function_BiFunction__I : parseMethodDescriptor "(IILjava/util/function/BiFunction;)I" = some ⟨[.int, .int, (.object "java/util/function/BiFunction")], some .int⟩ := by decide +kernel
theorem d20_5 : decode jdk_42_method_155_code 5 = .ok (.invokestatic 1059, 3) := by decide +kernel
theorem w_95 : (Jvm.Cond.static ({ cls := "jdk/internal/util/Preconditions", name := "checkIndex", desc := "(IILjava/util/function/BiFunction;)I" } : Jvm.MethodName)) ∈ tables_1 := List.mem_of_getElem? (i := 95) (by decide +kernel)
theorem d20_8 : decode jdk_42_method_155_code 8 = .ok (.pop, 1) := by decide +kernel
theorem d20_9 : decode jdk_42_method_155_code 9 = .ok (.return_, 1) := by decide +kernel
abbrev mN5 : MethodName := ⟨"java/lang/String", "checkIndex", "(II)V"⟩
theorem ef_schk (m : MethodId) (x0 : Int32) (x1 : Int32) : entryFrame m #[(.int x0), (.int x1)] 2 = mkF m 0 #[.val (.int x0), .val (.int x1)] [] := by first | (simp [entryFrame, mkF, argsToLocals, Value.category]; done) | rfl
def Qschk (Z : State) (i : Int32) (n : Int32) (sf : Value) (h0 : Heap) (n0 : Nat) (v : Option Value) (h : Heap) (L : List Loc) : Prop := v = none ∧ Fr n0 L ∧ h = h0
set_option maxRecDepth 65536 in
set_option maxHeartbeats 40000000 in
theorem rmschk (l : Launch) (Z : State) (a0 : Array Value) (hw : ∀ d ∈ tables_1, d.before a0 Z = true) (ws : List Jvm.Cond) (i : Int32) (n : Int32) (sf : Value) (h0 : Heap) (n0 : Nat) (O0 : Old Z n0 h0) (hp0 : Sta Z Z.heap "jdk/internal/util/Preconditions" "SIOOBE_FORMATTER" "Ljava/util/function/BiFunction;" sf) (hsf : (sf.isRef = true)) (h1 : (¬ (i < (0 : Int32)))) (h2 : (i < n)) :
    MetFree l mN5 (head1 (Jvm.Cond.code mN5 jdk_42_method_155_code 2 none :: ws) ({ frames := 1, cells := 0, slots := 0, locals := 14 } : Room)) (fun as_ U => as_ = #[(.int i), (.int n)] ∧ Z.Warmed39 U.vm ∧ U.heap = h0) (fun _ _ _ _ _ => True) (fun _ U o U' => ∃ v L, o = .returned v ∧ Qschk Z i n sf h0 n0 v U'.heap L ∧ FrameEnd U o U' L ({ frames := 1, cells := 0, slots := 0, locals := 14 } : Room).cells ({ frames := 1, cells := 0, slots := 0, locals := 14 } : Room).slots) := by
  refine MetFree.of_bodySF (plainFor_of_name pn_java_lang_String) hisR ?_
  intro p e s m args below meth c s₁ Bd hml0 hP hK
  obtain ⟨rfl, hZ, hh⟩ := hP
  have hx := Bd.exec
  have hby := Bd.bytes
  have hml : c.maxLocals = 2 := hml0
  have hown : s.vm.findClass "java/lang/String" = some m.cls := findClass_of_methodNamed Bd.named
  have hnm := (name_of_methodNamed Bd.named Bd.method).1
  have X0 : Stand p l e ({ frames := 1, cells := 0, slots := 0, locals := 14 } : Room) s m #[(.int i), (.int n)] below meth c s₁ [] 0 0 := Stand.of_body Bd
  have e0 : s₁.heap = h0 := by rw [← hh, Bd.state]; rfl
  have N0 := Fr.nil n0
  have Z0 := own_z0 O0
  have pre0 : ∀ tg_, Steps p.tables e below (s₁.setTop (mkF m 0 #[.val (.int i), .val (.int n)] [])) tg_ → Steps p.tables e below (s₁.setTop (entryFrame m #[(.int i), (.int n)] 2)) tg_ := fun tg_ kt_ => castTop (ef_schk m i n) kt_
  obtain ⟨T1, X1, e1, st1⟩ := getS2 X0 hx hZ hown (host := "") (Or.inl (hw _ w_47)) Via.refl e0 (hp0.ext O0.2) (g := (mkF m 2 #[.val (.int i), .val (.int n)] [(.int n), (.int i)])) rfl (hb hby d20_2)
  obtain ⟨_, _, ⟨T2, L2, k2, n2⟩, -, X2, ⟨Lc2, hQ2, l2, y2, z2⟩, st2⟩ := Jvm.LawKit.callS X1 hx (y := mN4) hown (mvT hZ (hw _ w_94)) (mvT hZ (hw _ w_95)) (mvT hZ (hw _ w_48)) (mvT hZ (hw _ w_96)) (by decide) (backOf (W := 0) (rmpchk l Z a0 hw [] i n sf h0 n0 O0 hsf h1 h2) hZ (hw _ w_96) (hw _ w_48) (by decide) (by decide)) (g := (mkF m 5 #[.val (.int i), .val (.int n)] [sf, (.int n), (.int i)])) rfl (by rw [hml]; rfl) (argsL := [(.int i), (.int n), sf]) (rest := []) (lenOf pd__IILjava_util_function_BiFunction__I rfl) rfl (by show 2 * 0 + _ ≤ _; exact Nat.le_of_eq rfl) (hb hby d20_5) (fun _ _ => ⟨rfl, e1, (by decide : 0 + 0 ≤ _), (by decide : 0 + 0 ≤ _)⟩)
  dsimp only [Pt.U, Pt.locs, Pt.cells, Pt.slots] at X2 l2 y2 z2 st2 hQ2
  subst l2 y2 z2
  obtain ⟨rfl, N2q, eh2⟩ := hQ2
  have N2 := Fr.app N0 N2q
  obtain ⟨fs, hr, hrun, hended, hW, hsame⟩ := X2.leave (v := none) (fun _ => rfl)
  refine ⟨_, _, pre0 _ ?_, hrun, hended, _, _, rfl, ?_, ⟨_, rfl⟩, hW, hsame.mono (by decide) (by decide)⟩
  · refine XS.iloadN X0.here hx rfl (hb hby d20_0) rfl ?_
    refine XS.iloadN X0.here hx rfl (hb hby d20_1) rfl ?_
    show Steps p.tables e below (s₁.setTop (mkF m 2 #[.val (.int i), .val (.int n)] [(.int n), (.int i)])) _
    refine st1 _ ?_
    show Steps p.tables e below (T1.setTop (mkF m 5 #[.val (.int i), .val (.int n)] [sf, (.int n), (.int i)])) _
    refine st2 _ ?_
    refine XS.pop X2.here hx rfl (hb hby d20_8) rfl rfl ?_
    show Steps p.tables e below (T2.setTop (mkF m 9 #[.val (.int i), .val (.int n)] [])) _
    exact X2.returnOut hx Bd.returns (hb hby d20_9) hr
  · show Qschk Z i n sf h0 n0 _ T2.heap _
    rw [eh2]
    exact ⟨rfl, N2, rfl⟩
theorem d19_0 : decode jdk_43_method_2_code 0 = .ok (.iload_n 1, 1) := by decide +kernel
theorem d19_1 : decode jdk_43_method_2_code 1 = .ok (.aload_n 0, 1) := by decide +kernel
theorem d19_2 : decode jdk_43_method_2_code 2 = .ok (.arraylength, 1) := by decide +kernel
theorem w_91 : (Jvm.Cond.methodLink "java/lang/StringLatin1" (9 : Nat) ({ cls := "java/lang/String", name := "checkIndex", desc := "(II)V" } : Jvm.MethodName)) ∈ tables_1 := List.mem_of_getElem? (i := 91) (by decide +kernel)
theorem w_93 : (Jvm.Cond.code ({ cls := "java/lang/String", name := "checkIndex", desc := "(II)V" } : Jvm.MethodName) jdk_42_method_155_code (2 : Nat) (Option.none : Option Jvm.ClassFile.FieldType)) ∈ tables_1 := List.mem_of_getElem? (i := 93) (by decide +kernel)
theorem pd__II_V : parseMethodDescriptor "(II)V" = some ⟨[.int, .int], none⟩ := by decide +kernel
theorem d19_3 : decode jdk_43_method_2_code 3 = .ok (.invokestatic 9, 3) := by decide +kernel
theorem w_92 : (Jvm.Cond.static ({ cls := "java/lang/String", name := "checkIndex", desc := "(II)V" } : Jvm.MethodName)) ∈ tables_1 := List.mem_of_getElem? (i := 92) (by decide +kernel)
theorem d19_6 : decode jdk_43_method_2_code 6 = .ok (.aload_n 0, 1) := by decide +kernel
theorem d19_7 : decode jdk_43_method_2_code 7 = .ok (.iload_n 1, 1) := by decide +kernel
theorem d19_8 : decode jdk_43_method_2_code 8 = .ok (.baload, 1) := by decide +kernel
theorem d19_9 : decode jdk_43_method_2_code 9 = .ok (.sipush 255, 3) := by decide +kernel
theorem d19_12 : decode jdk_43_method_2_code 12 = .ok (.iand, 1) := by decide +kernel
theorem d19_13 : decode jdk_43_method_2_code 13 = .ok (.i2c, 1) := by decide +kernel
theorem d19_14 : decode jdk_43_method_2_code 14 = .ok (.ireturn, 1) := by decide +kernel
abbrev mN6 : MethodName := ⟨"java/lang/StringLatin1", "charAt", "([BI)C"⟩
theorem ef_l1chr (m : MethodId) (x0 : Addr) (x1 : Int32) : entryFrame m #[(.ref x0), (.int x1)] 2 = mkF m 0 #[.val (.ref x0), .val (.int x1)] [] := by first | (simp [entryFrame, mkF, argsToLocals, Value.category]; done) | rfl
def Ql1chr (Z : State) (t : Addr) (ki : Nat) (sf : Value) (kt : ClassId) (N : Nat) (xs : List Int32) (h0 : Heap) (n0 : Nat) (v : Option Value) (h : Heap) (L : List Loc) : Prop := v = some (.int (own_u xs ki)) ∧ Fr n0 L ∧ h = h0
theorem pn_java_lang_StringLatin1 : plainName "java/lang/StringLatin1" = true := by first | (simp [plainName, overriddenIn]; done) | decide +kernel
set_option maxRecDepth 65536 in
set_option maxHeartbeats 40000000 in
theorem rml1chr (l : Launch) (Z : State) (a0 : Array Value) (hw : ∀ d ∈ tables_1, d.before a0 Z = true) (ws : List Jvm.Cond) (t : Addr) (ki : Nat) (sf : Value) (kt : ClassId) (N : Nat) (xs : List Int32) (h0 : Heap) (n0 : Nat) (O0 : Old Z n0 h0) (hp0 : Sta Z Z.heap "jdk/internal/util/Preconditions" "SIOOBE_FORMATTER" "Ljava/util/function/BiFunction;" sf) (hsf : (sf.isRef = true)) (hp2 : Arv Z h0 t kt .byte (own_i N) (xs.map Value.int) (.int (0 : Int32))) (hi : (ki < N)) (hN : (N < 2147483648)) :
    MetFree l mN6 (head1 (Jvm.Cond.code mN6 jdk_43_method_2_code 2 (some .char) :: ws) ({ frames := 2, cells := 0, slots := 0, locals := 27 } : Room)) (fun as_ U => as_ = #[(.ref t), (.int (own_i ki))] ∧ Z.Warmed39 U.vm ∧ U.heap = h0) (fun _ _ _ _ _ => True) (fun _ U o U' => ∃ v L, o = .returned v ∧ Ql1chr Z t ki sf kt N xs h0 n0 v U'.heap L ∧ FrameEnd U o U' L ({ frames := 2, cells := 0, slots := 0, locals := 27 } : Room).cells ({ frames := 2, cells := 0, slots := 0, locals := 27 } : Room).slots) := by
  refine MetFree.of_bodySF (plainFor_of_name pn_java_lang_StringLatin1) hisR ?_
  intro p e s m args below meth c s₁ Bd hml0 hP hK
  obtain ⟨rfl, hZ, hh⟩ := hP
  have hx := Bd.exec
  have hby := Bd.bytes
  have hml : c.maxLocals = 2 := hml0
  have hown : s.vm.findClass "java/lang/StringLatin1" = some m.cls := findClass_of_methodNamed Bd.named
  have hnm := (name_of_methodNamed Bd.named Bd.method).1
  have X0 : Stand p l e ({ frames := 2, cells := 0, slots := 0, locals := 27 } : Room) s m #[(.ref t), (.int (own_i ki))] below meth c s₁ [] 0 0 := Stand.of_body Bd
  have e0 : s₁.heap = h0 := by rw [← hh, Bd.state]; rfl
  have N0 := Fr.nil n0
  have Z0 := own_z0 O0
  have pre0 : ∀ tg_, Steps p.tables e below (s₁.setTop (mkF m 0 #[.val (.ref t), .val (.int (own_i ki))] [])) tg_ → Steps p.tables e below (s₁.setTop (entryFrame m #[(.ref t), (.int (own_i ki))] 2)) tg_ := fun tg_ kt_ => castTop (ef_l1chr m t (own_i ki)) kt_
  obtain ⟨cl1, Ar1, -, S1, Ng1, -, -⟩ := id hp2
  obtain ⟨_, _, ⟨T2, L2, k2, n2⟩, -, X2, ⟨Lc2, hQ2, l2, y2, z2⟩, st2⟩ := Jvm.LawKit.callS X0 hx (y := mN5) hown (mvT hZ (hw _ w_91)) (mvT hZ (hw _ w_92)) (mvT hZ (hw _ w_4)) (mvT hZ (hw _ w_93)) (by decide) (backOf (W := 0) (rmschk l Z a0 hw [] (own_i ki) (own_i N) sf h0 n0 O0 hp0 hsf (own_inn (by omega)) ((own_ilt (by omega) hN).mpr hi)) hZ (hw _ w_93) (hw _ w_4) (by decide) (by decide)) (g := (mkF m 3 #[.val (.ref t), .val (.int (own_i ki))] [(.int (own_i N)), (.int (own_i ki))])) rfl (by rw [hml]; rfl) (argsL := [(.int (own_i ki)), (.int (own_i N))]) (rest := []) (lenOf pd__II_V rfl) rfl (by show 2 * 0 + _ ≤ _; exact Nat.le_of_eq rfl) (hb hby d19_3) (fun _ _ => ⟨rfl, e0, (by decide : 0 + 0 ≤ _), (by decide : 0 + 0 ≤ _)⟩)
  dsimp only [Pt.U, Pt.locs, Pt.cells, Pt.slots] at X2 l2 y2 z2 st2 hQ2
  subst l2 y2 z2
  obtain ⟨rfl, N2q, eh2⟩ := hQ2
  have N2 := Fr.app N0 N2q
  obtain ⟨cl3, Ar3, -, S3, Ng3, H3, G3⟩ := id hp2
  have hin3 : ¬ ((own_i ki) < 0 ∨ cl3.slots.size ≤ ((own_i ki)).toNatClampNeg) := inb_of S3 ⟨own_inn (by omega), (own_ilt (by omega) hN).mpr hi⟩
  have hat3 : cl3.slots[((own_i ki)).toNatClampNeg]? = some (.int (xs.getD ki 0)) := H3.at hin3 (own_gd xs (by omega))
  obtain ⟨fs, hr, hrun, hended, hW, hsame⟩ := X2.leave (v := some (.int (nar .char (((xs.getD ki 0) &&& (255 : Int32)).toUInt32.toUInt16.toUInt32.toInt32)))) (fun h => by rw [Bd.returns] at h; cases h)
  refine ⟨_, _, pre0 _ ?_, hrun, hended, _, _, rfl, ?_, ⟨_, rfl⟩, hW, hsame.mono (by decide) (by decide)⟩
  · refine XS.iloadN X0.here hx rfl (hb hby d19_0) rfl ?_
    refine XS.aloadN X0.here hx rfl (hb hby d19_1) rfl rfl ?_
    show Steps p.tables e below (s₁.setTop (mkF m 2 #[.val (.ref t), .val (.int (own_i ki))] [(.ref t), (.int (own_i ki))])) _
    refine X0.arraylength hx (by rw [e0]; exact Ar1.1) (State.isArrayOf_alike hZ.alike Ar1.2.1) (g := (mkF m 2 #[.val (.ref t), .val (.int (own_i ki))] [(.ref t), (.int (own_i ki))])) rfl rfl (hb hby d19_2) _ ?_
    rw [len_of S1 Ng1]
    show Steps p.tables e below (s₁.setTop (mkF m 3 #[.val (.ref t), .val (.int (own_i ki))] [(.int (own_i N)), (.int (own_i ki))])) _
    refine st2 _ ?_
    refine XS.aloadN X2.here hx rfl (hb hby d19_6) rfl rfl ?_
    refine XS.iloadN X2.here hx rfl (hb hby d19_7) rfl ?_
    refine X2.baloadBytes hx (j := (own_i ki)) (v := (.int (xs.getD ki 0))) (by rw [eh2]; exact Ar3.1) (State.isArrayOf_alike hZ.alike Ar3.2.1) Ar3.2.2 hin3 hat3 (g := (mkF m 8 #[.val (.ref t), .val (.int (own_i ki))] [(.int (own_i ki)), (.ref t)])) rfl rfl (hb hby d19_8) _ ?_
    show Steps p.tables e below (T2.setTop (mkF m 9 #[.val (.ref t), .val (.int (own_i ki))] [(.int (xs.getD ki 0))])) _
    refine XS.sipush X2.here hx rfl (hb hby d19_9) ?_
    refine XS.iand X2.here hx rfl (hb hby d19_12) rfl ?_
    refine XS.i2c X2.here hx rfl (hb hby d19_13) rfl ?_
    show Steps p.tables e below (T2.setTop (mkF m 14 #[.val (.ref t), .val (.int (own_i ki))] [(.int (((xs.getD ki 0) &&& (255 : Int32)).toUInt32.toUInt16.toUInt32.toInt32))])) _
    exact retN X2 hx (t := .char) Bd.returns (by simp) (hb hby d19_14) hr
  · show Ql1chr Z t ki sf kt N xs h0 n0 _ T2.heap _
    rw [eh2]
    exact ⟨(own_ret (congrArg Value.int (own_nar8 _))), N2, rfl⟩
theorem d17_0 : decode jdk_42_method_56_code 0 = .ok (.aload_n 0, 1) := by decide +kernel
theorem w_82 : (Jvm.Cond.methodLink "java/lang/String" (492 : Nat) ({ cls := "java/lang/String", name := "isLatin1", desc := "()Z" } : Jvm.MethodName)) ∈ tables_1 := List.mem_of_getElem? (i := 82) (by decide +kernel)
theorem w_86 : (Jvm.Cond.code ({ cls := "java/lang/String", name := "isLatin1", desc := "()Z" } : Jvm.MethodName) jdk_42_method_154_code (1 : Nat) (Option.some Jvm.ClassFile.FieldType.boolean)) ∈ tables_1 := List.mem_of_getElem? (i := 86) (by decide +kernel)
theorem pd___Z : parseMethodDescriptor "()Z" = some ⟨[], some .boolean⟩ := by decide +kernel
theorem d17_1 : decode jdk_42_method_56_code 1 = .ok (.invokevirtual 492, 3) := by decide +kernel
theorem w_85 : (Jvm.Cond.selects "java/lang/String" ({ cls := "java/lang/String", name := "isLatin1", desc := "()Z" } : Jvm.MethodName) ({ cls := "java/lang/String", name := "isLatin1", desc := "()Z" } : Jvm.MethodName)) ∈ tables_1 := List.mem_of_getElem? (i := 85) (by decide +kernel)
theorem w_83 : (Jvm.Cond.declares ({ cls := "java/lang/String", name := "isLatin1", desc := "()Z" } : Jvm.MethodName)) ∈ tables_1 := List.mem_of_getElem? (i := 83) (by decide +kernel)
theorem w_84 : (Jvm.Cond.instanceMethod ({ cls := "java/lang/String", name := "isLatin1", desc := "()Z" } : Jvm.MethodName)) ∈ tables_1 := List.mem_of_getElem? (i := 84) (by decide +kernel)
theorem d17_4 : decode jdk_42_method_56_code 4 = .ok (.ifCond .eq 12, 3) := by decide +kernel
theorem d17_7 : decode jdk_42_method_56_code 7 = .ok (.aload_n 0, 1) := by decide +kernel
theorem d17_8 : decode jdk_42_method_56_code 8 = .ok (.getfield 9, 3) := by decide +kernel
theorem d17_11 : decode jdk_42_method_56_code 11 = .ok (.iload_n 1, 1) := by decide +kernel
theorem w_87 : (Jvm.Cond.methodLink "java/lang/String" (495 : Nat) ({ cls := "java/lang/StringLatin1", name := "charAt", desc := "([BI)C" } : Jvm.MethodName)) ∈ tables_1 := List.mem_of_getElem? (i := 87) (by decide +kernel)
theorem w_90 : (Jvm.Cond.code ({ cls := "java/lang/StringLatin1", name := "charAt", desc := "([BI)C" } : Jvm.MethodName) jdk_43_method_2_code (2 : Nat) (Option.some Jvm.ClassFile.FieldType.char)) ∈ tables_1 := List.mem_of_getElem? (i := 90) (by decide +kernel)
theorem w_89 : (Jvm.Cond.initialized "java/lang/StringLatin1") ∈ tables_1 := List.mem_of_getElem? (i := 89) (by decide +kernel)
theorem pd__ABI_C : parseMethodDescriptor "([BI)C" = some ⟨[(.array .byte), .int], some .char⟩ := by decide +kernel
theorem d17_12 : decode jdk_42_method_56_code 12 = .ok (.invokestatic 495, 3) := by decide +kernel
theorem w_88 : (Jvm.Cond.static ({ cls := "java/lang/StringLatin1", name := "charAt", desc := "([BI)C" } : Jvm.MethodName)) ∈ tables_1 := List.mem_of_getElem? (i := 88) (by decide +kernel)
theorem d17_15 : decode jdk_42_method_56_code 15 = .ok (.ireturn, 1) := by decide +kernel
abbrev mN7 : MethodName := ⟨"java/lang/String", "charAt", "(I)C"⟩
theorem ef_schr (m : MethodId) (x0 : Addr) (x1 : Int32) : entryFrame m #[(.ref x0), (.int x1)] 2 = mkF m 0 #[.val (.ref x0), .val (.int x1)] [] := by first | (simp [entryFrame, mkF, argsToLocals, Value.category]; done) | rfl
def Qschr (Z : State) (a : Addr) (ki : Nat) (sf : Value) (cz : Int32) (t : Addr) (kt : ClassId) (N : Nat) (xs : List Int32) (h0 : Heap) (n0 : Nat) (v : Option Value) (h : Heap) (L : List Loc) : Prop := v = some (.int (own_u xs ki)) ∧ Fr n0 L ∧ h = h0
set_option maxRecDepth 65536 in
set_option maxHeartbeats 40000000 in
theorem rmschr (l : Launch) (Z : State) (a0 : Array Value) (hw : ∀ d ∈ tables_1, d.before a0 Z = true) (ws : List Jvm.Cond) (a : Addr) (ki : Nat) (sf : Value) (cz : Int32) (t : Addr) (kt : ClassId) (N : Nat) (xs : List Int32) (h0 : Heap) (n0 : Nat) (O0 : Old Z n0 h0) (hp0 : Exa Z h0 a "java/lang/String") (hp1 : Fld Z h0 a "java/lang/String" "value" "[B" (.ref t)) (hp2 : Fld Z h0 a "java/lang/String" "coder" "B" (.int (0 : Int32))) (hp3 : Arv Z h0 t kt .byte (own_i N) (xs.map Value.int) (.int (0 : Int32))) (hp4 : Sta Z Z.heap "java/lang/String" "COMPACT_STRINGS" "Z" (.int cz)) (hcz : (¬ (cz = (0 : Int32)))) (hp6 : Sta Z Z.heap "jdk/internal/util/Preconditions" "SIOOBE_FORMATTER" "Ljava/util/function/BiFunction;" sf) (hsf : (sf.isRef = true)) (hi : (ki < N)) (hN : (N < 2147483648)) :
    MetFree l mN7 (head1 (Jvm.Cond.code mN7 jdk_42_method_56_code 2 (some .char) :: ws) ({ frames := 3, cells := 0, slots := 0, locals := 40 } : Room)) (fun as_ U => as_ = #[(.ref a), (.int (own_i ki))] ∧ Z.Warmed39 U.vm ∧ U.heap = h0) (fun _ _ _ _ _ => True) (fun _ U o U' => ∃ v L, o = .returned v ∧ Qschr Z a ki sf cz t kt N xs h0 n0 v U'.heap L ∧ FrameEnd U o U' L ({ frames := 3, cells := 0, slots := 0, locals := 40 } : Room).cells ({ frames := 3, cells := 0, slots := 0, locals := 40 } : Room).slots) := by
  refine MetFree.of_bodySF (plainFor_of_name pn_java_lang_String) hisR ?_
  intro p e s m args below meth c s₁ Bd hml0 hP hK
  obtain ⟨rfl, hZ, hh⟩ := hP
  have hx := Bd.exec
  have hby := Bd.bytes
  have hml : c.maxLocals = 2 := hml0
  have hown : s.vm.findClass "java/lang/String" = some m.cls := findClass_of_methodNamed Bd.named
  have hnm := (name_of_methodNamed Bd.named Bd.method).1
  have X0 : Stand p l e ({ frames := 3, cells := 0, slots := 0, locals := 40 } : Room) s m #[(.ref a), (.int (own_i ki))] below meth c s₁ [] 0 0 := Stand.of_body Bd
  have e0 : s₁.heap = h0 := by rw [← hh, Bd.state]; rfl
  have N0 := Fr.nil n0
  have Z0 := own_z0 O0
  have pre0 : ∀ tg_, Steps p.tables e below (s₁.setTop (mkF m 0 #[.val (.ref a), .val (.int (own_i ki))] [])) tg_ → Steps p.tables e below (s₁.setTop (entryFrame m #[(.ref a), (.int (own_i ki))] 2)) tg_ := fun tg_ kt_ => castTop (ef_schr m a (own_i ki)) kt_
  obtain ⟨cq1, kq1, q1a, q1b, q1c⟩ := isOf hZ e0 hp0
  obtain ⟨_, _, ⟨T1, L1, k1, n1⟩, -, X1, ⟨Lc1, hQ1, l1, y1, z1⟩, st1⟩ := X0.virtualBack hx (y := mN3) (z := mN3) hown (mvT hZ (hw _ w_82)) (mvT hZ (hw _ w_83)) (notFace_of_selects (args := #[]) (mvT hZ (hw _ w_85))) (mvT hZ (hw _ w_85)) (mvT hZ (hw _ w_84)) (by decide) (backOf (W := 0) (rmisL1 l Z a0 hw [] a cz h0 n0 O0 hp2 hp4 hcz) hZ (hw _ w_86) (hw _ w_4) (by decide) (by decide)) q1a q1c (g := (mkF m 1 #[.val (.ref a), .val (.int (own_i ki))] [(.ref a)])) rfl (by rw [hml]; rfl) (Steps.refl _) (argsL := []) (rest := []) (lenOf pd___Z rfl) rfl (by show 2 * 0 + _ ≤ _; exact Nat.le_of_eq rfl) (hb hby d17_1) (fun _ _ => ⟨rfl, e0, (by decide : 0 + 0 ≤ _), (by decide : 0 + 0 ≤ _)⟩)
  dsimp only [Pt.U, Pt.locs, Pt.cells, Pt.slots] at X1 l1 y1 z1 st1 hQ1
  subst l1 y1 z1
  obtain ⟨rfl, N1q, eh1⟩ := hQ1
  have N1 := Fr.app N0 N1q
  obtain ⟨T2, X2, e2, st2⟩ := getF X1 hx hZ hown (host := "") (Or.inl (hw _ w_21)) Via.refl eh1 hp1 (g := (mkF m 8 #[.val (.ref a), .val (.int (own_i ki))] [(.ref a)])) rfl rfl (hb hby d17_8)
  obtain ⟨_, _, ⟨T3, L3, k3, n3⟩, -, X3, ⟨Lc3, hQ3, l3, y3, z3⟩, st3⟩ := Jvm.LawKit.callS X2 hx (y := mN6) hown (mvT hZ (hw _ w_87)) (mvT hZ (hw _ w_88)) (mvT hZ (hw _ w_89)) (mvT hZ (hw _ w_90)) (by decide) (backOf (W := 0) (rml1chr l Z a0 hw [] t ki sf kt N xs h0 n0 O0 hp6 hsf hp3 hi hN) hZ (hw _ w_90) (hw _ w_89) (by decide) (by decide)) (g := (mkF m 12 #[.val (.ref a), .val (.int (own_i ki))] [(.int (own_i ki)), (.ref t)])) rfl (by rw [hml]; rfl) (argsL := [(.ref t), (.int (own_i ki))]) (rest := []) (lenOf pd__ABI_C rfl) rfl (by show 2 * 0 + _ ≤ _; exact Nat.le_of_eq rfl) (hb hby d17_12) (fun _ _ => ⟨rfl, e2, (by decide : 0 + 0 ≤ _), (by decide : 0 + 0 ≤ _)⟩)
  dsimp only [Pt.U, Pt.locs, Pt.cells, Pt.slots] at X3 l3 y3 z3 st3 hQ3
  subst l3 y3 z3
  obtain ⟨rfl, N3q, eh3⟩ := hQ3
  have N3 := Fr.app N1 N3q
  obtain ⟨fs, hr, hrun, hended, hW, hsame⟩ := X3.leave (v := some (.int (nar .char (own_u xs ki)))) (fun h => by rw [Bd.returns] at h; cases h)
  refine ⟨_, _, pre0 _ ?_, hrun, hended, _, _, rfl, ?_, ⟨_, rfl⟩, hW, hsame.mono (by decide) (by decide)⟩
  · refine XS.aloadN X0.here hx rfl (hb hby d17_0) rfl rfl ?_
    show Steps p.tables e below (s₁.setTop (mkF m 1 #[.val (.ref a), .val (.int (own_i ki))] [(.ref a)])) _
    refine st1.trans ?_
    refine XS.ifNo X1.here hx rfl (hb hby d17_4) rfl ((if0 _ _).trans (feq (by decide : ¬ ((1 : Int32) = (0 : Int32)))).1) ?_
    refine XS.aloadN X1.here hx rfl (hb hby d17_7) rfl rfl ?_
    show Steps p.tables e below (T1.setTop (mkF m 8 #[.val (.ref a), .val (.int (own_i ki))] [(.ref a)])) _
    refine st2 _ ?_
    refine XS.iloadN X2.here hx rfl (hb hby d17_11) rfl ?_
    show Steps p.tables e below (T2.setTop (mkF m 12 #[.val (.ref a), .val (.int (own_i ki))] [(.int (own_i ki)), (.ref t)])) _
    refine st3 _ ?_
    show Steps p.tables e below (T3.setTop (mkF m 15 #[.val (.ref a), .val (.int (own_i ki))] [(.int (own_u xs ki))])) _
    exact retN X3 hx (t := .char) Bd.returns (by simp) (hb hby d17_15) hr
  · show Qschr Z a ki sf cz t kt N xs h0 n0 _ T3.heap _
    rw [eh3]
    exact ⟨(own_ret (congrArg Value.int (own_narU _ _))), N3, rfl⟩
theorem d22_0 : decode prog_56_method_5_code 0 = .ok (.iload_n 0, 1) := by decide +kernel
theorem d22_1 : decode prog_56_method_5_code 1 = .ok (.bipush 32, 2) := by decide +kernel
theorem d22_3 : decode prog_56_method_5_code 3 = .ok (.if_icmp .eq 21, 3) := by decide +kernel
theorem d22_24 : decode prog_56_method_5_code 24 = .ok (.iconst 1, 1) := by decide +kernel
theorem d22_25 : decode prog_56_method_5_code 25 = .ok (.goto 4, 3) := by decide +kernel
theorem d22_29 : decode prog_56_method_5_code 29 = .ok (.ireturn, 1) := by decide +kernel
theorem d22_6 : decode prog_56_method_5_code 6 = .ok (.iload_n 0, 1) := by decide +kernel
theorem d22_7 : decode prog_56_method_5_code 7 = .ok (.bipush 9, 2) := by decide +kernel
theorem d22_9 : decode prog_56_method_5_code 9 = .ok (.if_icmp .eq 15, 3) := by decide +kernel
theorem d22_12 : decode prog_56_method_5_code 12 = .ok (.iload_n 0, 1) := by decide +kernel
theorem d22_13 : decode prog_56_method_5_code 13 = .ok (.bipush 10, 2) := by decide +kernel
theorem d22_15 : decode prog_56_method_5_code 15 = .ok (.if_icmp .eq 9, 3) := by decide +kernel
theorem d22_18 : decode prog_56_method_5_code 18 = .ok (.iload_n 0, 1) := by decide +kernel
theorem d22_19 : decode prog_56_method_5_code 19 = .ok (.bipush 13, 2) := by decide +kernel
theorem d22_21 : decode prog_56_method_5_code 21 = .ok (.if_icmp .ne 7, 3) := by decide +kernel
theorem d22_28 : decode prog_56_method_5_code 28 = .ok (.iconst 0, 1) := by decide +kernel
abbrev mN8 : MethodName := ⟨"com/example/shelfmark/shelfmark/records/Text", "isWhiteSpace", "(C)Z"⟩
theorem ef_isWS (m : MethodId) (x0 : Int32) : entryFrame m #[(.int x0)] 1 = mkF m 0 #[.val (.int x0)] [] := by first | (simp [entryFrame, mkF, argsToLocals, Value.category]; done) | rfl
def QisWS (Z : State) (cx : Int32) (h0 : Heap) (n0 : Nat) (v : Option Value) (h : Heap) (L : List Loc) : Prop := v = some (.int (own_w cx)) ∧ Fr n0 L ∧ h = h0
theorem pn_com_example_shelfmark_shelfmark_records_Text : plainName "com/example/shelfmark/shelfmark/records/Text" = true := by first | (simp [plainName, overriddenIn]; done) | decide +kernel
set_option maxRecDepth 65536 in
set_option maxHeartbeats 40000000 in
theorem rmisWS (l : Launch) (Z : State) (a0 : Array Value) (hw : ∀ d ∈ tables_1, d.before a0 Z = true) (ws : List Jvm.Cond) (cx : Int32) (h0 : Heap) (n0 : Nat) (O0 : Old Z n0 h0)  :
    MetFree l mN8 (head1 (Jvm.Cond.code mN8 prog_56_method_5_code 1 (some .boolean) :: ws) ({ frames := 0, cells := 0, slots := 0, locals := 0 } : Room)) (fun as_ U => as_ = #[(.int cx)] ∧ Z.Warmed39 U.vm ∧ U.heap = h0) (fun _ _ _ _ _ => True) (fun _ U o U' => ∃ v L, o = .returned v ∧ QisWS Z cx h0 n0 v U'.heap L ∧ FrameEnd U o U' L ({ frames := 0, cells := 0, slots := 0, locals := 0 } : Room).cells ({ frames := 0, cells := 0, slots := 0, locals := 0 } : Room).slots) := by
  refine MetFree.of_bodySF (plainFor_of_name pn_com_example_shelfmark_shelfmark_records_Text) hisR ?_
  intro p e s m args below meth c s₁ Bd hml0 hP hK
  obtain ⟨rfl, hZ, hh⟩ := hP
  have hx := Bd.exec
  have hby := Bd.bytes
  have hml : c.maxLocals = 1 := hml0
  have hown : s.vm.findClass "com/example/shelfmark/shelfmark/records/Text" = some m.cls := findClass_of_methodNamed Bd.named
  have hnm := (name_of_methodNamed Bd.named Bd.method).1
  have X0 : Stand p l e ({ frames := 0, cells := 0, slots := 0, locals := 0 } : Room) s m #[(.int cx)] below meth c s₁ [] 0 0 := Stand.of_body Bd
  have e0 : s₁.heap = h0 := by rw [← hh, Bd.state]; rfl
  have N0 := Fr.nil n0
  have Z0 := own_z0 O0
  have pre0 : ∀ tg_, Steps p.tables e below (s₁.setTop (mkF m 0 #[.val (.int cx)] [])) tg_ → Steps p.tables e below (s₁.setTop (entryFrame m #[(.int cx)] 1)) tg_ := fun tg_ kt_ => castTop (ef_isWS m cx) kt_
  have pre1 : ∀ tg_, Steps p.tables e below (s₁.setTop (mkF m 3 #[.val (.int cx)] [(.int (32 : Int32)), (.int cx)])) tg_ → Steps p.tables e below (s₁.setTop (entryFrame m #[(.int cx)] 1)) tg_ := by
    intro tg_ kt_
    refine pre0 tg_ ?_
    refine XS.iloadN X0.here hx rfl (hb hby d22_0) rfl ?_
    refine XS.bipush X0.here hx rfl (hb hby d22_1) ?_
    exact kt_
  by_cases hc2 : cx = (32 : Int32)
  · obtain ⟨fs, hr, hrun, hended, hW, hsame⟩ := X0.leave (v := some (.int (1 : Int32))) (fun h => by rw [Bd.returns] at h; cases h)
    refine ⟨_, _, pre1 _ ?_, hrun, hended, _, _, rfl, ?_, ⟨_, rfl⟩, hW, hsame.mono (by decide) (by decide)⟩
    · refine XS.icmpYes X0.here hx rfl (pc0 := 3) (pc' := 24) rfl (hb hby d22_3) rfl (teq hc2).1 (by decide) (by decide) ?_
      show Steps p.tables e below (s₁.setTop (mkF m 24 #[.val (.int cx)] [])) _
      refine XS.iconst X0.here hx rfl (hb hby d22_24) ?_
      refine XS.goto X0.here hx rfl (pc0 := 25) (pc' := 29) rfl (hb hby d22_25) (by decide) (by decide) ?_
      show Steps p.tables e below (s₁.setTop (mkF m 29 #[.val (.int cx)] [(.int (1 : Int32))])) _
      exact retN X0 hx (t := .boolean) Bd.returns (by simp) (hb hby d22_29) hr
    · show QisWS Z cx h0 n0 _ s₁.heap _
      rw [e0]
      exact ⟨(own_ret (congrArg Value.int (by simp [own_w, hc2]))), N0, rfl⟩
  · have pre3 : ∀ tg_, Steps p.tables e below (s₁.setTop (mkF m 9 #[.val (.int cx)] [(.int (9 : Int32)), (.int cx)])) tg_ → Steps p.tables e below (s₁.setTop (entryFrame m #[(.int cx)] 1)) tg_ := by
      intro tg_ kt_
      refine pre1 tg_ ?_
      refine XS.icmpNo X0.here hx rfl (hb hby d22_3) rfl (feq hc2).1 ?_
      show Steps p.tables e below (s₁.setTop (mkF m 6 #[.val (.int cx)] [])) _
      refine XS.iloadN X0.here hx rfl (hb hby d22_6) rfl ?_
      refine XS.bipush X0.here hx rfl (hb hby d22_7) ?_
      exact kt_
    by_cases hc4 : cx = (9 : Int32)
    · obtain ⟨fs, hr, hrun, hended, hW, hsame⟩ := X0.leave (v := some (.int (1 : Int32))) (fun h => by rw [Bd.returns] at h; cases h)
      refine ⟨_, _, pre3 _ ?_, hrun, hended, _, _, rfl, ?_, ⟨_, rfl⟩, hW, hsame.mono (by decide) (by decide)⟩
      · refine XS.icmpYes X0.here hx rfl (pc0 := 9) (pc' := 24) rfl (hb hby d22_9) rfl (teq hc4).1 (by decide) (by decide) ?_
        refine XS.iconst X0.here hx rfl (hb hby d22_24) ?_
        show Steps p.tables e below (s₁.setTop (mkF m 25 #[.val (.int cx)] [(.int (1 : Int32))])) _
        refine XS.goto X0.here hx rfl (pc0 := 25) (pc' := 29) rfl (hb hby d22_25) (by decide) (by decide) ?_
        show Steps p.tables e below (s₁.setTop (mkF m 29 #[.val (.int cx)] [(.int (1 : Int32))])) _
        exact retN X0 hx (t := .boolean) Bd.returns (by simp) (hb hby d22_29) hr
      · show QisWS Z cx h0 n0 _ s₁.heap _
        rw [e0]
        exact ⟨(own_ret (congrArg Value.int (by simp [own_w, hc2, hc4]))), N0, rfl⟩
    · have pre5 : ∀ tg_, Steps p.tables e below (s₁.setTop (mkF m 15 #[.val (.int cx)] [(.int (10 : Int32)), (.int cx)])) tg_ → Steps p.tables e below (s₁.setTop (entryFrame m #[(.int cx)] 1)) tg_ := by
        intro tg_ kt_
        refine pre3 tg_ ?_
        refine XS.icmpNo X0.here hx rfl (hb hby d22_9) rfl (feq hc4).1 ?_
        refine XS.iloadN X0.here hx rfl (hb hby d22_12) rfl ?_
        show Steps p.tables e below (s₁.setTop (mkF m 13 #[.val (.int cx)] [(.int cx)])) _
        refine XS.bipush X0.here hx rfl (hb hby d22_13) ?_
        exact kt_
      by_cases hc6 : cx = (10 : Int32)
      · obtain ⟨fs, hr, hrun, hended, hW, hsame⟩ := X0.leave (v := some (.int (1 : Int32))) (fun h => by rw [Bd.returns] at h; cases h)
        refine ⟨_, _, pre5 _ ?_, hrun, hended, _, _, rfl, ?_, ⟨_, rfl⟩, hW, hsame.mono (by decide) (by decide)⟩
        · refine XS.icmpYes X0.here hx rfl (pc0 := 15) (pc' := 24) rfl (hb hby d22_15) rfl (teq hc6).1 (by decide) (by decide) ?_
          refine XS.iconst X0.here hx rfl (hb hby d22_24) ?_
          refine XS.goto X0.here hx rfl (pc0 := 25) (pc' := 29) rfl (hb hby d22_25) (by decide) (by decide) ?_
          show Steps p.tables e below (s₁.setTop (mkF m 29 #[.val (.int cx)] [(.int (1 : Int32))])) _
          exact retN X0 hx (t := .boolean) Bd.returns (by simp) (hb hby d22_29) hr
        · show QisWS Z cx h0 n0 _ s₁.heap _
          rw [e0]
          exact ⟨(own_ret (congrArg Value.int (by simp [own_w, hc2, hc4, hc6]))), N0, rfl⟩
      · have pre7 : ∀ tg_, Steps p.tables e below (s₁.setTop (mkF m 21 #[.val (.int cx)] [(.int (13 : Int32)), (.int cx)])) tg_ → Steps p.tables e below (s₁.setTop (entryFrame m #[(.int cx)] 1)) tg_ := by
          intro tg_ kt_
          refine pre5 tg_ ?_
          refine XS.icmpNo X0.here hx rfl (hb hby d22_15) rfl (feq hc6).1 ?_
          refine XS.iloadN X0.here hx rfl (hb hby d22_18) rfl ?_
          refine XS.bipush X0.here hx rfl (hb hby d22_19) ?_
          exact kt_
        by_cases hc8 : cx = (13 : Int32)
        · obtain ⟨fs, hr, hrun, hended, hW, hsame⟩ := X0.leave (v := some (.int (1 : Int32))) (fun h => by rw [Bd.returns] at h; cases h)
          refine ⟨_, _, pre7 _ ?_, hrun, hended, _, _, rfl, ?_, ⟨_, rfl⟩, hW, hsame.mono (by decide) (by decide)⟩
          · show Steps p.tables e below (s₁.setTop (mkF m 21 #[.val (.int cx)] [(.int (13 : Int32)), (.int cx)])) _
            refine XS.icmpNo X0.here hx rfl (hb hby d22_21) rfl (teq hc8).2 ?_
            refine XS.iconst X0.here hx rfl (hb hby d22_24) ?_
            refine XS.goto X0.here hx rfl (pc0 := 25) (pc' := 29) rfl (hb hby d22_25) (by decide) (by decide) ?_
            show Steps p.tables e below (s₁.setTop (mkF m 29 #[.val (.int cx)] [(.int (1 : Int32))])) _
            exact retN X0 hx (t := .boolean) Bd.returns (by simp) (hb hby d22_29) hr
          · show QisWS Z cx h0 n0 _ s₁.heap _
            rw [e0]
            exact ⟨(own_ret (congrArg Value.int (by simp [own_w, hc2, hc4, hc6, hc8]))), N0, rfl⟩
        · obtain ⟨fs, hr, hrun, hended, hW, hsame⟩ := X0.leave (v := some (.int (0 : Int32))) (fun h => by rw [Bd.returns] at h; cases h)
          refine ⟨_, _, pre7 _ ?_, hrun, hended, _, _, rfl, ?_, ⟨_, rfl⟩, hW, hsame.mono (by decide) (by decide)⟩
          · show Steps p.tables e below (s₁.setTop (mkF m 21 #[.val (.int cx)] [(.int (13 : Int32)), (.int cx)])) _
            refine XS.icmpYes X0.here hx rfl (pc0 := 21) (pc' := 28) rfl (hb hby d22_21) rfl (feq hc8).2 (by decide) (by decide) ?_
            refine XS.iconst X0.here hx rfl (hb hby d22_28) ?_
            show Steps p.tables e below (s₁.setTop (mkF m 29 #[.val (.int cx)] [(.int (0 : Int32))])) _
            exact retN X0 hx (t := .boolean) Bd.returns (by simp) (hb hby d22_29) hr
          · show QisWS Z cx h0 n0 _ s₁.heap _
            rw [e0]
            exact ⟨(own_ret (congrArg Value.int (by simp [own_w, hc2, hc4, hc6, hc8]))), N0, rfl⟩
theorem d23_0 : decode method_5_code 0 = .ok (.iload_n 0, 1) := by decide +kernel
theorem d23_1 : decode method_5_code 1 = .ok (.bipush 32, 2) := by decide +kernel
theorem d23_3 : decode method_5_code 3 = .ok (.if_icmp .eq 21, 3) := by decide +kernel
theorem d23_24 : decode method_5_code 24 = .ok (.iconst 1, 1) := by decide +kernel
theorem d23_25 : decode method_5_code 25 = .ok (.goto 4, 3) := by decide +kernel
theorem d23_29 : decode method_5_code 29 = .ok (.ireturn, 1) := by decide +kernel
theorem d23_6 : decode method_5_code 6 = .ok (.iload_n 0, 1) := by decide +kernel
theorem d23_7 : decode method_5_code 7 = .ok (.bipush 9, 2) := by decide +kernel
theorem d23_9 : decode method_5_code 9 = .ok (.if_icmp .eq 15, 3) := by decide +kernel
theorem d23_12 : decode method_5_code 12 = .ok (.iload_n 0, 1) := by decide +kernel
theorem d23_13 : decode method_5_code 13 = .ok (.bipush 10, 2) := by decide +kernel
theorem d23_15 : decode method_5_code 15 = .ok (.if_icmp .eq 9, 3) := by decide +kernel
theorem d23_18 : decode method_5_code 18 = .ok (.iload_n 0, 1) := by decide +kernel
theorem d23_19 : decode method_5_code 19 = .ok (.bipush 13, 2) := by decide +kernel
theorem d23_21 : decode method_5_code 21 = .ok (.if_icmp .ne 7, 3) := by decide +kernel
theorem d23_28 : decode method_5_code 28 = .ok (.iconst 0, 1) := by decide +kernel
abbrev mN9 : MethodName := ⟨"com/example/shelfmark/shelfmark/records/TextTrimPinLaw", "isWs", "(C)Z"⟩
theorem ef_isWs (m : MethodId) (x0 : Int32) : entryFrame m #[(.int x0)] 1 = mkF m 0 #[.val (.int x0)] [] := by first | (simp [entryFrame, mkF, argsToLocals, Value.category]; done) | rfl
def QisWs (Z : State) (cx : Int32) (h0 : Heap) (n0 : Nat) (v : Option Value) (h : Heap) (L : List Loc) : Prop := v = some (.int (own_w cx)) ∧ Fr n0 L ∧ h = h0
theorem pn_com_example_shelfmark_shelfmark_records_TextTrimPinLaw : plainName "com/example/shelfmark/shelfmark/records/TextTrimPinLaw" = true := by first | (simp [plainName, overriddenIn]; done) | decide +kernel
set_option maxRecDepth 65536 in
set_option maxHeartbeats 40000000 in
theorem rmisWs (l : Launch) (Z : State) (a0 : Array Value) (hw : ∀ d ∈ tables_1, d.before a0 Z = true) (ws : List Jvm.Cond) (cx : Int32) (h0 : Heap) (n0 : Nat) (O0 : Old Z n0 h0)  :
    MetFree l mN9 (head1 (Jvm.Cond.code mN9 method_5_code 1 (some .boolean) :: ws) ({ frames := 0, cells := 0, slots := 0, locals := 0 } : Room)) (fun as_ U => as_ = #[(.int cx)] ∧ Z.Warmed39 U.vm ∧ U.heap = h0) (fun _ _ _ _ _ => True) (fun _ U o U' => ∃ v L, o = .returned v ∧ QisWs Z cx h0 n0 v U'.heap L ∧ FrameEnd U o U' L ({ frames := 0, cells := 0, slots := 0, locals := 0 } : Room).cells ({ frames := 0, cells := 0, slots := 0, locals := 0 } : Room).slots) := by
  refine MetFree.of_bodySF (plainFor_of_name pn_com_example_shelfmark_shelfmark_records_TextTrimPinLaw) hisR ?_
  intro p e s m args below meth c s₁ Bd hml0 hP hK
  obtain ⟨rfl, hZ, hh⟩ := hP
  have hx := Bd.exec
  have hby := Bd.bytes
  have hml : c.maxLocals = 1 := hml0
  have hown : s.vm.findClass "com/example/shelfmark/shelfmark/records/TextTrimPinLaw" = some m.cls := findClass_of_methodNamed Bd.named
  have hnm := (name_of_methodNamed Bd.named Bd.method).1
  have X0 : Stand p l e ({ frames := 0, cells := 0, slots := 0, locals := 0 } : Room) s m #[(.int cx)] below meth c s₁ [] 0 0 := Stand.of_body Bd
  have e0 : s₁.heap = h0 := by rw [← hh, Bd.state]; rfl
  have N0 := Fr.nil n0
  have Z0 := own_z0 O0
  have pre0 : ∀ tg_, Steps p.tables e below (s₁.setTop (mkF m 0 #[.val (.int cx)] [])) tg_ → Steps p.tables e below (s₁.setTop (entryFrame m #[(.int cx)] 1)) tg_ := fun tg_ kt_ => castTop (ef_isWs m cx) kt_
  have pre1 : ∀ tg_, Steps p.tables e below (s₁.setTop (mkF m 3 #[.val (.int cx)] [(.int (32 : Int32)), (.int cx)])) tg_ → Steps p.tables e below (s₁.setTop (entryFrame m #[(.int cx)] 1)) tg_ := by
    intro tg_ kt_
    refine pre0 tg_ ?_
    refine XS.iloadN X0.here hx rfl (hb hby d23_0) rfl ?_
    refine XS.bipush X0.here hx rfl (hb hby d23_1) ?_
    exact kt_
  by_cases hc2 : cx = (32 : Int32)
  · obtain ⟨fs, hr, hrun, hended, hW, hsame⟩ := X0.leave (v := some (.int (1 : Int32))) (fun h => by rw [Bd.returns] at h; cases h)
    refine ⟨_, _, pre1 _ ?_, hrun, hended, _, _, rfl, ?_, ⟨_, rfl⟩, hW, hsame.mono (by decide) (by decide)⟩
    · refine XS.icmpYes X0.here hx rfl (pc0 := 3) (pc' := 24) rfl (hb hby d23_3) rfl (teq hc2).1 (by decide) (by decide) ?_
      show Steps p.tables e below (s₁.setTop (mkF m 24 #[.val (.int cx)] [])) _
      refine XS.iconst X0.here hx rfl (hb hby d23_24) ?_
      refine XS.goto X0.here hx rfl (pc0 := 25) (pc' := 29) rfl (hb hby d23_25) (by decide) (by decide) ?_
      show Steps p.tables e below (s₁.setTop (mkF m 29 #[.val (.int cx)] [(.int (1 : Int32))])) _
      exact retN X0 hx (t := .boolean) Bd.returns (by simp) (hb hby d23_29) hr
    · show QisWs Z cx h0 n0 _ s₁.heap _
      rw [e0]
      exact ⟨(own_ret (congrArg Value.int (by simp [own_w, hc2]))), N0, rfl⟩
  · have pre3 : ∀ tg_, Steps p.tables e below (s₁.setTop (mkF m 9 #[.val (.int cx)] [(.int (9 : Int32)), (.int cx)])) tg_ → Steps p.tables e below (s₁.setTop (entryFrame m #[(.int cx)] 1)) tg_ := by
      intro tg_ kt_
      refine pre1 tg_ ?_
      refine XS.icmpNo X0.here hx rfl (hb hby d23_3) rfl (feq hc2).1 ?_
      show Steps p.tables e below (s₁.setTop (mkF m 6 #[.val (.int cx)] [])) _
      refine XS.iloadN X0.here hx rfl (hb hby d23_6) rfl ?_
      refine XS.bipush X0.here hx rfl (hb hby d23_7) ?_
      exact kt_
    by_cases hc4 : cx = (9 : Int32)
    · obtain ⟨fs, hr, hrun, hended, hW, hsame⟩ := X0.leave (v := some (.int (1 : Int32))) (fun h => by rw [Bd.returns] at h; cases h)
      refine ⟨_, _, pre3 _ ?_, hrun, hended, _, _, rfl, ?_, ⟨_, rfl⟩, hW, hsame.mono (by decide) (by decide)⟩
      · refine XS.icmpYes X0.here hx rfl (pc0 := 9) (pc' := 24) rfl (hb hby d23_9) rfl (teq hc4).1 (by decide) (by decide) ?_
        refine XS.iconst X0.here hx rfl (hb hby d23_24) ?_
        show Steps p.tables e below (s₁.setTop (mkF m 25 #[.val (.int cx)] [(.int (1 : Int32))])) _
        refine XS.goto X0.here hx rfl (pc0 := 25) (pc' := 29) rfl (hb hby d23_25) (by decide) (by decide) ?_
        show Steps p.tables e below (s₁.setTop (mkF m 29 #[.val (.int cx)] [(.int (1 : Int32))])) _
        exact retN X0 hx (t := .boolean) Bd.returns (by simp) (hb hby d23_29) hr
      · show QisWs Z cx h0 n0 _ s₁.heap _
        rw [e0]
        exact ⟨(own_ret (congrArg Value.int (by simp [own_w, hc2, hc4]))), N0, rfl⟩
    · have pre5 : ∀ tg_, Steps p.tables e below (s₁.setTop (mkF m 15 #[.val (.int cx)] [(.int (10 : Int32)), (.int cx)])) tg_ → Steps p.tables e below (s₁.setTop (entryFrame m #[(.int cx)] 1)) tg_ := by
        intro tg_ kt_
        refine pre3 tg_ ?_
        refine XS.icmpNo X0.here hx rfl (hb hby d23_9) rfl (feq hc4).1 ?_
        refine XS.iloadN X0.here hx rfl (hb hby d23_12) rfl ?_
        show Steps p.tables e below (s₁.setTop (mkF m 13 #[.val (.int cx)] [(.int cx)])) _
        refine XS.bipush X0.here hx rfl (hb hby d23_13) ?_
        exact kt_
      by_cases hc6 : cx = (10 : Int32)
      · obtain ⟨fs, hr, hrun, hended, hW, hsame⟩ := X0.leave (v := some (.int (1 : Int32))) (fun h => by rw [Bd.returns] at h; cases h)
        refine ⟨_, _, pre5 _ ?_, hrun, hended, _, _, rfl, ?_, ⟨_, rfl⟩, hW, hsame.mono (by decide) (by decide)⟩
        · refine XS.icmpYes X0.here hx rfl (pc0 := 15) (pc' := 24) rfl (hb hby d23_15) rfl (teq hc6).1 (by decide) (by decide) ?_
          refine XS.iconst X0.here hx rfl (hb hby d23_24) ?_
          refine XS.goto X0.here hx rfl (pc0 := 25) (pc' := 29) rfl (hb hby d23_25) (by decide) (by decide) ?_
          show Steps p.tables e below (s₁.setTop (mkF m 29 #[.val (.int cx)] [(.int (1 : Int32))])) _
          exact retN X0 hx (t := .boolean) Bd.returns (by simp) (hb hby d23_29) hr
        · show QisWs Z cx h0 n0 _ s₁.heap _
          rw [e0]
          exact ⟨(own_ret (congrArg Value.int (by simp [own_w, hc2, hc4, hc6]))), N0, rfl⟩
      · have pre7 : ∀ tg_, Steps p.tables e below (s₁.setTop (mkF m 21 #[.val (.int cx)] [(.int (13 : Int32)), (.int cx)])) tg_ → Steps p.tables e below (s₁.setTop (entryFrame m #[(.int cx)] 1)) tg_ := by
          intro tg_ kt_
          refine pre5 tg_ ?_
          refine XS.icmpNo X0.here hx rfl (hb hby d23_15) rfl (feq hc6).1 ?_
          refine XS.iloadN X0.here hx rfl (hb hby d23_18) rfl ?_
          refine XS.bipush X0.here hx rfl (hb hby d23_19) ?_
          exact kt_
        by_cases hc8 : cx = (13 : Int32)
        · obtain ⟨fs, hr, hrun, hended, hW, hsame⟩ := X0.leave (v := some (.int (1 : Int32))) (fun h => by rw [Bd.returns] at h; cases h)
          refine ⟨_, _, pre7 _ ?_, hrun, hended, _, _, rfl, ?_, ⟨_, rfl⟩, hW, hsame.mono (by decide) (by decide)⟩
          · show Steps p.tables e below (s₁.setTop (mkF m 21 #[.val (.int cx)] [(.int (13 : Int32)), (.int cx)])) _
            refine XS.icmpNo X0.here hx rfl (hb hby d23_21) rfl (teq hc8).2 ?_
            refine XS.iconst X0.here hx rfl (hb hby d23_24) ?_
            refine XS.goto X0.here hx rfl (pc0 := 25) (pc' := 29) rfl (hb hby d23_25) (by decide) (by decide) ?_
            show Steps p.tables e below (s₁.setTop (mkF m 29 #[.val (.int cx)] [(.int (1 : Int32))])) _
            exact retN X0 hx (t := .boolean) Bd.returns (by simp) (hb hby d23_29) hr
          · show QisWs Z cx h0 n0 _ s₁.heap _
            rw [e0]
            exact ⟨(own_ret (congrArg Value.int (by simp [own_w, hc2, hc4, hc6, hc8]))), N0, rfl⟩
        · obtain ⟨fs, hr, hrun, hended, hW, hsame⟩ := X0.leave (v := some (.int (0 : Int32))) (fun h => by rw [Bd.returns] at h; cases h)
          refine ⟨_, _, pre7 _ ?_, hrun, hended, _, _, rfl, ?_, ⟨_, rfl⟩, hW, hsame.mono (by decide) (by decide)⟩
          · show Steps p.tables e below (s₁.setTop (mkF m 21 #[.val (.int cx)] [(.int (13 : Int32)), (.int cx)])) _
            refine XS.icmpYes X0.here hx rfl (pc0 := 21) (pc' := 28) rfl (hb hby d23_21) rfl (feq hc8).2 (by decide) (by decide) ?_
            refine XS.iconst X0.here hx rfl (hb hby d23_28) ?_
            show Steps p.tables e below (s₁.setTop (mkF m 29 #[.val (.int cx)] [(.int (0 : Int32))])) _
            exact retN X0 hx (t := .boolean) Bd.returns (by simp) (hb hby d23_29) hr
          · show QisWs Z cx h0 n0 _ s₁.heap _
            rw [e0]
            exact ⟨(own_ret (congrArg Value.int (by simp [own_w, hc2, hc4, hc6, hc8]))), N0, rfl⟩
theorem d27_0 : decode jdk_65_method_131_code 0 = .ok (.iload_n 1, 1) := by decide +kernel
theorem d27_1 : decode jdk_65_method_131_code 1 = .ok (.iload_n 0, 1) := by decide +kernel
theorem d27_2 : decode jdk_65_method_131_code 2 = .ok (.if_icmp .ge 35, 3) := by decide +kernel
theorem d27_37 : decode jdk_65_method_131_code 37 = .ok (.return_, 1) := by decide +kernel
abbrev mN10 : MethodName := ⟨"java/util/Arrays", "checkLength", "(II)V"⟩
theorem ef_chkLen (m : MethodId) (x0 : Int32) (x1 : Int32) : entryFrame m #[(.int x0), (.int x1)] 2 = mkF m 0 #[.val (.int x0), .val (.int x1)] [] := by first | (simp [entryFrame, mkF, argsToLocals, Value.category]; done) | rfl
def QchkLen (Z : State) (xx : Int32) (yy : Int32) (h0 : Heap) (n0 : Nat) (v : Option Value) (h : Heap) (L : List Loc) : Prop := v = none ∧ Fr n0 L ∧ h = h0
theorem pn_java_util_Arrays : plainName "java/util/Arrays" = true := by first | (simp [plainName, overriddenIn]; done) | decide +kernel
set_option maxRecDepth 65536 in
set_option maxHeartbeats 40000000 in
theorem rmchkLen (l : Launch) (Z : State) (a0 : Array Value) (hw : ∀ d ∈ tables_1, d.before a0 Z = true) (ws : List Jvm.Cond) (xx : Int32) (yy : Int32) (h0 : Heap) (n0 : Nat) (O0 : Old Z n0 h0) (hm : (¬ (yy < xx))) :
    MetFree l mN10 (head1 (Jvm.Cond.code mN10 jdk_65_method_131_code 2 none :: ws) ({ frames := 0, cells := 0, slots := 0, locals := 0 } : Room)) (fun as_ U => as_ = #[(.int xx), (.int yy)] ∧ Z.Warmed39 U.vm ∧ U.heap = h0) (fun _ _ _ _ _ => True) (fun _ U o U' => ∃ v L, o = .returned v ∧ QchkLen Z xx yy h0 n0 v U'.heap L ∧ FrameEnd U o U' L ({ frames := 0, cells := 0, slots := 0, locals := 0 } : Room).cells ({ frames := 0, cells := 0, slots := 0, locals := 0 } : Room).slots) := by
  refine MetFree.of_bodySF (plainFor_of_name pn_java_util_Arrays) hisR ?_
  intro p e s m args below meth c s₁ Bd hml0 hP hK
  obtain ⟨rfl, hZ, hh⟩ := hP
  have hx := Bd.exec
  have hby := Bd.bytes
  have hml : c.maxLocals = 2 := hml0
  have hown : s.vm.findClass "java/util/Arrays" = some m.cls := findClass_of_methodNamed Bd.named
  have hnm := (name_of_methodNamed Bd.named Bd.method).1
  have X0 : Stand p l e ({ frames := 0, cells := 0, slots := 0, locals := 0 } : Room) s m #[(.int xx), (.int yy)] below meth c s₁ [] 0 0 := Stand.of_body Bd
  have e0 : s₁.heap = h0 := by rw [← hh, Bd.state]; rfl
  have N0 := Fr.nil n0
  have Z0 := own_z0 O0
  have pre0 : ∀ tg_, Steps p.tables e below (s₁.setTop (mkF m 0 #[.val (.int xx), .val (.int yy)] [])) tg_ → Steps p.tables e below (s₁.setTop (entryFrame m #[(.int xx), (.int yy)] 2)) tg_ := fun tg_ kt_ => castTop (ef_chkLen m xx yy) kt_
  obtain ⟨fs, hr, hrun, hended, hW, hsame⟩ := X0.leave (v := none) (fun _ => rfl)
  refine ⟨_, _, pre0 _ ?_, hrun, hended, _, _, rfl, ?_, ⟨_, rfl⟩, hW, hsame.mono (by decide) (by decide)⟩
  · refine XS.iloadN X0.here hx rfl (hb hby d27_0) rfl ?_
    refine XS.iloadN X0.here hx rfl (hb hby d27_1) rfl ?_
    refine XS.icmpYes X0.here hx rfl (pc0 := 2) (pc' := 37) rfl (hb hby d27_2) rfl (flt hm).2.1 (by decide) (by decide) ?_
    show Steps p.tables e below (s₁.setTop (mkF m 37 #[.val (.int xx), .val (.int yy)] [])) _
    exact X0.returnOut hx Bd.returns (hb hby d27_37) hr
  · show QchkLen Z xx yy h0 n0 _ s₁.heap _
    rw [e0]
    exact ⟨rfl, N0, rfl⟩
theorem ef_minR (m : MethodId) (x0 : Int32) (x1 : Int32) : entryFrame m #[(.int x0), (.int x1)] 2 = mkF m 0 #[.val (.int x0), .val (.int x1)] [] := by first | (simp [entryFrame, mkF, argsToLocals, Value.category]; done) | rfl
def QminR (Z : State) (xx : Int32) (yy : Int32) (h0 : Heap) (n0 : Nat) (v : Option Value) (h : Heap) (L : List Loc) : Prop := v = some (.int yy) ∧ Fr n0 L ∧ h = h0
set_option maxRecDepth 65536 in
set_option maxHeartbeats 40000000 in
theorem rmminR (l : Launch) (Z : State) (a0 : Array Value) (hw : ∀ d ∈ tables_1, d.before a0 Z = true) (ws : List Jvm.Cond) (xx : Int32) (yy : Int32) (h0 : Heap) (n0 : Nat) (O0 : Old Z n0 h0) (hm : (¬ (xx < yy))) :
    MetFree l mN0 (head1 (Jvm.Cond.code mN0 jdk_29_method_69_code 2 (some .int) :: ws) ({ frames := 0, cells := 0, slots := 0, locals := 0 } : Room)) (fun as_ U => as_ = #[(.int xx), (.int yy)] ∧ Z.Warmed39 U.vm ∧ U.heap = h0) (fun _ _ _ _ _ => True) (fun _ U o U' => ∃ v L, o = .returned v ∧ QminR Z xx yy h0 n0 v U'.heap L ∧ FrameEnd U o U' L ({ frames := 0, cells := 0, slots := 0, locals := 0 } : Room).cells ({ frames := 0, cells := 0, slots := 0, locals := 0 } : Room).slots) := by
  refine MetFree.of_bodySF pn_b11 hisR ?_
  intro p e s m args below meth c s₁ Bd hml0 hP hK
  obtain ⟨rfl, hZ, hh⟩ := hP
  have hx := Bd.exec
  have hby := Bd.bytes
  have hml : c.maxLocals = 2 := hml0
  have hown : s.vm.findClass "java/lang/Math" = some m.cls := findClass_of_methodNamed Bd.named
  have hnm := (name_of_methodNamed Bd.named Bd.method).1
  have X0 : Stand p l e ({ frames := 0, cells := 0, slots := 0, locals := 0 } : Room) s m #[(.int xx), (.int yy)] below meth c s₁ [] 0 0 := Stand.of_body Bd
  have e0 : s₁.heap = h0 := by rw [← hh, Bd.state]; rfl
  have N0 := Fr.nil n0
  have Z0 := own_z0 O0
  have pre0 : ∀ tg_, Steps p.tables e below (s₁.setTop (mkF m 0 #[.val (.int xx), .val (.int yy)] [])) tg_ → Steps p.tables e below (s₁.setTop (entryFrame m #[(.int xx), (.int yy)] 2)) tg_ := fun tg_ kt_ => castTop (ef_minR m xx yy) kt_
  have pre1 : ∀ tg_, Steps p.tables e below (s₁.setTop (mkF m 2 #[.val (.int xx), .val (.int yy)] [(.int yy), (.int xx)])) tg_ → Steps p.tables e below (s₁.setTop (entryFrame m #[(.int xx), (.int yy)] 2)) tg_ := by
    intro tg_ kt_
    refine pre0 tg_ ?_
    refine XS.iloadN X0.here hx rfl (hb hby d11_0) rfl ?_
    refine XS.iloadN X0.here hx rfl (hb hby d11_1) rfl ?_
    exact kt_
  by_cases hc2 : yy < xx
  · obtain ⟨fs, hr, hrun, hended, hW, hsame⟩ := X0.leave (v := some (.int yy)) (fun h => by rw [Bd.returns] at h; cases h)
    refine ⟨_, _, pre1 _ ?_, hrun, hended, _, _, rfl, ?_, ⟨_, rfl⟩, hW, hsame.mono (by decide) (by decide)⟩
    · refine XS.icmpYes X0.here hx rfl (pc0 := 2) (pc' := 9) rfl (hb hby d11_2) rfl (tlt hc2).2.2.1 (by decide) (by decide) ?_
      show Steps p.tables e below (s₁.setTop (mkF m 9 #[.val (.int xx), .val (.int yy)] [])) _
      refine XS.iloadN X0.here hx rfl (hb hby d11_9) rfl ?_
      show Steps p.tables e below (s₁.setTop (mkF m 10 #[.val (.int xx), .val (.int yy)] [(.int yy)])) _
      exact retI X0 hx Bd.returns (hb hby d11_10) hr
    · show QminR Z xx yy h0 n0 _ s₁.heap _
      rw [e0]
      exact ⟨rfl, N0, rfl⟩
  · obtain ⟨fs, hr, hrun, hended, hW, hsame⟩ := X0.leave (v := some (.int xx)) (fun h => by rw [Bd.returns] at h; cases h)
    refine ⟨_, _, pre1 _ ?_, hrun, hended, _, _, rfl, ?_, ⟨_, rfl⟩, hW, hsame.mono (by decide) (by decide)⟩
    · refine XS.icmpNo X0.here hx rfl (hb hby d11_2) rfl (flt hc2).2.2.1 ?_
      show Steps p.tables e below (s₁.setTop (mkF m 5 #[.val (.int xx), .val (.int yy)] [])) _
      refine XS.iloadN X0.here hx rfl (hb hby d11_5) rfl ?_
      refine XS.goto X0.here hx rfl (pc0 := 6) (pc' := 10) rfl (hb hby d11_6) (by decide) (by decide) ?_
      show Steps p.tables e below (s₁.setTop (mkF m 10 #[.val (.int xx), .val (.int yy)] [(.int xx)])) _
      exact retI X0 hx Bd.returns (hb hby d11_10) hr
    · show QminR Z xx yy h0 n0 _ s₁.heap _
      rw [e0]
      exact ⟨(own_ret (congrArg Value.int (own_anti hm hc2))), N0, rfl⟩
theorem d26_0 : decode jdk_65_method_133_code 0 = .ok (.iload_n 1, 1) := by decide +kernel
theorem d26_1 : decode jdk_65_method_133_code 1 = .ok (.iload_n 2, 1) := by decide +kernel
theorem w_116 : (Jvm.Cond.methodLink "java/util/Arrays" (343 : Nat) ({ cls := "java/util/Arrays", name := "checkLength", desc := "(II)V" } : Jvm.MethodName)) ∈ tables_1 := List.mem_of_getElem? (i := 116) (by decide +kernel)
theorem w_118 : (Jvm.Cond.code ({ cls := "java/util/Arrays", name := "checkLength", desc := "(II)V" } : Jvm.MethodName) jdk_65_method_131_code (2 : Nat) (Option.none : Option Jvm.ClassFile.FieldType)) ∈ tables_1 := List.mem_of_getElem? (i := 118) (by decide +kernel)
theorem w_111 : (Jvm.Cond.initialized "java/util/Arrays") ∈ tables_1 := List.mem_of_getElem? (i := 111) (by decide +kernel)
theorem d26_2 : decode jdk_65_method_133_code 2 = .ok (.invokestatic 343, 3) := by decide +kernel
theorem w_117 : (Jvm.Cond.static ({ cls := "java/util/Arrays", name := "checkLength", desc := "(II)V" } : Jvm.MethodName)) ∈ tables_1 := List.mem_of_getElem? (i := 117) (by decide +kernel)
theorem d26_5 : decode jdk_65_method_133_code 5 = .ok (.iload_n 2, 1) := by decide +kernel
theorem d26_6 : decode jdk_65_method_133_code 6 = .ok (.iload_n 1, 1) := by decide +kernel
theorem d26_7 : decode jdk_65_method_133_code 7 = .ok (.isub, 1) := by decide +kernel
theorem d26_8 : decode jdk_65_method_133_code 8 = .ok (.istore_n 3, 1) := by decide +kernel
theorem d26_9 : decode jdk_65_method_133_code 9 = .ok (.iload_n 3, 1) := by decide +kernel
theorem w_16 : (Jvm.Cond.arrayClass Jvm.ClassFile.FieldType.byte) ∈ tables_1 := List.mem_of_getElem? (i := 16) (by decide +kernel)
theorem d26_10 : decode jdk_65_method_133_code 10 = .ok (.newarray .byte, 2) := by decide +kernel
theorem d26_12 : decode jdk_65_method_133_code 12 = .ok (.astore 4, 2) := by decide +kernel
theorem d26_14 : decode jdk_65_method_133_code 14 = .ok (.aload_n 0, 1) := by decide +kernel
theorem d26_15 : decode jdk_65_method_133_code 15 = .ok (.iload_n 1, 1) := by decide +kernel
theorem d26_16 : decode jdk_65_method_133_code 16 = .ok (.aload 4, 2) := by decide +kernel
theorem d26_18 : decode jdk_65_method_133_code 18 = .ok (.iconst 0, 1) := by decide +kernel
theorem d26_19 : decode jdk_65_method_133_code 19 = .ok (.aload_n 0, 1) := by decide +kernel
theorem d26_20 : decode jdk_65_method_133_code 20 = .ok (.arraylength, 1) := by decide +kernel
theorem d26_21 : decode jdk_65_method_133_code 21 = .ok (.iload_n 1, 1) := by decide +kernel
theorem d26_22 : decode jdk_65_method_133_code 22 = .ok (.isub, 1) := by decide +kernel
theorem d26_23 : decode jdk_65_method_133_code 23 = .ok (.iload_n 3, 1) := by decide +kernel
theorem w_119 : (Jvm.Cond.methodLink "java/util/Arrays" (304 : Nat) ({ cls := "java/lang/Math", name := "min", desc := "(II)I" } : Jvm.MethodName)) ∈ tables_1 := List.mem_of_getElem? (i := 119) (by decide +kernel)
theorem w_60 : (Jvm.Cond.code ({ cls := "java/lang/Math", name := "min", desc := "(II)I" } : Jvm.MethodName) jdk_29_method_69_code (2 : Nat) (Option.some Jvm.ClassFile.FieldType.int)) ∈ tables_1 := List.mem_of_getElem? (i := 60) (by decide +kernel)
theorem w_59 : (Jvm.Cond.initialized "java/lang/Math") ∈ tables_1 := List.mem_of_getElem? (i := 59) (by decide +kernel)
theorem pd__II_I : parseMethodDescriptor "(II)I" = some ⟨[.int, .int], some .int⟩ := by decide +kernel
theorem d26_24 : decode jdk_65_method_133_code 24 = .ok (.invokestatic 304, 3) := by decide +kernel
theorem w_58 : (Jvm.Cond.static ({ cls := "java/lang/Math", name := "min", desc := "(II)I" } : Jvm.MethodName)) ∈ tables_1 := List.mem_of_getElem? (i := 58) (by decide +kernel)
theorem w_120 : (Jvm.Cond.methodLink "java/util/Arrays" (150 : Nat) ({ cls := "java/lang/System", name := "arraycopy", desc := "(Ljava/lang/Object;ILjava/lang/Object;II)V" } : Jvm.MethodName)) ∈ tables_1 := List.mem_of_getElem? (i := 120) (by decide +kernel)
theorem w_123 : (Jvm.Cond.native ({ cls := "java/lang/System", name := "arraycopy", desc := "(Ljava/lang/Object;ILjava/lang/Object;II)V" } : Jvm.MethodName)) ∈ tables_1 := List.mem_of_getElem? (i := 123) (by decide +kernel)
theorem w_121 : (Jvm.Cond.static ({ cls := "java/lang/System", name := "arraycopy", desc := "(Ljava/lang/Object;ILjava/lang/Object;II)V" } : Jvm.MethodName)) ∈ tables_1 := List.mem_of_getElem? (i := 121) (by decide +kernel)
theorem w_122 : (Jvm.Cond.initialized "java/lang/System") ∈ tables_1 := List.mem_of_getElem? (i := 122) (by decide +kernel)
theorem d26_27 : decode jdk_65_method_133_code 27 = .ok (.invokestatic 150, 3) := by decide +kernel
theorem d26_30 : decode jdk_65_method_133_code 30 = .ok (.aload 4, 2) := by decide +kernel
theorem d26_32 : decode jdk_65_method_133_code 32 = .ok (.areturn, 1) := by decide +kernel
abbrev mN11 : MethodName := ⟨"java/util/Arrays", "copyOfRangeByte", "([BII)[B"⟩
theorem ef_copyRB (m : MethodId) (x0 : Addr) (x1 : Int32) (x2 : Int32) : entryFrame m #[(.ref x0), (.int x1), (.int x2)] 5 = mkF m 0 #[.val (.ref x0), .val (.int x1), .val (.int x2), .unset, .unset] [] := by first | (simp [entryFrame, mkF, argsToLocals, Value.category]; done) | rfl
def QcopyRB (Z : State) (t : Addr) (kf : Nat) (kg : Nat) (kt : ClassId) (N : Nat) (xs : List Int32) (h0 : Heap) (n0 : Nat) (v : Option Value) (h : Heap) (L : List Loc) : Prop := ∃ (r : Addr), ∃ (kr : ClassId), v = some (.ref r) ∧ Fr n0 L ∧ Keep h0 h [] ∧ h0.size ≤ r ∧ Arv Z h r kr .byte (own_i (kg - kf)) (((xs.drop kf).take (kg - kf)).map Value.int) (.int (0 : Int32))
set_option maxRecDepth 65536 in
set_option maxHeartbeats 40000000 in
theorem rmcopyRB (l : Launch) (Z : State) (a0 : Array Value) (hw : ∀ d ∈ tables_1, d.before a0 Z = true) (ws : List Jvm.Cond) (t : Addr) (kf : Nat) (kg : Nat) (kt : ClassId) (N : Nat) (xs : List Int32) (h0 : Heap) (n0 : Nat) (O0 : Old Z n0 h0) (hp0 : Arv Z h0 t kt .byte (own_i N) (xs.map Value.int) (.int (0 : Int32))) (hfg : (kf ≤ kg)) (hgN : (kg ≤ N)) (hN : (N ≤ 4)) (hgl : (kg ≤ xs.length)) :
    MetFree l mN11 (head1 (Jvm.Cond.code mN11 jdk_65_method_133_code 5 (some (.array .byte)) :: ws) ({ frames := 1, cells := 1, slots := 4, locals := 51 } : Room)) (fun as_ U => as_ = #[(.ref t), (.int (own_i kf)), (.int (own_i kg))] ∧ Z.Warmed39 U.vm ∧ U.heap = h0) (fun _ _ _ _ _ => True) (fun _ U o U' => ∃ v L, o = .returned v ∧ QcopyRB Z t kf kg kt N xs h0 n0 v U'.heap L ∧ FrameEnd U o U' L ({ frames := 1, cells := 1, slots := 4, locals := 51 } : Room).cells ({ frames := 1, cells := 1, slots := 4, locals := 51 } : Room).slots) := by
  refine MetFree.of_bodySF (plainFor_of_name pn_java_util_Arrays) hisR ?_
  intro p e s m args below meth c s₁ Bd hml0 hP hK
  obtain ⟨rfl, hZ, hh⟩ := hP
  have hx := Bd.exec
  have hby := Bd.bytes
  have hml : c.maxLocals = 5 := hml0
  have hown : s.vm.findClass "java/util/Arrays" = some m.cls := findClass_of_methodNamed Bd.named
  have hnm := (name_of_methodNamed Bd.named Bd.method).1
  have X0 : Stand p l e ({ frames := 1, cells := 1, slots := 4, locals := 51 } : Room) s m #[(.ref t), (.int (own_i kf)), (.int (own_i kg))] below meth c s₁ [] 0 0 := Stand.of_body Bd
  have e0 : s₁.heap = h0 := by rw [← hh, Bd.state]; rfl
  have N0 := Fr.nil n0
  have Z0 := own_z0 O0
  have pre0 : ∀ tg_, Steps p.tables e below (s₁.setTop (mkF m 0 #[.val (.ref t), .val (.int (own_i kf)), .val (.int (own_i kg)), .unset, .unset] [])) tg_ → Steps p.tables e below (s₁.setTop (entryFrame m #[(.ref t), (.int (own_i kf)), (.int (own_i kg))] 5)) tg_ := fun tg_ kt_ => castTop (ef_copyRB m t (own_i kf) (own_i kg)) kt_
  obtain ⟨_, _, ⟨T1, L1, k1, n1⟩, -, X1, ⟨Lc1, hQ1, l1, y1, z1⟩, st1⟩ := Jvm.LawKit.callS X0 hx (y := mN10) hown (mvT hZ (hw _ w_116)) (mvT hZ (hw _ w_117)) (mvT hZ (hw _ w_111)) (mvT hZ (hw _ w_118)) (by decide) (backOf (W := 0) (rmchkLen l Z a0 hw [] (own_i kf) (own_i kg) h0 n0 O0 (by rw [own_ilt (by omega) (by omega)]; omega)) hZ (hw _ w_118) (hw _ w_111) (by decide) (by decide)) (g := (mkF m 2 #[.val (.ref t), .val (.int (own_i kf)), .val (.int (own_i kg)), .unset, .unset] [(.int (own_i kg)), (.int (own_i kf))])) rfl (by rw [hml]; rfl) (argsL := [(.int (own_i kf)), (.int (own_i kg))]) (rest := []) (lenOf pd__II_V rfl) rfl (by show 2 * 0 + _ ≤ _; exact Nat.le_of_eq rfl) (hb hby d26_2) (fun _ _ => ⟨rfl, e0, (by decide : 0 + 0 ≤ _), (by decide : 0 + 0 ≤ _)⟩)
  dsimp only [Pt.U, Pt.locs, Pt.cells, Pt.slots] at X1 l1 y1 z1 st1 hQ1
  subst l1 y1 z1
  obtain ⟨rfl, N1q, eh1⟩ := hQ1
  have N1 := Fr.app N0 N1q
  have pre2 : ∀ tg_, Steps p.tables e below (T1.setTop (mkF m 8 #[.val (.ref t), .val (.int (own_i kf)), .val (.int (own_i kg)), .unset, .unset] [(.int ((own_i kg) - (own_i kf)))])) tg_ → Steps p.tables e below (s₁.setTop (entryFrame m #[(.ref t), (.int (own_i kf)), (.int (own_i kg))] 5)) tg_ := by
    intro tg_ kt_
    refine pre0 tg_ ?_
    refine XS.iloadN X0.here hx rfl (hb hby d26_0) rfl ?_
    refine XS.iloadN X0.here hx rfl (hb hby d26_1) rfl ?_
    show Steps p.tables e below (s₁.setTop (mkF m 2 #[.val (.ref t), .val (.int (own_i kf)), .val (.int (own_i kg)), .unset, .unset] [(.int (own_i kg)), (.int (own_i kf))])) _
    refine st1 _ ?_
    refine XS.iloadN X1.here hx rfl (hb hby d26_5) rfl ?_
    refine XS.iloadN X1.here hx rfl (hb hby d26_6) rfl ?_
    refine XS.isub X1.here hx rfl (hb hby d26_7) rfl ?_
    exact kt_
  rw [show ((own_i kg) - (own_i kf)) = (own_i (kg - kf)) from own_isub hfg] at pre2
  obtain ⟨T3, h3, k3, X3, e3, E3, A3, st3⟩ := newP X1 hx hZ (hw (Jvm.Cond.arrayClass (newarray.typeOf .byte)) w_16) eh1 (g := (mkF m 10 #[.val (.ref t), .val (.int (own_i kf)), .val (.int (own_i kg)), .val (.int (own_i (kg - kf))), .unset] [(.int (own_i (kg - kf)))])) rfl (hb hby d26_10) rfl (own_inn (by omega)) (cap := 4) (by rw [own_inat (by omega)]; omega) (by decide) (by decide) (by decide)
  obtain ⟨b3, g3⟩ : ∃ z, z = h0.size := ⟨_, rfl⟩
  rw [← g3] at A3 st3
  have sz3 : h0.size ≤ b3 := Nat.le_trans (Keep.refl h0 []).1 (Nat.le_of_eq g3.symm)
  have gn3 : n0 ≤ b3 := Nat.le_trans Z0 sz3
  have O3 : Old Z n0 h3 := O0.ext E3
  have K3 : Keep h0 h3 [] := (Keep.refl h0 []).ext E3
  have V3 : Arv Z h3 b3 k3 .byte (own_i (kg - kf)) [] (.int (0 : Int32)) := Arv.new A3 (own_inn (by omega))
  have Vp5 : Arv Z h3 b3 k3 .byte (own_i (kg - kf)) (List.replicate (kg - kf) (Value.int (0 : Int32))) (.int (0 : Int32)) := (V3).pad (pad_rep [] _ _)
  obtain ⟨cl6, Ar6, -, S6, Ng6, -, -⟩ := id (hp0.ext E3)
  have pre7 : ∀ tg_, Steps p.tables e below (T3.setTop (mkF m 23 #[.val (.ref t), .val (.int (own_i kf)), .val (.int (own_i kg)), .val (.int (own_i (kg - kf))), .val (.ref b3)] [(.int ((own_i N) - (own_i kf))), (.int (0 : Int32)), (.ref b3), (.int (own_i kf)), (.ref t)])) tg_ → Steps p.tables e below (s₁.setTop (entryFrame m #[(.ref t), (.int (own_i kf)), (.int (own_i kg))] 5)) tg_ := by
    intro tg_ kt_
    refine pre2 tg_ ?_
    show Steps p.tables e below (T1.setTop (mkF m 8 #[.val (.ref t), .val (.int (own_i kf)), .val (.int (own_i kg)), .unset, .unset] [(.int (own_i (kg - kf)))])) _
    refine XS.istoreN X1.here hx rfl (hb hby d26_8) rfl (l' := #[.val (.ref t), .val (.int (own_i kf)), .val (.int (own_i kg)), .val (.int (own_i (kg - kf))), .unset]) rfl ?_
    refine XS.iloadN X1.here hx rfl (hb hby d26_9) rfl ?_
    show Steps p.tables e below (T1.setTop (mkF m 10 #[.val (.ref t), .val (.int (own_i kf)), .val (.int (own_i kg)), .val (.int (own_i (kg - kf))), .unset] [(.int (own_i (kg - kf)))])) _
    refine st3 _ ?_
    refine XS.astore X3.here hx rfl (hb hby d26_12) rfl rfl (l' := #[.val (.ref t), .val (.int (own_i kf)), .val (.int (own_i kg)), .val (.int (own_i (kg - kf))), .val (.ref b3)]) rfl ?_
    refine XS.aloadN X3.here hx rfl (hb hby d26_14) rfl rfl ?_
    refine XS.iloadN X3.here hx rfl (hb hby d26_15) rfl ?_
    show Steps p.tables e below (T3.setTop (mkF m 16 #[.val (.ref t), .val (.int (own_i kf)), .val (.int (own_i kg)), .val (.int (own_i (kg - kf))), .val (.ref b3)] [(.int (own_i kf)), (.ref t)])) _
    refine XS.aload X3.here hx rfl (hb hby d26_16) rfl rfl ?_
    refine XS.iconst X3.here hx rfl (hb hby d26_18) ?_
    refine XS.aloadN X3.here hx rfl (hb hby d26_19) rfl rfl ?_
    show Steps p.tables e below (T3.setTop (mkF m 20 #[.val (.ref t), .val (.int (own_i kf)), .val (.int (own_i kg)), .val (.int (own_i (kg - kf))), .val (.ref b3)] [(.ref t), (.int (0 : Int32)), (.ref b3), (.int (own_i kf)), (.ref t)])) _
    refine X3.arraylength hx (by rw [e3]; exact Ar6.1) (State.isArrayOf_alike hZ.alike Ar6.2.1) (g := (mkF m 20 #[.val (.ref t), .val (.int (own_i kf)), .val (.int (own_i kg)), .val (.int (own_i (kg - kf))), .val (.ref b3)] [(.ref t), (.int (0 : Int32)), (.ref b3), (.int (own_i kf)), (.ref t)])) rfl rfl (hb hby d26_20) _ ?_
    rw [len_of S6 Ng6]
    refine XS.iloadN X3.here hx rfl (hb hby d26_21) rfl ?_
    refine XS.isub X3.here hx rfl (hb hby d26_22) rfl ?_
    exact kt_
  rw [show ((own_i N) - (own_i kf)) = (own_i (N - kf)) from own_isub (by omega)] at pre7
  obtain ⟨_, _, ⟨T8, L8, k8, n8⟩, -, X8, ⟨Lc8, hQ8, l8, y8, z8⟩, st8⟩ := Jvm.LawKit.callS X3 hx (y := mN0) hown (mvT hZ (hw _ w_119)) (mvT hZ (hw _ w_58)) (mvT hZ (hw _ w_59)) (mvT hZ (hw _ w_60)) (by decide) (backOf (W := 4) (rmminR l Z a0 hw [] (own_i (N - kf)) (own_i (kg - kf)) h3 n0 O3 (by rw [own_ilt (by omega) (by omega)]; omega)) hZ (hw _ w_60) (hw _ w_59) (by decide) (by decide)) (g := (mkF m 24 #[.val (.ref t), .val (.int (own_i kf)), .val (.int (own_i kg)), .val (.int (own_i (kg - kf))), .val (.ref b3)] [(.int (own_i (kg - kf))), (.int (own_i (N - kf))), (.int (0 : Int32)), (.ref b3), (.int (own_i kf)), (.ref t)])) rfl (by rw [hml]; rfl) (argsL := [(.int (own_i (N - kf))), (.int (own_i (kg - kf)))]) (rest := [(.int (0 : Int32)), (.ref b3), (.int (own_i kf)), (.ref t)]) (lenOf pd__II_I rfl) rfl (by show 2 * 0 + _ ≤ _; exact Nat.le_of_eq rfl) (hb hby d26_24) (fun _ _ => ⟨rfl, e3, (by decide : 1 + 0 ≤ _), (by decide : 4 + 0 ≤ _)⟩)
  dsimp only [Pt.U, Pt.locs, Pt.cells, Pt.slots] at X8 l8 y8 z8 st8 hQ8
  subst l8 y8 z8
  obtain ⟨rfl, N8q, eh8⟩ := hQ8
  have N8 := Fr.app N1 N8q
  obtain ⟨T9, h9, L9, X9, e9, N9, Kc9, V9, st9⟩ := cpA X8 hx hZ hown (hw _ w_120) (hw _ w_123) (hw _ w_121) (hw _ w_122) eh8 (hp0.ext E3) Vp5 (us := (((xs.drop kf).take (kg - kf)).map Value.int)) (Or.inl ⟨rfl, rfl⟩) (own_inn (by omega)) (by decide) (own_inn (by omega)) (by rw [own_inat (by omega), own_inat (by omega), own_inat (by omega)]; omega) (by rw [own_inat (by omega)]; show 0 + (kg - kf) ≤ kg - kf; omega) (own_slice xs (by omega) hfg hgl) (by rw [own_inat (by omega), List.length_replicate]; show 0 + (kg - kf) ≤ kg - kf; omega) N8 gn3 (g := (mkF m 27 #[.val (.ref t), .val (.int (own_i kf)), .val (.int (own_i kg)), .val (.int (own_i (kg - kf))), .val (.ref b3)] [(.int (own_i (kg - kf))), (.int (0 : Int32)), (.ref b3), (.int (own_i kf)), (.ref t)])) rfl (by rw [hml]; rfl) rfl (hb hby d26_27) (by decide) (W := 0) (by show 2 * 0 + _ ≤ _; exact Nat.le_of_eq rfl) (by decide)
  have O9 : Old Z n0 h9 := O3.keep Kc9 (allS gn3 all0)
  have K9 : Keep h0 h9 [] := K3.trans Kc9 (allS (Or.inr sz3) all0)
  have Vc9 : Arv Z h9 b3 k3 .byte (own_i (kg - kf)) (((xs.drop kf).take (kg - kf)).map Value.int) (.int (0 : Int32)) := by
    have q := V9
    rw [own_inat (a := kg - kf) (by omega), own_cp0] at q
    exact q
  obtain ⟨fs, hr, hrun, hended, hW, hsame⟩ := X9.leave (v := some (.ref b3)) (fun h => by rw [Bd.returns] at h; cases h)
  refine ⟨_, _, pre7 _ ?_, hrun, hended, _, _, rfl, ?_, ⟨_, rfl⟩, hW, hsame.mono (by decide) (by decide)⟩
  · refine XS.iloadN X3.here hx rfl (hb hby d26_23) rfl ?_
    show Steps p.tables e below (T3.setTop (mkF m 24 #[.val (.ref t), .val (.int (own_i kf)), .val (.int (own_i kg)), .val (.int (own_i (kg - kf))), .val (.ref b3)] [(.int (own_i (kg - kf))), (.int (own_i (N - kf))), (.int (0 : Int32)), (.ref b3), (.int (own_i kf)), (.ref t)])) _
    refine st8 _ ?_
    show Steps p.tables e below (T8.setTop (mkF m 27 #[.val (.ref t), .val (.int (own_i kf)), .val (.int (own_i kg)), .val (.int (own_i (kg - kf))), .val (.ref b3)] [(.int (own_i (kg - kf))), (.int (0 : Int32)), (.ref b3), (.int (own_i kf)), (.ref t)])) _
    refine st9 _ ?_
    refine XS.aload X9.here hx rfl (hb hby d26_30) rfl rfl ?_
    show Steps p.tables e below (T9.setTop (mkF m 32 #[.val (.ref t), .val (.int (own_i kf)), .val (.int (own_i kg)), .val (.int (own_i (kg - kf))), .val (.ref b3)] [(.ref b3)])) _
    jvm_step X9.here [X9.here.top, hx, (hb hby d26_32), X9.method', Bd.returns, Value.isRef, FieldType.isReference]
    first | (intro acts; rw [hr _ acts rfl rfl rfl]) | rw [hr _ _ rfl rfl rfl]
    exact Steps.refl _
  · show QcopyRB Z t kf kg kt N xs h0 n0 _ T9.heap _
    rw [e9]
    exact ⟨b3, k3, rfl, N9, K9, sz3, Vc9⟩
theorem d25_0 : decode jdk_65_method_132_code 0 = .ok (.iload_n 1, 1) := by decide +kernel
theorem d25_1 : decode jdk_65_method_132_code 1 = .ok (.ifCond .ne 9, 3) := by decide +kernel
theorem d25_4 : decode jdk_65_method_132_code 4 = .ok (.iload_n 2, 1) := by decide +kernel
theorem d25_5 : decode jdk_65_method_132_code 5 = .ok (.aload_n 0, 1) := by decide +kernel
theorem d25_6 : decode jdk_65_method_132_code 6 = .ok (.arraylength, 1) := by decide +kernel
theorem d25_7 : decode jdk_65_method_132_code 7 = .ok (.if_icmp .eq 10, 3) := by decide +kernel
theorem d25_10 : decode jdk_65_method_132_code 10 = .ok (.aload_n 0, 1) := by decide +kernel
theorem d25_11 : decode jdk_65_method_132_code 11 = .ok (.iload_n 1, 1) := by decide +kernel
theorem d25_12 : decode jdk_65_method_132_code 12 = .ok (.iload_n 2, 1) := by decide +kernel
theorem w_113 : (Jvm.Cond.methodLink "java/util/Arrays" (339 : Nat) ({ cls := "java/util/Arrays", name := "copyOfRangeByte", desc := "([BII)[B" } : Jvm.MethodName)) ∈ tables_1 := List.mem_of_getElem? (i := 113) (by decide +kernel)
theorem w_115 : (Jvm.Cond.code ({ cls := "java/util/Arrays", name := "copyOfRangeByte", desc := "([BII)[B" } : Jvm.MethodName) jdk_65_method_133_code (5 : Nat) (Option.some (Jvm.ClassFile.FieldType.array Jvm.ClassFile.FieldType.byte))) ∈ tables_1 := List.mem_of_getElem? (i := 115) (by decide +kernel)
theorem pd__ABII_AB : parseMethodDescriptor "([BII)[B" = some ⟨[(.array .byte), .int, .int], some (.array .byte)⟩ := by decide +kernel
theorem d25_13 : decode jdk_65_method_132_code 13 = .ok (.invokestatic 339, 3) := by decide +kernel
theorem w_114 : (Jvm.Cond.static ({ cls := "java/util/Arrays", name := "copyOfRangeByte", desc := "([BII)[B" } : Jvm.MethodName)) ∈ tables_1 := List.mem_of_getElem? (i := 114) (by decide +kernel)
theorem d25_16 : decode jdk_65_method_132_code 16 = .ok (.areturn, 1) := by decide +kernel
abbrev mN12 : MethodName := ⟨"java/util/Arrays", "copyOfRange", "([BII)[B"⟩
theorem ef_copyR (m : MethodId) (x0 : Addr) (x1 : Int32) (x2 : Int32) : entryFrame m #[(.ref x0), (.int x1), (.int x2)] 3 = mkF m 0 #[.val (.ref x0), .val (.int x1), .val (.int x2)] [] := by first | (simp [entryFrame, mkF, argsToLocals, Value.category]; done) | rfl
def QcopyR (Z : State) (t : Addr) (kf : Nat) (kg : Nat) (kt : ClassId) (N : Nat) (xs : List Int32) (h0 : Heap) (n0 : Nat) (v : Option Value) (h : Heap) (L : List Loc) : Prop := ∃ (r : Addr), ∃ (kr : ClassId), v = some (.ref r) ∧ Fr n0 L ∧ Keep h0 h [] ∧ h0.size ≤ r ∧ Arv Z h r kr .byte (own_i (kg - kf)) (((xs.drop kf).take (kg - kf)).map Value.int) (.int (0 : Int32))
set_option maxRecDepth 65536 in
set_option maxHeartbeats 40000000 in
theorem rmcopyR (l : Launch) (Z : State) (a0 : Array Value) (hw : ∀ d ∈ tables_1, d.before a0 Z = true) (ws : List Jvm.Cond) (t : Addr) (kf : Nat) (kg : Nat) (kt : ClassId) (N : Nat) (xs : List Int32) (h0 : Heap) (n0 : Nat) (O0 : Old Z n0 h0) (hp0 : Arv Z h0 t kt .byte (own_i N) (xs.map Value.int) (.int (0 : Int32))) (hfg : (kf ≤ kg)) (hgN : (kg ≤ N)) (hN : (N ≤ 4)) (hgl : (kg ≤ xs.length)) (hne : (¬ (kf = 0 ∧ kg = N))) :
    MetFree l mN12 (head1 (Jvm.Cond.code mN12 jdk_65_method_132_code 3 (some (.array .byte)) :: ws) ({ frames := 2, cells := 1, slots := 4, locals := 67 } : Room)) (fun as_ U => as_ = #[(.ref t), (.int (own_i kf)), (.int (own_i kg))] ∧ Z.Warmed39 U.vm ∧ U.heap = h0) (fun _ _ _ _ _ => True) (fun _ U o U' => ∃ v L, o = .returned v ∧ QcopyR Z t kf kg kt N xs h0 n0 v U'.heap L ∧ FrameEnd U o U' L ({ frames := 2, cells := 1, slots := 4, locals := 67 } : Room).cells ({ frames := 2, cells := 1, slots := 4, locals := 67 } : Room).slots) := by
  refine MetFree.of_bodySF (plainFor_of_name pn_java_util_Arrays) hisR ?_
  intro p e s m args below meth c s₁ Bd hml0 hP hK
  obtain ⟨rfl, hZ, hh⟩ := hP
  have hx := Bd.exec
  have hby := Bd.bytes
  have hml : c.maxLocals = 3 := hml0
  have hown : s.vm.findClass "java/util/Arrays" = some m.cls := findClass_of_methodNamed Bd.named
  have hnm := (name_of_methodNamed Bd.named Bd.method).1
  have X0 : Stand p l e ({ frames := 2, cells := 1, slots := 4, locals := 67 } : Room) s m #[(.ref t), (.int (own_i kf)), (.int (own_i kg))] below meth c s₁ [] 0 0 := Stand.of_body Bd
  have e0 : s₁.heap = h0 := by rw [← hh, Bd.state]; rfl
  have N0 := Fr.nil n0
  have Z0 := own_z0 O0
  have pre0 : ∀ tg_, Steps p.tables e below (s₁.setTop (mkF m 0 #[.val (.ref t), .val (.int (own_i kf)), .val (.int (own_i kg))] [])) tg_ → Steps p.tables e below (s₁.setTop (entryFrame m #[(.ref t), (.int (own_i kf)), (.int (own_i kg))] 3)) tg_ := fun tg_ kt_ => castTop (ef_copyR m t (own_i kf) (own_i kg)) kt_
  have pre1 : ∀ tg_, Steps p.tables e below (s₁.setTop (mkF m 1 #[.val (.ref t), .val (.int (own_i kf)), .val (.int (own_i kg))] [(.int (own_i kf))])) tg_ → Steps p.tables e below (s₁.setTop (entryFrame m #[(.ref t), (.int (own_i kf)), (.int (own_i kg))] 3)) tg_ := by
    intro tg_ kt_
    refine pre0 tg_ ?_
    refine XS.iloadN X0.here hx rfl (hb hby d25_0) rfl ?_
    exact kt_
  by_cases hc2 : (own_i kf) = (0 : Int32)
  · obtain ⟨cl3, Ar3, -, S3, Ng3, -, -⟩ := id hp0
    obtain ⟨_, _, ⟨T4, L4, k4, n4⟩, -, X4, ⟨Lc4, hQ4, l4, y4, z4⟩, st4⟩ := Jvm.LawKit.callS X0 hx (y := mN11) hown (mvT hZ (hw _ w_113)) (mvT hZ (hw _ w_114)) (mvT hZ (hw _ w_111)) (mvT hZ (hw _ w_115)) (by decide) (backOf (W := 0) (rmcopyRB l Z a0 hw [] t kf kg kt N xs h0 n0 O0 hp0 hfg hgN hN hgl) hZ (hw _ w_115) (hw _ w_111) (by decide) (by decide)) (g := (mkF m 13 #[.val (.ref t), .val (.int (own_i kf)), .val (.int (own_i kg))] [(.int (own_i kg)), (.int (own_i kf)), (.ref t)])) rfl (by rw [hml]; rfl) (argsL := [(.ref t), (.int (own_i kf)), (.int (own_i kg))]) (rest := []) (lenOf pd__ABII_AB rfl) rfl (by show 2 * 0 + _ ≤ _; exact Nat.le_of_eq rfl) (hb hby d25_13) (fun _ _ => ⟨rfl, e0, (by decide : 0 + 1 ≤ _), (by decide : 0 + 4 ≤ _)⟩)
    dsimp only [Pt.U, Pt.locs, Pt.cells, Pt.slots] at X4 l4 y4 z4 st4 hQ4
    subst l4 y4 z4
    obtain ⟨r_4, kr_4, rfl, N4q, Kc4, r4_1, r4_2⟩ := hQ4
    have N4 := Fr.app N0 N4q
    have sz5 : h0.size ≤ r_4 := Nat.le_trans (Keep.refl h0 []).1 r4_1
    have gn5 : n0 ≤ r_4 := Nat.le_trans Z0 sz5
    have O4 : Old Z n0 T4.heap := O0.keep Kc4 all0
    have K4 : Keep h0 T4.heap [] := (Keep.refl h0 []).trans Kc4 all0
    obtain ⟨fs, hr, hrun, hended, hW, hsame⟩ := X4.leave (v := some (.ref r_4)) (fun h => by rw [Bd.returns] at h; cases h)
    refine ⟨_, _, pre1 _ ?_, hrun, hended, _, _, rfl, ?_, ⟨_, rfl⟩, hW, hsame.mono (by decide) (by decide)⟩
    · refine XS.ifNo X0.here hx rfl (hb hby d25_1) rfl ((if0 _ _).trans (teq hc2).2) ?_
      refine XS.iloadN X0.here hx rfl (hb hby d25_4) rfl ?_
      show Steps p.tables e below (s₁.setTop (mkF m 5 #[.val (.ref t), .val (.int (own_i kf)), .val (.int (own_i kg))] [(.int (own_i kg))])) _
      refine XS.aloadN X0.here hx rfl (hb hby d25_5) rfl rfl ?_
      show Steps p.tables e below (s₁.setTop (mkF m 6 #[.val (.ref t), .val (.int (own_i kf)), .val (.int (own_i kg))] [(.ref t), (.int (own_i kg))])) _
      refine X0.arraylength hx (by rw [e0]; exact Ar3.1) (State.isArrayOf_alike hZ.alike Ar3.2.1) (g := (mkF m 6 #[.val (.ref t), .val (.int (own_i kf)), .val (.int (own_i kg))] [(.ref t), (.int (own_i kg))])) rfl rfl (hb hby d25_6) _ ?_
      rw [len_of S3 Ng3]
      refine XS.icmpNo X0.here hx rfl (hb hby d25_7) rfl (feq (fun q => hne ⟨(own_i0 (by omega)).mp hc2, (own_ieq (by omega) (by omega)).mp q⟩ : ¬ ((own_i kg) = (own_i N)))).1 ?_
      refine XS.aloadN X0.here hx rfl (hb hby d25_10) rfl rfl ?_
      refine XS.iloadN X0.here hx rfl (hb hby d25_11) rfl ?_
      show Steps p.tables e below (s₁.setTop (mkF m 12 #[.val (.ref t), .val (.int (own_i kf)), .val (.int (own_i kg))] [(.int (own_i kf)), (.ref t)])) _
      refine XS.iloadN X0.here hx rfl (hb hby d25_12) rfl ?_
      show Steps p.tables e below (s₁.setTop (mkF m 13 #[.val (.ref t), .val (.int (own_i kf)), .val (.int (own_i kg))] [(.int (own_i kg)), (.int (own_i kf)), (.ref t)])) _
      refine st4 _ ?_
      show Steps p.tables e below (T4.setTop (mkF m 16 #[.val (.ref t), .val (.int (own_i kf)), .val (.int (own_i kg))] [(.ref r_4)])) _
      jvm_step X4.here [X4.here.top, hx, (hb hby d25_16), X4.method', Bd.returns, Value.isRef, FieldType.isReference]
      first | (intro acts; rw [hr _ acts rfl rfl rfl]) | rw [hr _ _ rfl rfl rfl]
      exact Steps.refl _
    · show QcopyR Z t kf kg kt N xs h0 n0 _ T4.heap _
      exact ⟨r_4, kr_4, rfl, N4, K4, sz5, r4_2⟩
  · obtain ⟨_, _, ⟨T7, L7, k7, n7⟩, -, X7, ⟨Lc7, hQ7, l7, y7, z7⟩, st7⟩ := Jvm.LawKit.callS X0 hx (y := mN11) hown (mvT hZ (hw _ w_113)) (mvT hZ (hw _ w_114)) (mvT hZ (hw _ w_111)) (mvT hZ (hw _ w_115)) (by decide) (backOf (W := 0) (rmcopyRB l Z a0 hw [] t kf kg kt N xs h0 n0 O0 hp0 hfg hgN hN hgl) hZ (hw _ w_115) (hw _ w_111) (by decide) (by decide)) (g := (mkF m 13 #[.val (.ref t), .val (.int (own_i kf)), .val (.int (own_i kg))] [(.int (own_i kg)), (.int (own_i kf)), (.ref t)])) rfl (by rw [hml]; rfl) (argsL := [(.ref t), (.int (own_i kf)), (.int (own_i kg))]) (rest := []) (lenOf pd__ABII_AB rfl) rfl (by show 2 * 0 + _ ≤ _; exact Nat.le_of_eq rfl) (hb hby d25_13) (fun _ _ => ⟨rfl, e0, (by decide : 0 + 1 ≤ _), (by decide : 0 + 4 ≤ _)⟩)
    dsimp only [Pt.U, Pt.locs, Pt.cells, Pt.slots] at X7 l7 y7 z7 st7 hQ7
    subst l7 y7 z7
    obtain ⟨r_7, kr_7, rfl, N7q, Kc7, r7_1, r7_2⟩ := hQ7
    have N7 := Fr.app N0 N7q
    have sz8 : h0.size ≤ r_7 := Nat.le_trans (Keep.refl h0 []).1 r7_1
    have gn8 : n0 ≤ r_7 := Nat.le_trans Z0 sz8
    have O7 : Old Z n0 T7.heap := O0.keep Kc7 all0
    have K7 : Keep h0 T7.heap [] := (Keep.refl h0 []).trans Kc7 all0
    obtain ⟨fs, hr, hrun, hended, hW, hsame⟩ := X7.leave (v := some (.ref r_7)) (fun h => by rw [Bd.returns] at h; cases h)
    refine ⟨_, _, pre1 _ ?_, hrun, hended, _, _, rfl, ?_, ⟨_, rfl⟩, hW, hsame.mono (by decide) (by decide)⟩
    · refine XS.ifYes X0.here hx rfl (pc0 := 1) (pc' := 10) rfl (hb hby d25_1) rfl ((if0 _ _).trans (feq hc2).2) (by decide) (by decide) ?_
      refine XS.aloadN X0.here hx rfl (hb hby d25_10) rfl rfl ?_
      show Steps p.tables e below (s₁.setTop (mkF m 11 #[.val (.ref t), .val (.int (own_i kf)), .val (.int (own_i kg))] [(.ref t)])) _
      refine XS.iloadN X0.here hx rfl (hb hby d25_11) rfl ?_
      refine XS.iloadN X0.here hx rfl (hb hby d25_12) rfl ?_
      show Steps p.tables e below (s₁.setTop (mkF m 13 #[.val (.ref t), .val (.int (own_i kf)), .val (.int (own_i kg))] [(.int (own_i kg)), (.int (own_i kf)), (.ref t)])) _
      refine st7 _ ?_
      show Steps p.tables e below (T7.setTop (mkF m 16 #[.val (.ref t), .val (.int (own_i kf)), .val (.int (own_i kg))] [(.ref r_7)])) _
      jvm_step X7.here [X7.here.top, hx, (hb hby d25_16), X7.method', Bd.returns, Value.isRef, FieldType.isReference]
      first | (intro acts; rw [hr _ acts rfl rfl rfl]) | rw [hr _ _ rfl rfl rfl]
      exact Steps.refl _
    · show QcopyR Z t kf kg kt N xs h0 n0 _ T7.heap _
      exact ⟨r_7, kr_7, rfl, N7, K7, sz8, r7_2⟩
theorem d28_0 : decode jdk_42_method_151_code 0 = .ok (.aload_n 0, 1) := by decide +kernel
theorem w_12 : (Jvm.Cond.methodLink "java/lang/String" (1 : Nat) ({ cls := "java/lang/Object", name := "<init>", desc := "()V" } : Jvm.MethodName)) ∈ tables_1 := List.mem_of_getElem? (i := 12) (by decide +kernel)
theorem w_13 : (Jvm.Cond.instanceMethod ({ cls := "java/lang/Object", name := "<init>", desc := "()V" } : Jvm.MethodName)) ∈ tables_1 := List.mem_of_getElem? (i := 13) (by decide +kernel)
theorem w_14 : (Jvm.Cond.code ({ cls := "java/lang/Object", name := "<init>", desc := "()V" } : Jvm.MethodName) object_method_1_code (1 : Nat) (Option.none : Option Jvm.ClassFile.FieldType)) ∈ tables_1 := List.mem_of_getElem? (i := 14) (by decide +kernel)
theorem d28_1 : decode jdk_42_method_151_code 1 = .ok (.invokespecial 1, 3) := by decide +kernel
theorem d28_4 : decode jdk_42_method_151_code 4 = .ok (.aload_n 0, 1) := by decide +kernel
theorem d28_5 : decode jdk_42_method_151_code 5 = .ok (.aload_n 1, 1) := by decide +kernel
theorem w_17 : (Jvm.Cond.laysFinal "java/lang/String" "java/lang/String" "value" "[B") ∈ tables_1 := List.mem_of_getElem? (i := 17) (by decide +kernel)
theorem w_3 : (Jvm.Cond.instantiable "java/lang/String" (4 : Nat)) ∈ tables_1 := List.mem_of_getElem? (i := 3) (by decide +kernel)
theorem d28_6 : decode jdk_42_method_151_code 6 = .ok (.putfield 9, 3) := by decide +kernel
theorem d28_9 : decode jdk_42_method_151_code 9 = .ok (.aload_n 0, 1) := by decide +kernel
theorem d28_10 : decode jdk_42_method_151_code 10 = .ok (.iload_n 2, 1) := by decide +kernel
theorem w_18 : (Jvm.Cond.laysFinal "java/lang/String" "java/lang/String" "coder" "B") ∈ tables_1 := List.mem_of_getElem? (i := 18) (by decide +kernel)
theorem d28_11 : decode jdk_42_method_151_code 11 = .ok (.putfield 15, 3) := by decide +kernel
theorem d28_14 : decode jdk_42_method_151_code 14 = .ok (.return_, 1) := by decide +kernel
abbrev mN13 : MethodName := ⟨"java/lang/String", "<init>", "([BB)V"⟩
theorem ef_strBB (m : MethodId) (x0 : Addr) (x1 : Addr) (x2 : Int32) : entryFrame m #[(.ref x0), (.ref x1), (.int x2)] 3 = mkF m 0 #[.val (.ref x0), .val (.ref x1), .val (.int x2)] [] := by first | (simp [entryFrame, mkF, argsToLocals, Value.category]; done) | rfl
def QstrBB (Z : State) (a : Addr) (t : Addr) (u1 : Value) (u2 : Value) (h0 : Heap) (n0 : Nat) (v : Option Value) (h : Heap) (L : List Loc) : Prop := v = none ∧ Fr n0 L ∧ Keep h0 h [a] ∧ Exa Z h a "java/lang/String" ∧ Fld Z h a "java/lang/String" "value" "[B" (.ref t) ∧ Fld Z h a "java/lang/String" "coder" "B" (.int (0 : Int32))
set_option maxRecDepth 65536 in
set_option maxHeartbeats 40000000 in
theorem rmstrBB (l : Launch) (Z : State) (a0 : Array Value) (hw : ∀ d ∈ tables_1, d.before a0 Z = true) (ws : List Jvm.Cond) (a : Addr) (t : Addr) (u1 : Value) (u2 : Value) (h0 : Heap) (n0 : Nat) (O0 : Old Z n0 h0) (hp0 : Exa Z h0 a "java/lang/String") (hp1 : n0 ≤ a) (hp2 : Fld Z h0 a "java/lang/String" "value" "[B" u1) (hp3 : Fld Z h0 a "java/lang/String" "coder" "B" u2) :
    MetFree l mN13 (head1 (Jvm.Cond.code mN13 jdk_42_method_151_code 3 none :: ws) ({ frames := 1, cells := 0, slots := 0, locals := 12 } : Room)) (fun as_ U => as_ = #[(.ref a), (.ref t), (.int (0 : Int32))] ∧ Z.Warmed39 U.vm ∧ U.heap = h0) (fun _ _ _ _ _ => True) (fun _ U o U' => ∃ v L, o = .returned v ∧ QstrBB Z a t u1 u2 h0 n0 v U'.heap L ∧ FrameEnd U o U' L ({ frames := 1, cells := 0, slots := 0, locals := 12 } : Room).cells ({ frames := 1, cells := 0, slots := 0, locals := 12 } : Room).slots) := by
  refine MetFree.of_bodySF (plainFor_of_name pn_java_lang_String) hisR ?_
  intro p e s m args below meth c s₁ Bd hml0 hP hK
  obtain ⟨rfl, hZ, hh⟩ := hP
  have hx := Bd.exec
  have hby := Bd.bytes
  have hml : c.maxLocals = 3 := hml0
  have hown : s.vm.findClass "java/lang/String" = some m.cls := findClass_of_methodNamed Bd.named
  have hnm := (name_of_methodNamed Bd.named Bd.method).1
  have X0 : Stand p l e ({ frames := 1, cells := 0, slots := 0, locals := 12 } : Room) s m #[(.ref a), (.ref t), (.int (0 : Int32))] below meth c s₁ [] 0 0 := Stand.of_body Bd
  have e0 : s₁.heap = h0 := by rw [← hh, Bd.state]; rfl
  have N0 := Fr.nil n0
  have Z0 := own_z0 O0
  have pre0 : ∀ tg_, Steps p.tables e below (s₁.setTop (mkF m 0 #[.val (.ref a), .val (.ref t), .val (.int (0 : Int32))] [])) tg_ → Steps p.tables e below (s₁.setTop (entryFrame m #[(.ref a), (.ref t), (.int (0 : Int32))] 3)) tg_ := fun tg_ kt_ => castTop (ef_strBB m a t (0 : Int32)) kt_
  obtain ⟨T1, X1, e1, st1⟩ := initO X0 hx hZ hown (hw _ w_12) (hw _ w_13) (hw _ w_14) e0 (g := (mkF m 1 #[.val (.ref a), .val (.ref t), .val (.int (0 : Int32))] [(.ref a)])) rfl (by rw [hml]; rfl) rfl (hb hby d28_1) (by decide) (W := 0) (by show 2 * 0 + _ ≤ _; exact Nat.le_of_eq rfl) (by decide)
  obtain ⟨T2, h2, X2, e2, W2, st2⟩ := putF X1 hx hZ hown (host := "") (Or.inl (hw _ w_21)) Via.refl e1 hp2 hp0 (Or.inr ⟨(hw _ w_17), rfl, hnm⟩) (hw _ w_3) (ty := (.array .byte)) (by decide) rfl rfl (g := (mkF m 6 #[.val (.ref a), .val (.ref t), .val (.int (0 : Int32))] [(.ref t), (.ref a)])) rfl rfl (hb hby d28_6)
  have Fw2 := hp2.same W2
  have N2 := Fr.snoc X2 N0 hp1
  have O2 : Old Z n0 h2 := O0.wr W2 hp1
  have K2 : Keep h0 h2 [a] := (Keep.refl h0 [a]).wr W2 (Or.inl (List.mem_of_getElem? (i := 0) rfl))
  obtain ⟨T3, h3, X3, e3, W3, st3⟩ := putFN X2 hx hZ hown (hw _ w_22) Via.refl e2 (hp3.other W2 (Or.inr (slot_ne (Or.inr (hw _ w_18)) (Or.inr (hw _ w_17)) (by decide) (t := .byte) (t' := (.array .byte)) (by decide) (by decide)))) (hp0.wr W2) (Or.inr ⟨(hw _ w_18), rfl, hnm⟩) (hw _ w_3) (ty := .byte) (v' := (.int (0 : Int32))) (by decide) rfl rfl (g := (mkF m 11 #[.val (.ref a), .val (.ref t), .val (.int (0 : Int32))] [(.int (0 : Int32)), (.ref a)])) rfl rfl (hb hby d28_11)
  have Fw3 := (hp3.other W2 (Or.inr (slot_ne (Or.inr (hw _ w_18)) (Or.inr (hw _ w_17)) (by decide) (t := .byte) (t' := (.array .byte)) (by decide) (by decide)))).same W3
  have N3 := Fr.snoc X3 N2 hp1
  have O3 : Old Z n0 h3 := O2.wr W3 hp1
  have K3 : Keep h0 h3 [a] := K2.wr W3 (Or.inl (List.mem_of_getElem? (i := 0) rfl))
  obtain ⟨fs, hr, hrun, hended, hW, hsame⟩ := X3.leave (v := none) (fun _ => rfl)
  refine ⟨_, _, pre0 _ ?_, hrun, hended, _, _, rfl, ?_, ⟨_, rfl⟩, hW, hsame.mono (by decide) (by decide)⟩
  · refine XS.aloadN X0.here hx rfl (hb hby d28_0) rfl rfl ?_
    show Steps p.tables e below (s₁.setTop (mkF m 1 #[.val (.ref a), .val (.ref t), .val (.int (0 : Int32))] [(.ref a)])) _
    refine st1 _ ?_
    refine XS.aloadN X1.here hx rfl (hb hby d28_4) rfl rfl ?_
    refine XS.aloadN X1.here hx rfl (hb hby d28_5) rfl rfl ?_
    show Steps p.tables e below (T1.setTop (mkF m 6 #[.val (.ref a), .val (.ref t), .val (.int (0 : Int32))] [(.ref t), (.ref a)])) _
    refine st2 _ ?_
    refine XS.aloadN X2.here hx rfl (hb hby d28_9) rfl rfl ?_
    refine XS.iloadN X2.here hx rfl (hb hby d28_10) rfl ?_
    show Steps p.tables e below (T2.setTop (mkF m 11 #[.val (.ref a), .val (.ref t), .val (.int (0 : Int32))] [(.int (0 : Int32)), (.ref a)])) _
    refine st3 _ ?_
    show Steps p.tables e below (T3.setTop (mkF m 14 #[.val (.ref a), .val (.ref t), .val (.int (0 : Int32))] [])) _
    exact X3.returnOut hx Bd.returns (hb hby d28_14) hr
  · show QstrBB Z a t u1 u2 h0 n0 _ T3.heap _
    rw [e3]
    exact ⟨rfl, N3, K3, ((hp0.wr W2).wr W3), (Fw2.other W3 (Or.inr (slot_ne (Or.inr (hw _ w_17)) (Or.inr (hw _ w_18)) (by decide) (t := (.array .byte)) (t' := .byte) (by decide) (by decide)))), Fw3⟩
theorem d24_0 : decode jdk_43_method_47_code 0 = .ok (.iload_n 2, 1) := by decide +kernel
theorem d24_1 : decode jdk_43_method_47_code 1 = .ok (.ifCond .ne 6, 3) := by decide +kernel
theorem d24_4 : decode jdk_43_method_47_code 4 = .ok (.ldc 151, 2) := by decide +kernel
theorem d24_6 : decode jdk_43_method_47_code 6 = .ok (.areturn, 1) := by decide +kernel
theorem w_108 : (Jvm.Cond.classLink "java/lang/StringLatin1" (1 : Nat) "java/lang/String") ∈ tables_1 := List.mem_of_getElem? (i := 108) (by decide +kernel)
theorem d24_7 : decode jdk_43_method_47_code 7 = .ok (.new 1, 3) := by decide +kernel
theorem d24_10 : decode jdk_43_method_47_code 10 = .ok (.dup, 1) := by decide +kernel
theorem d24_11 : decode jdk_43_method_47_code 11 = .ok (.aload_n 0, 1) := by decide +kernel
theorem d24_12 : decode jdk_43_method_47_code 12 = .ok (.iload_n 1, 1) := by decide +kernel
theorem d24_13 : decode jdk_43_method_47_code 13 = .ok (.iload_n 1, 1) := by decide +kernel
theorem d24_14 : decode jdk_43_method_47_code 14 = .ok (.iload_n 2, 1) := by decide +kernel
theorem d24_15 : decode jdk_43_method_47_code 15 = .ok (.iadd, 1) := by decide +kernel
theorem w_109 : (Jvm.Cond.methodLink "java/lang/StringLatin1" (232 : Nat) ({ cls := "java/util/Arrays", name := "copyOfRange", desc := "([BII)[B" } : Jvm.MethodName)) ∈ tables_1 := List.mem_of_getElem? (i := 109) (by decide +kernel)
theorem w_112 : (Jvm.Cond.code ({ cls := "java/util/Arrays", name := "copyOfRange", desc := "([BII)[B" } : Jvm.MethodName) jdk_65_method_132_code (3 : Nat) (Option.some (Jvm.ClassFile.FieldType.array Jvm.ClassFile.FieldType.byte))) ∈ tables_1 := List.mem_of_getElem? (i := 112) (by decide +kernel)
theorem d24_16 : decode jdk_43_method_47_code 16 = .ok (.invokestatic 232, 3) := by decide +kernel
theorem w_110 : (Jvm.Cond.static ({ cls := "java/util/Arrays", name := "copyOfRange", desc := "([BII)[B" } : Jvm.MethodName)) ∈ tables_1 := List.mem_of_getElem? (i := 110) (by decide +kernel)
theorem d24_19 : decode jdk_43_method_47_code 19 = .ok (.iconst 0, 1) := by decide +kernel
theorem w_124 : (Jvm.Cond.methodLink "java/lang/StringLatin1" (112 : Nat) ({ cls := "java/lang/String", name := "<init>", desc := "([BB)V" } : Jvm.MethodName)) ∈ tables_1 := List.mem_of_getElem? (i := 124) (by decide +kernel)
theorem w_126 : (Jvm.Cond.code ({ cls := "java/lang/String", name := "<init>", desc := "([BB)V" } : Jvm.MethodName) jdk_42_method_151_code (3 : Nat) (Option.none : Option Jvm.ClassFile.FieldType)) ∈ tables_1 := List.mem_of_getElem? (i := 126) (by decide +kernel)
theorem pd__ABB_V : parseMethodDescriptor "([BB)V" = some ⟨[(.array .byte), .byte], none⟩ := by decide +kernel
theorem d24_20 : decode jdk_43_method_47_code 20 = .ok (.invokespecial 112, 3) := by decide +kernel
theorem w_125 : (Jvm.Cond.instanceMethod ({ cls := "java/lang/String", name := "<init>", desc := "([BB)V" } : Jvm.MethodName)) ∈ tables_1 := List.mem_of_getElem? (i := 125) (by decide +kernel)
theorem d24_23 : decode jdk_43_method_47_code 23 = .ok (.areturn, 1) := by decide +kernel
abbrev mN14 : MethodName := ⟨"java/lang/StringLatin1", "newString", "([BII)Ljava/lang/String;"⟩
theorem ef_newSt (m : MethodId) (x0 : Addr) (x1 : Int32) (x2 : Int32) : entryFrame m #[(.ref x0), (.int x1), (.int x2)] 3 = mkF m 0 #[.val (.ref x0), .val (.int x1), .val (.int x2)] [] := by first | (simp [entryFrame, mkF, argsToLocals, Value.category]; done) | rfl
def QnewSt (Z : State) (t : Addr) (kf : Nat) (kl : Nat) (kt : ClassId) (N : Nat) (xs : List Int32) (h0 : Heap) (n0 : Nat) (v : Option Value) (h : Heap) (L : List Loc) : Prop := ∃ (r : Addr), ∃ (t2 : Addr), ∃ (kt2 : ClassId), v = some (.ref r) ∧ Fr n0 L ∧ Keep h0 h [] ∧ Exa Z h r "java/lang/String" ∧ Fld Z h r "java/lang/String" "value" "[B" (.ref t2) ∧ Fld Z h r "java/lang/String" "coder" "B" (.int (0 : Int32)) ∧ Arv Z h t2 kt2 .byte (own_i kl) (((xs.drop kf).take kl).map Value.int) (.int (0 : Int32))
set_option maxRecDepth 65536 in
set_option maxHeartbeats 40000000 in
theorem rmnewSt (l : Launch) (Z : State) (a0 : Array Value) (hw : ∀ d ∈ tables_1, d.before a0 Z = true) (ws : List Jvm.Cond) (t : Addr) (kf : Nat) (kl : Nat) (kt : ClassId) (N : Nat) (xs : List Int32) (h0 : Heap) (n0 : Nat) (O0 : Old Z n0 h0) (hp0 : Arv Z h0 t kt .byte (own_i N) (xs.map Value.int) (.int (0 : Int32))) (hN : (N ≤ 4)) (hlen : (xs.length = N)) (hle : (kf + kl ≤ N)) (hne : (¬ (kf = 0 ∧ kf + kl = N))) :
    MetFree l mN14 (head1 (Jvm.Cond.code mN14 jdk_43_method_47_code 3 (some (.object "java/lang/String")) :: ws) ({ frames := 3, cells := 2, slots := 8, locals := 83 } : Room)) (fun as_ U => as_ = #[(.ref t), (.int (own_i kf)), (.int (own_i kl))] ∧ Z.Warmed39 U.vm ∧ U.heap = h0 ∧ CHv Z own_EL U.vm h0) (fun _ _ _ _ _ => True) (fun _ U o U' => ∃ v L, o = .returned v ∧ QnewSt Z t kf kl kt N xs h0 n0 v U'.heap L ∧ CHr Z own_EL U.vm U.heap U'.vm U'.heap ∧ ReturnedEndW U o U' L ({ frames := 3, cells := 2, slots := 8, locals := 83 } : Room).cells ({ frames := 3, cells := 2, slots := 8, locals := 83 } : Room).slots) := by
  refine MetFree.of_bodySF (plainFor_of_name pn_java_lang_StringLatin1) hisR ?_
  intro p e s m args below meth c s₁ Bd hml0 hP hK
  obtain ⟨rfl, hZ, hh, HC0⟩ := hP
  have hx := Bd.exec
  have hby := Bd.bytes
  have hml : c.maxLocals = 3 := hml0
  have hown : s.vm.findClass "java/lang/StringLatin1" = some m.cls := findClass_of_methodNamed Bd.named
  have hnm := (name_of_methodNamed Bd.named Bd.method).1
  have X0 : Stand p l e ({ frames := 3, cells := 2, slots := 8, locals := 83 } : Room) (s.setVm s.vm) m #[(.ref t), (.int (own_i kf)), (.int (own_i kl))] below meth c s₁ [] 0 0 := Stand.of_body Bd
  have hS : s.Since s.vm 0 := (State.WarmedH.refl s).since 0
  have hk : 0 ≤ h0.size := Nat.zero_le _
  have hEL := own_EW hw
  have wS := own_wS hw
  have hZ : Z.Warmed39 (s.setVm s.vm).vm := hZ
  have hown : (s.setVm s.vm).vm.findClass "java/lang/StringLatin1" = some m.cls := hown
  have e0 : s₁.heap = h0 := by rw [← hh, Bd.state]; rfl
  have N0 := Fr.nil n0
  have Z0 := own_z0 O0
  have pre0 : ∀ tg_, Steps p.tables e below (s₁.setTop (mkF m 0 #[.val (.ref t), .val (.int (own_i kf)), .val (.int (own_i kl))] [])) tg_ → Steps p.tables e below (s₁.setTop (entryFrame m #[(.ref t), (.int (own_i kf)), (.int (own_i kl))] 3)) tg_ := fun tg_ kt_ => castTop (ef_newSt m t (own_i kf) (own_i kl)) kt_
  have pre1 : ∀ tg_, Steps p.tables e below (s₁.setTop (mkF m 1 #[.val (.ref t), .val (.int (own_i kf)), .val (.int (own_i kl))] [(.int (own_i kl))])) tg_ → Steps p.tables e below (s₁.setTop (entryFrame m #[(.ref t), (.int (own_i kf)), (.int (own_i kl))] 3)) tg_ := by
    intro tg_ kt_
    refine pre0 tg_ ?_
    refine XS.iloadN X0.here hx rfl (hb hby d24_0) rfl ?_
    exact kt_
  by_cases hc2 : (own_i kl) = (0 : Int32)
  · obtain ⟨a3, T3, h3, kq3, sb3, kb3, X3, e3, E3, hS, hk, hZ, hown, A3, Fc3, Fv3, V3, lt3, lu3, R3, Li3, Sf3, st3⟩ := ldcCH X0 hx hZ hown (hw _ w_107) wS e0 hS hk hEL (by decide) HC0 (vs := []) (z := (0 : Int32)) ⟨by decide, by decide⟩ (by decide) (by decide) (g := (mkF m 4 #[.val (.ref t), .val (.int (own_i kf)), .val (.int (own_i kl))] [])) rfl (hb hby d24_4) (n := 0) (by decide) (by decide) (by decide) (by decide)
    have O3 : Old Z n0 h3 := O0.ext E3
    have K3 : Keep h0 h3 [] := (Keep.refl h0 []).ext E3
    have HC3 := R3.1
    have RC3 := (CHr.refl HC0).trans R3
    obtain ⟨fs, hr, hrun, hended, hRE⟩ := X3.leaveW hS (show _ ≤ T3.heap.size by rw [e3]; exact hk) (v := some (.ref a3)) (fun h => by rw [Bd.returns] at h; cases h)
    refine ⟨_, _, pre1 _ ?_, hrun, hended, _, _, rfl, ?_, ?_, ⟨hRE.1, hRE.2.1, hRE.2.2.1, hRE.2.2.2.mono (by decide) (by decide)⟩⟩
    · refine XS.ifNo X0.here hx rfl (hb hby d24_1) rfl ((if0 _ _).trans (teq hc2).2) ?_
      show Steps p.tables e below (s₁.setTop (mkF m 4 #[.val (.ref t), .val (.int (own_i kf)), .val (.int (own_i kl))] [])) _
      refine st3 _ ?_
      show Steps p.tables e below (T3.setTop (mkF m 6 #[.val (.ref t), .val (.int (own_i kf)), .val (.int (own_i kl))] [(.ref a3)])) _
      jvm_step X3.here [X3.here.top, hx, (hb hby d24_6), X3.method', Bd.returns, Value.isRef, FieldType.isReference]
      first | (intro acts; rw [hr _ acts rfl rfl rfl]) | rw [hr _ _ rfl rfl rfl]
      exact Steps.refl _
    · show QnewSt Z t kf kl kt N xs h0 n0 _ T3.heap _
      rw [e3]
      exact ⟨a3, sb3, kb3, rfl, N0, K3, A3, Fv3, Fc3, (by rw [show kl = 0 from (own_i0 (by omega)).mp hc2]; exact V3)⟩
    · rw [hh]
      show CHr Z own_EL s.vm h0 T3.vm T3.heap
      rw [e3]
      exact RC3.trans (CHv.at X3 hZ hEL HC3)
  · obtain ⟨T4, h4, X4, e4, E4, A4, D4, U4, st4⟩ := newO X0 hx hZ hown (hw _ w_108) (hw _ w_3) (hw _ w_4) e0 (g := (mkF m 7 #[.val (.ref t), .val (.int (own_i kf)), .val (.int (own_i kl))] [])) rfl (hb hby d24_7) (by decide) (by decide)
    obtain ⟨b4, g4⟩ : ∃ z, z = h0.size := ⟨_, rfl⟩
    rw [← g4] at A4 D4 U4 st4
    have Un4 : Unt h4 b4 := U4
    have sz4 : h0.size ≤ b4 := Nat.le_trans (Keep.refl h0 []).1 (Nat.le_of_eq g4.symm)
    have gn4 : n0 ≤ b4 := Nat.le_trans Z0 sz4
    have O4 : Old Z n0 h4 := O0.ext E4
    have K4 : Keep h0 h4 [] := (Keep.refl h0 []).ext E4
    have hk := Nat.le_trans hk E4.1
    have HC4 := CHv.ext E4 HC0
    have RC4 := (CHr.refl HC0).trans (CHr.ext E4 HC0)
    have F4_17 : Fld Z h4 b4 "java/lang/String" "value" "[B" .null := D4 (Or.inr (hw _ w_17)) (ty := (.array .byte)) (by decide)
    have F4_18 : Fld Z h4 b4 "java/lang/String" "coder" "B" (.int (0 : Int32)) := D4 (Or.inr (hw _ w_18)) (ty := .byte) (by decide)
    have pre6 : ∀ tg_, Steps p.tables e below (T4.setTop (mkF m 16 #[.val (.ref t), .val (.int (own_i kf)), .val (.int (own_i kl))] [(.int ((own_i kf) + (own_i kl))), (.int (own_i kf)), (.ref t), (.ref b4), (.ref b4)])) tg_ → Steps p.tables e below (s₁.setTop (entryFrame m #[(.ref t), (.int (own_i kf)), (.int (own_i kl))] 3)) tg_ := by
      intro tg_ kt_
      refine pre1 tg_ ?_
      refine XS.ifYes X0.here hx rfl (pc0 := 1) (pc' := 7) rfl (hb hby d24_1) rfl ((if0 _ _).trans (feq hc2).2) (by decide) (by decide) ?_
      show Steps p.tables e below (s₁.setTop (mkF m 7 #[.val (.ref t), .val (.int (own_i kf)), .val (.int (own_i kl))] [])) _
      refine st4 _ ?_
      refine XS.dup X4.here hx rfl (hb hby d24_10) rfl rfl ?_
      refine XS.aloadN X4.here hx rfl (hb hby d24_11) rfl rfl ?_
      refine XS.iloadN X4.here hx rfl (hb hby d24_12) rfl ?_
      show Steps p.tables e below (T4.setTop (mkF m 13 #[.val (.ref t), .val (.int (own_i kf)), .val (.int (own_i kl))] [(.int (own_i kf)), (.ref t), (.ref b4), (.ref b4)])) _
      refine XS.iloadN X4.here hx rfl (hb hby d24_13) rfl ?_
      refine XS.iloadN X4.here hx rfl (hb hby d24_14) rfl ?_
      refine XS.iadd X4.here hx rfl (hb hby d24_15) rfl ?_
      exact kt_
    rw [show ((own_i kf) + (own_i kl)) = (own_i (kf + kl)) from own_iadd _ _] at pre6
    obtain ⟨_, _, ⟨T7, L7, k7, n7⟩, -, X7, ⟨Lc7, hQ7, l7, y7, z7⟩, st7⟩ := Jvm.LawKit.callS X4 hx (y := mN12) hown (mvT hZ (hw _ w_109)) (mvT hZ (hw _ w_110)) (mvT hZ (hw _ w_111)) (mvT hZ (hw _ w_112)) (by decide) (backOf (W := 2) (rmcopyR l Z a0 hw [] t kf (kf + kl) kt N xs h4 n0 O4 (hp0.ext E4) (Nat.le_add_right _ _) hle hN (by omega) hne) hZ (hw _ w_112) (hw _ w_111) (by decide) (by decide)) (g := (mkF m 16 #[.val (.ref t), .val (.int (own_i kf)), .val (.int (own_i kl))] [(.int (own_i (kf + kl))), (.int (own_i kf)), (.ref t), (.ref b4), (.ref b4)])) rfl (by rw [hml]; rfl) (argsL := [(.ref t), (.int (own_i kf)), (.int (own_i (kf + kl)))]) (rest := [(.ref b4), (.ref b4)]) (lenOf pd__ABII_AB rfl) rfl (by show 2 * 0 + _ ≤ _; exact Nat.le_of_eq rfl) (hb hby d24_16) (fun _ _ => ⟨rfl, e4, (by decide : 1 + 1 ≤ _), (by decide : 4 + 4 ≤ _)⟩)
    dsimp only [Pt.U, Pt.locs, Pt.cells, Pt.slots] at X7 l7 y7 z7 st7 hQ7
    subst l7 y7 z7
    obtain ⟨r_7, kr_7, rfl, N7q, Kc7, r7_1, r7_2⟩ := hQ7
    have N7 := Fr.app N0 N7q
    have sz8 : h0.size ≤ r_7 := Nat.le_trans K4.1 r7_1
    have gn8 : n0 ≤ r_7 := Nat.le_trans Z0 sz8
    have O7 : Old Z n0 T7.heap := O4.keep Kc7 all0
    have K7 : Keep h0 T7.heap [] := K4.trans Kc7 all0
    have hk := Nat.le_trans hk Kc7.1
    have HC7 := CHv.keep Kc7 all0 HC4
    have RC7 := RC4.trans (CHr.keep Kc7 all0 HC4)
    obtain ⟨_, _, ⟨T10, L10, k10, n10⟩, -, X10, ⟨Lc10, hQ10, l10, y10, z10⟩, st10⟩ := X7.specialBack hx (y := mN13) rfl hown (mvT hZ (hw _ w_124)) (mvT hZ (hw _ w_125)) (mvT hZ (hw _ w_126)) (by decide) (backOf (W := 1) (rmstrBB l Z a0 hw [] b4 r_7 .null (.int (0 : Int32)) T7.heap n0 O7 (A4.keep Kc7) gn4 (F4_17.keep Kc7 nin0) (F4_18.keep Kc7 nin0)) hZ (hw _ w_126) (hw _ w_4) (by decide) (by decide)) (g := (mkF m 20 #[.val (.ref t), .val (.int (own_i kf)), .val (.int (own_i kl))] [(.int (0 : Int32)), (.ref r_7), (.ref b4), (.ref b4)])) rfl (by rw [hml]; rfl) (Steps.refl _) (a := b4) (argsL := [(.ref r_7), (.int (0 : Int32))]) (rest := [(.ref b4)]) (lenOf pd__ABB_V rfl) rfl (by show 2 * 0 + _ ≤ _; exact Nat.le_of_eq rfl) (hb hby d24_20) (fun _ _ => ⟨rfl, rfl, (by decide : 2 + 0 ≤ _), (by decide : 8 + 0 ≤ _)⟩)
    dsimp only [Pt.U, Pt.locs, Pt.cells, Pt.slots] at X10 l10 y10 z10 st10 hQ10
    subst l10 y10 z10
    obtain ⟨rfl, N10q, Kc10, r10_1, r10_2, r10_3⟩ := hQ10
    have N10 := Fr.app N7 N10q
    have O10 : Old Z n0 T10.heap := O7.keep Kc10 (allS gn4 all0)
    have K10 : Keep h0 T10.heap [] := K7.trans Kc10 (allS (Or.inr sz4) all0)
    have hk := Nat.le_trans hk Kc10.1
    have HC10 := CHv.keep Kc10 (allS (Safe.keep Kc7 all0 HC4 (Safe.ext E4 HC0 (Safe.new (Z := Z) (EL := own_EL) (vm := _) (Nat.le_of_eq g4.symm)))) all0) HC7
    have RC10 := RC7.trans (CHr.keep Kc10 (allS (Safe.keep Kc7 all0 HC4 (Safe.ext E4 HC0 (Safe.new (Z := Z) (EL := own_EL) (vm := _) (Nat.le_of_eq g4.symm)))) all0) HC7)
    obtain ⟨fs, hr, hrun, hended, hRE⟩ := X10.leaveW hS hk (v := some (.ref b4)) (fun h => by rw [Bd.returns] at h; cases h)
    refine ⟨_, _, pre6 _ ?_, hrun, hended, _, _, rfl, ?_, ?_, ⟨hRE.1, hRE.2.1, hRE.2.2.1, hRE.2.2.2.mono (by decide) (by decide)⟩⟩
    · show Steps p.tables e below (T4.setTop (mkF m 16 #[.val (.ref t), .val (.int (own_i kf)), .val (.int (own_i kl))] [(.int (own_i (kf + kl))), (.int (own_i kf)), (.ref t), (.ref b4), (.ref b4)])) _
      refine st7 _ ?_
      refine XS.iconst X7.here hx rfl (hb hby d24_19) ?_
      show Steps p.tables e below (T7.setTop (mkF m 20 #[.val (.ref t), .val (.int (own_i kf)), .val (.int (own_i kl))] [(.int (0 : Int32)), (.ref r_7), (.ref b4), (.ref b4)])) _
      refine st10.trans ?_
      show Steps p.tables e below (T10.setTop (mkF m 23 #[.val (.ref t), .val (.int (own_i kf)), .val (.int (own_i kl))] [(.ref b4)])) _
      jvm_step X10.here [X10.here.top, hx, (hb hby d24_23), X10.method', Bd.returns, Value.isRef, FieldType.isReference]
      first | (intro acts; rw [hr _ acts rfl rfl rfl]) | rw [hr _ _ rfl rfl rfl]
      exact Steps.refl _
    · show QnewSt Z t kf kl kt N xs h0 n0 _ T10.heap _
      exact ⟨b4, r_7, kr_7, rfl, N10, K10, r10_1, r10_2, r10_3, (by have q := (r7_2.keep Kc10 (ninS (Ne.symm (Nat.ne_of_lt (Nat.lt_of_lt_of_le A4.lt r7_1))) nin0)); rw [Nat.add_sub_cancel_left] at q; exact q)⟩
    · rw [hh]
      show CHr Z own_EL s.vm h0 T10.vm T10.heap
      exact RC10.trans (CHv.at X10 hZ hEL HC10)
theorem d9_0 : decode jdk_41_method_12_code 0 = .ok (.iload_n 0, 1) := by decide +kernel
theorem d9_1 : decode jdk_41_method_12_code 1 = .ok (.ifCond .lt 13, 3) := by decide +kernel
theorem d9_4 : decode jdk_41_method_12_code 4 = .ok (.iload_n 0, 1) := by decide +kernel
theorem d9_5 : decode jdk_41_method_12_code 5 = .ok (.iload_n 1, 1) := by decide +kernel
theorem d9_6 : decode jdk_41_method_12_code 6 = .ok (.if_icmp .gt 8, 3) := by decide +kernel
theorem d9_9 : decode jdk_41_method_12_code 9 = .ok (.iload_n 1, 1) := by decide +kernel
theorem d9_10 : decode jdk_41_method_12_code 10 = .ok (.iload_n 2, 1) := by decide +kernel
theorem d9_11 : decode jdk_41_method_12_code 11 = .ok (.if_icmp .le 11, 3) := by decide +kernel
theorem d9_22 : decode jdk_41_method_12_code 22 = .ok (.iload_n 0, 1) := by decide +kernel
theorem d9_23 : decode jdk_41_method_12_code 23 = .ok (.ireturn, 1) := by decide +kernel
abbrev mN15 : MethodName := ⟨"jdk/internal/util/Preconditions", "checkFromToIndex", "(IIILjava/util/function/BiFunction;)I"⟩
theorem ef_pfti (m : MethodId) (x0 : Int32) (x1 : Int32) (x2 : Int32) (x3 : Value) (hx3 : x3.isRef = true) : entryFrame m #[(.int x0), (.int x1), (.int x2), x3] 4 = mkF m 0 #[.val (.int x0), .val (.int x1), .val (.int x2), .val x3] [] := by cases x3 <;> first | (simp [entryFrame, mkF, argsToLocals, Value.category]; done) | rfl | (simp [Value.isRef] at hx3; done)
def Qpfti (Z : State) (xx : Int32) (yy : Int32) (zz : Int32) (sf : Value) (h0 : Heap) (n0 : Nat) (v : Option Value) (h : Heap) (L : List Loc) : Prop := v = some (.int xx) ∧ Fr n0 L ∧ h = h0
set_option maxRecDepth 65536 in
set_option maxHeartbeats 40000000 in
theorem rmpfti (l : Launch) (Z : State) (a0 : Array Value) (hw : ∀ d ∈ tables_1, d.before a0 Z = true) (ws : List Jvm.Cond) (xx : Int32) (yy : Int32) (zz : Int32) (sf : Value) (h0 : Heap) (n0 : Nat) (O0 : Old Z n0 h0) (hsf : (sf.isRef = true)) (h1 : (¬ (xx < (0 : Int32)))) (h2 : (¬ (yy < xx))) (h3 : (¬ (zz < yy))) :
    MetFree l mN15 (head1 (Jvm.Cond.code mN15 jdk_41_method_12_code 4 (some .int) :: ws) ({ frames := 0, cells := 0, slots := 0, locals := 0 } : Room)) (fun as_ U => as_ = #[(.int xx), (.int yy), (.int zz), sf] ∧ Z.Warmed39 U.vm ∧ U.heap = h0) (fun _ _ _ _ _ => True) (fun _ U o U' => ∃ v L, o = .returned v ∧ Qpfti Z xx yy zz sf h0 n0 v U'.heap L ∧ FrameEnd U o U' L ({ frames := 0, cells := 0, slots := 0, locals := 0 } : Room).cells ({ frames := 0, cells := 0, slots := 0, locals := 0 } : Room).slots) := by
  refine MetFree.of_bodySF (plainFor_of_name pn_jdk_internal_util_Preconditions) hisR ?_
  intro p e s m args below meth c s₁ Bd hml0 hP hK
  obtain ⟨rfl, hZ, hh⟩ := hP
  have hx := Bd.exec
  have hby := Bd.bytes
  have hml : c.maxLocals = 4 := hml0
  have hown : s.vm.findClass "jdk/internal/util/Preconditions" = some m.cls := findClass_of_methodNamed Bd.named
  have hnm := (name_of_methodNamed Bd.named Bd.method).1
  have X0 : Stand p l e ({ frames := 0, cells := 0, slots := 0, locals := 0 } : Room) s m #[(.int xx), (.int yy), (.int zz), sf] below meth c s₁ [] 0 0 := Stand.of_body Bd
  have e0 : s₁.heap = h0 := by rw [← hh, Bd.state]; rfl
  have N0 := Fr.nil n0
  have Z0 := own_z0 O0
  have pre0 : ∀ tg_, Steps p.tables e below (s₁.setTop (mkF m 0 #[.val (.int xx), .val (.int yy), .val (.int zz), .val sf] [])) tg_ → Steps p.tables e below (s₁.setTop (entryFrame m #[(.int xx), (.int yy), (.int zz), sf] 4)) tg_ := fun tg_ kt_ => castTop (ef_pfti m xx yy zz sf hsf) kt_
  obtain ⟨fs, hr, hrun, hended, hW, hsame⟩ := X0.leave (v := some (.int xx)) (fun h => by rw [Bd.returns] at h; cases h)
  refine ⟨_, _, pre0 _ ?_, hrun, hended, _, _, rfl, ?_, ⟨_, rfl⟩, hW, hsame.mono (by decide) (by decide)⟩
  · refine XS.iloadN X0.here hx rfl (hb hby d9_0) rfl ?_
    refine XS.ifNo X0.here hx rfl (hb hby d9_1) rfl ((if0 _ _).trans (flt h1).1) ?_
    refine XS.iloadN X0.here hx rfl (hb hby d9_4) rfl ?_
    show Steps p.tables e below (s₁.setTop (mkF m 5 #[.val (.int xx), .val (.int yy), .val (.int zz), .val sf] [(.int xx)])) _
    refine XS.iloadN X0.here hx rfl (hb hby d9_5) rfl ?_
    refine XS.icmpNo X0.here hx rfl (hb hby d9_6) rfl (flt h2).2.2.1 ?_
    refine XS.iloadN X0.here hx rfl (hb hby d9_9) rfl ?_
    refine XS.iloadN X0.here hx rfl (hb hby d9_10) rfl ?_
    show Steps p.tables e below (s₁.setTop (mkF m 11 #[.val (.int xx), .val (.int yy), .val (.int zz), .val sf] [(.int zz), (.int yy)])) _
    refine XS.icmpYes X0.here hx rfl (pc0 := 11) (pc' := 22) rfl (hb hby d9_11) rfl (flt h3).2.2.2 (by decide) (by decide) ?_
    refine XS.iloadN X0.here hx rfl (hb hby d9_22) rfl ?_
    show Steps p.tables e below (s₁.setTop (mkF m 23 #[.val (.int xx), .val (.int yy), .val (.int zz), .val sf] [(.int xx)])) _
    exact retI X0 hx Bd.returns (hb hby d9_23) hr
  · show Qpfti Z xx yy zz sf h0 n0 _ s₁.heap _
    rw [e0]
    exact ⟨rfl, N0, rfl⟩
theorem d8_0 : decode jdk_42_method_158_code 0 = .ok (.iload_n 0, 1) := by decide +kernel
theorem d8_1 : decode jdk_42_method_158_code 1 = .ok (.iload_n 1, 1) := by decide +kernel
theorem d8_2 : decode jdk_42_method_158_code 2 = .ok (.iload_n 2, 1) := by decide +kernel
theorem d8_3 : decode jdk_42_method_158_code 3 = .ok (.getstatic 1053, 3) := by decide +kernel
theorem w_49 : (Jvm.Cond.methodLink "java/lang/String" (1062 : Nat) ({ cls := "jdk/internal/util/Preconditions", name := "checkFromToIndex", desc := "(IIILjava/util/function/BiFunction;)I" } : Jvm.MethodName)) ∈ tables_1 := List.mem_of_getElem? (i := 49) (by decide +kernel)
theorem w_51 : (Jvm.Cond.code ({ cls := "jdk/internal/util/Preconditions", name := "checkFromToIndex", desc := "(IIILjava/util/function/BiFunction;)I" } : Jvm.MethodName) jdk_41_method_12_code (4 : Nat) (Option.some Jvm.ClassFile.FieldType.int)) ∈ tables_1 := List.mem_of_getElem? (i := 51) (by decide +kernel)
theorem pd__IIILjava_util_function_BiFunction__I : parseMethodDescriptor "(IIILjava/util/function/BiFunction;)I" = some ⟨[.int, .int, .int, (.object "java/util/function/BiFunction")], some .int⟩ := by decide +kernel
theorem d8_6 : decode jdk_42_method_158_code 6 = .ok (.invokestatic 1062, 3) := by decide +kernel
theorem w_50 : (Jvm.Cond.static ({ cls := "jdk/internal/util/Preconditions", name := "checkFromToIndex", desc := "(IIILjava/util/function/BiFunction;)I" } : Jvm.MethodName)) ∈ tables_1 := List.mem_of_getElem? (i := 50) (by decide +kernel)
theorem d8_9 : decode jdk_42_method_158_code 9 = .ok (.pop, 1) := by decide +kernel
theorem d8_10 : decode jdk_42_method_158_code 10 = .ok (.return_, 1) := by decide +kernel
abbrev mN16 : MethodName := ⟨"java/lang/String", "checkBoundsBeginEnd", "(III)V"⟩
theorem ef_chkBE (m : MethodId) (x0 : Int32) (x1 : Int32) (x2 : Int32) : entryFrame m #[(.int x0), (.int x1), (.int x2)] 3 = mkF m 0 #[.val (.int x0), .val (.int x1), .val (.int x2)] [] := by first | (simp [entryFrame, mkF, argsToLocals, Value.category]; done) | rfl
def QchkBE (Z : State) (xx : Int32) (yy : Int32) (zz : Int32) (sf : Value) (h0 : Heap) (n0 : Nat) (v : Option Value) (h : Heap) (L : List Loc) : Prop := v = none ∧ Fr n0 L ∧ h = h0
set_option maxRecDepth 65536 in
set_option maxHeartbeats 40000000 in
theorem rmchkBE (l : Launch) (Z : State) (a0 : Array Value) (hw : ∀ d ∈ tables_1, d.before a0 Z = true) (ws : List Jvm.Cond) (xx : Int32) (yy : Int32) (zz : Int32) (sf : Value) (h0 : Heap) (n0 : Nat) (O0 : Old Z n0 h0) (hp0 : Sta Z Z.heap "jdk/internal/util/Preconditions" "SIOOBE_FORMATTER" "Ljava/util/function/BiFunction;" sf) (hsf : (sf.isRef = true)) (h1 : (¬ (xx < (0 : Int32)))) (h2 : (¬ (yy < xx))) (h3 : (¬ (zz < yy))) :
    MetFree l mN16 (head1 (Jvm.Cond.code mN16 jdk_42_method_158_code 3 none :: ws) ({ frames := 1, cells := 0, slots := 0, locals := 15 } : Room)) (fun as_ U => as_ = #[(.int xx), (.int yy), (.int zz)] ∧ Z.Warmed39 U.vm ∧ U.heap = h0) (fun _ _ _ _ _ => True) (fun _ U o U' => ∃ v L, o = .returned v ∧ QchkBE Z xx yy zz sf h0 n0 v U'.heap L ∧ FrameEnd U o U' L ({ frames := 1, cells := 0, slots := 0, locals := 15 } : Room).cells ({ frames := 1, cells := 0, slots := 0, locals := 15 } : Room).slots) := by
  refine MetFree.of_bodySF (plainFor_of_name pn_java_lang_String) hisR ?_
  intro p e s m args below meth c s₁ Bd hml0 hP hK
  obtain ⟨rfl, hZ, hh⟩ := hP
  have hx := Bd.exec
  have hby := Bd.bytes
  have hml : c.maxLocals = 3 := hml0
  have hown : s.vm.findClass "java/lang/String" = some m.cls := findClass_of_methodNamed Bd.named
  have hnm := (name_of_methodNamed Bd.named Bd.method).1
  have X0 : Stand p l e ({ frames := 1, cells := 0, slots := 0, locals := 15 } : Room) s m #[(.int xx), (.int yy), (.int zz)] below meth c s₁ [] 0 0 := Stand.of_body Bd
  have e0 : s₁.heap = h0 := by rw [← hh, Bd.state]; rfl
  have N0 := Fr.nil n0
  have Z0 := own_z0 O0
  have pre0 : ∀ tg_, Steps p.tables e below (s₁.setTop (mkF m 0 #[.val (.int xx), .val (.int yy), .val (.int zz)] [])) tg_ → Steps p.tables e below (s₁.setTop (entryFrame m #[(.int xx), (.int yy), (.int zz)] 3)) tg_ := fun tg_ kt_ => castTop (ef_chkBE m xx yy zz) kt_
  obtain ⟨T1, X1, e1, st1⟩ := getS2 X0 hx hZ hown (host := "") (Or.inl (hw _ w_47)) Via.refl e0 (hp0.ext O0.2) (g := (mkF m 3 #[.val (.int xx), .val (.int yy), .val (.int zz)] [(.int zz), (.int yy), (.int xx)])) rfl (hb hby d8_3)
  obtain ⟨_, _, ⟨T2, L2, k2, n2⟩, -, X2, ⟨Lc2, hQ2, l2, y2, z2⟩, st2⟩ := Jvm.LawKit.callS X1 hx (y := mN15) hown (mvT hZ (hw _ w_49)) (mvT hZ (hw _ w_50)) (mvT hZ (hw _ w_48)) (mvT hZ (hw _ w_51)) (by decide) (backOf (W := 0) (rmpfti l Z a0 hw [] xx yy zz sf h0 n0 O0 hsf h1 h2 h3) hZ (hw _ w_51) (hw _ w_48) (by decide) (by decide)) (g := (mkF m 6 #[.val (.int xx), .val (.int yy), .val (.int zz)] [sf, (.int zz), (.int yy), (.int xx)])) rfl (by rw [hml]; rfl) (argsL := [(.int xx), (.int yy), (.int zz), sf]) (rest := []) (lenOf pd__IIILjava_util_function_BiFunction__I rfl) rfl (by show 2 * 0 + _ ≤ _; exact Nat.le_of_eq rfl) (hb hby d8_6) (fun _ _ => ⟨rfl, e1, (by decide : 0 + 0 ≤ _), (by decide : 0 + 0 ≤ _)⟩)
  dsimp only [Pt.U, Pt.locs, Pt.cells, Pt.slots] at X2 l2 y2 z2 st2 hQ2
  subst l2 y2 z2
  obtain ⟨rfl, N2q, eh2⟩ := hQ2
  have N2 := Fr.app N0 N2q
  obtain ⟨fs, hr, hrun, hended, hW, hsame⟩ := X2.leave (v := none) (fun _ => rfl)
  refine ⟨_, _, pre0 _ ?_, hrun, hended, _, _, rfl, ?_, ⟨_, rfl⟩, hW, hsame.mono (by decide) (by decide)⟩
  · refine XS.iloadN X0.here hx rfl (hb hby d8_0) rfl ?_
    refine XS.iloadN X0.here hx rfl (hb hby d8_1) rfl ?_
    refine XS.iloadN X0.here hx rfl (hb hby d8_2) rfl ?_
    show Steps p.tables e below (s₁.setTop (mkF m 3 #[.val (.int xx), .val (.int yy), .val (.int zz)] [(.int zz), (.int yy), (.int xx)])) _
    refine st1 _ ?_
    show Steps p.tables e below (T1.setTop (mkF m 6 #[.val (.int xx), .val (.int yy), .val (.int zz)] [sf, (.int zz), (.int yy), (.int xx)])) _
    refine st2 _ ?_
    refine XS.pop X2.here hx rfl (hb hby d8_9) rfl rfl ?_
    show Steps p.tables e below (T2.setTop (mkF m 10 #[.val (.int xx), .val (.int yy), .val (.int zz)] [])) _
    exact X2.returnOut hx Bd.returns (hb hby d8_10) hr
  · show QchkBE Z xx yy zz sf h0 n0 _ T2.heap _
    rw [eh2]
    exact ⟨rfl, N2, rfl⟩
theorem d7_0 : decode jdk_42_method_92_code 0 = .ok (.aload_n 0, 1) := by decide +kernel
theorem w_43 : (Jvm.Cond.methodLink "java/lang/String" (505 : Nat) ({ cls := "java/lang/String", name := "length", desc := "()I" } : Jvm.MethodName)) ∈ tables_1 := List.mem_of_getElem? (i := 43) (by decide +kernel)
theorem w_31 : (Jvm.Cond.code ({ cls := "java/lang/String", name := "length", desc := "()I" } : Jvm.MethodName) jdk_42_method_54_code (1 : Nat) (Option.some Jvm.ClassFile.FieldType.int)) ∈ tables_1 := List.mem_of_getElem? (i := 31) (by decide +kernel)
theorem pd___I : parseMethodDescriptor "()I" = some ⟨[], some .int⟩ := by decide +kernel
theorem d7_1 : decode jdk_42_method_92_code 1 = .ok (.invokevirtual 505, 3) := by decide +kernel
theorem w_30 : (Jvm.Cond.selects "java/lang/String" ({ cls := "java/lang/String", name := "length", desc := "()I" } : Jvm.MethodName) ({ cls := "java/lang/String", name := "length", desc := "()I" } : Jvm.MethodName)) ∈ tables_1 := List.mem_of_getElem? (i := 30) (by decide +kernel)
theorem w_28 : (Jvm.Cond.declares ({ cls := "java/lang/String", name := "length", desc := "()I" } : Jvm.MethodName)) ∈ tables_1 := List.mem_of_getElem? (i := 28) (by decide +kernel)
theorem w_29 : (Jvm.Cond.instanceMethod ({ cls := "java/lang/String", name := "length", desc := "()I" } : Jvm.MethodName)) ∈ tables_1 := List.mem_of_getElem? (i := 29) (by decide +kernel)
theorem d7_4 : decode jdk_42_method_92_code 4 = .ok (.istore_n 3, 1) := by decide +kernel
theorem d7_5 : decode jdk_42_method_92_code 5 = .ok (.iload_n 1, 1) := by decide +kernel
theorem d7_6 : decode jdk_42_method_92_code 6 = .ok (.iload_n 2, 1) := by decide +kernel
theorem d7_7 : decode jdk_42_method_92_code 7 = .ok (.iload_n 3, 1) := by decide +kernel
theorem w_44 : (Jvm.Cond.methodLink "java/lang/String" (521 : Nat) ({ cls := "java/lang/String", name := "checkBoundsBeginEnd", desc := "(III)V" } : Jvm.MethodName)) ∈ tables_1 := List.mem_of_getElem? (i := 44) (by decide +kernel)
theorem w_46 : (Jvm.Cond.code ({ cls := "java/lang/String", name := "checkBoundsBeginEnd", desc := "(III)V" } : Jvm.MethodName) jdk_42_method_158_code (3 : Nat) (Option.none : Option Jvm.ClassFile.FieldType)) ∈ tables_1 := List.mem_of_getElem? (i := 46) (by decide +kernel)
theorem pd__III_V : parseMethodDescriptor "(III)V" = some ⟨[.int, .int, .int], none⟩ := by decide +kernel
theorem d7_8 : decode jdk_42_method_92_code 8 = .ok (.invokestatic 521, 3) := by decide +kernel
theorem w_45 : (Jvm.Cond.static ({ cls := "java/lang/String", name := "checkBoundsBeginEnd", desc := "(III)V" } : Jvm.MethodName)) ∈ tables_1 := List.mem_of_getElem? (i := 45) (by decide +kernel)
theorem d7_11 : decode jdk_42_method_92_code 11 = .ok (.iload_n 1, 1) := by decide +kernel
theorem d7_12 : decode jdk_42_method_92_code 12 = .ok (.ifCond .ne 10, 3) := by decide +kernel
theorem d7_15 : decode jdk_42_method_92_code 15 = .ok (.iload_n 2, 1) := by decide +kernel
theorem d7_16 : decode jdk_42_method_92_code 16 = .ok (.iload_n 3, 1) := by decide +kernel
theorem d7_17 : decode jdk_42_method_92_code 17 = .ok (.if_icmp .ne 5, 3) := by decide +kernel
theorem d7_20 : decode jdk_42_method_92_code 20 = .ok (.aload_n 0, 1) := by decide +kernel
theorem d7_21 : decode jdk_42_method_92_code 21 = .ok (.areturn, 1) := by decide +kernel
theorem d7_22 : decode jdk_42_method_92_code 22 = .ok (.iload_n 2, 1) := by decide +kernel
theorem d7_23 : decode jdk_42_method_92_code 23 = .ok (.iload_n 1, 1) := by decide +kernel
theorem d7_24 : decode jdk_42_method_92_code 24 = .ok (.isub, 1) := by decide +kernel
theorem d7_25 : decode jdk_42_method_92_code 25 = .ok (.istore 4, 2) := by decide +kernel
theorem d7_27 : decode jdk_42_method_92_code 27 = .ok (.aload_n 0, 1) := by decide +kernel
theorem d7_28 : decode jdk_42_method_92_code 28 = .ok (.invokevirtual 492, 3) := by decide +kernel
theorem d7_31 : decode jdk_42_method_92_code 31 = .ok (.ifCond .eq 16, 3) := by decide +kernel
theorem d7_34 : decode jdk_42_method_92_code 34 = .ok (.aload_n 0, 1) := by decide +kernel
theorem d7_35 : decode jdk_42_method_92_code 35 = .ok (.getfield 9, 3) := by decide +kernel
theorem d7_38 : decode jdk_42_method_92_code 38 = .ok (.iload_n 1, 1) := by decide +kernel
theorem d7_39 : decode jdk_42_method_92_code 39 = .ok (.iload 4, 2) := by decide +kernel
theorem w_104 : (Jvm.Cond.methodLink "java/lang/String" (685 : Nat) ({ cls := "java/lang/StringLatin1", name := "newString", desc := "([BII)Ljava/lang/String;" } : Jvm.MethodName)) ∈ tables_1 := List.mem_of_getElem? (i := 104) (by decide +kernel)
theorem w_106 : (Jvm.Cond.code ({ cls := "java/lang/StringLatin1", name := "newString", desc := "([BII)Ljava/lang/String;" } : Jvm.MethodName) jdk_43_method_47_code (3 : Nat) (Option.some (Jvm.ClassFile.FieldType.object "java/lang/String"))) ∈ tables_1 := List.mem_of_getElem? (i := 106) (by decide +kernel)
theorem pd__ABII_Ljava_lang_String_ : parseMethodDescriptor "([BII)Ljava/lang/String;" = some ⟨[(.array .byte), .int, .int], some (.object "java/lang/String")⟩ := by decide +kernel
theorem d7_41 : decode jdk_42_method_92_code 41 = .ok (.invokestatic 685, 3) := by decide +kernel
theorem w_105 : (Jvm.Cond.static ({ cls := "java/lang/StringLatin1", name := "newString", desc := "([BII)Ljava/lang/String;" } : Jvm.MethodName)) ∈ tables_1 := List.mem_of_getElem? (i := 105) (by decide +kernel)
theorem d7_44 : decode jdk_42_method_92_code 44 = .ok (.goto 13, 3) := by decide +kernel
theorem d7_57 : decode jdk_42_method_92_code 57 = .ok (.areturn, 1) := by decide +kernel
abbrev mN17 : MethodName := ⟨"java/lang/String", "substring", "(II)Ljava/lang/String;"⟩
theorem ef_substr (m : MethodId) (x0 : Addr) (x1 : Int32) (x2 : Int32) : entryFrame m #[(.ref x0), (.int x1), (.int x2)] 5 = mkF m 0 #[.val (.ref x0), .val (.int x1), .val (.int x2), .unset, .unset] [] := by first | (simp [entryFrame, mkF, argsToLocals, Value.category]; done) | rfl
def Qsubstr (Z : State) (a : Addr) (kf : Nat) (kg : Nat) (sf : Value) (cz : Int32) (t : Addr) (kt : ClassId) (N : Nat) (xs : List Int32) (h0 : Heap) (n0 : Nat) (v : Option Value) (h : Heap) (L : List Loc) : Prop := ∃ (r : Addr), ∃ (t2 : Addr), ∃ (kt2 : ClassId), v = some (.ref r) ∧ Fr n0 L ∧ Keep h0 h [] ∧ Exa Z h r "java/lang/String" ∧ Fld Z h r "java/lang/String" "value" "[B" (.ref t2) ∧ Fld Z h r "java/lang/String" "coder" "B" (.int (0 : Int32)) ∧ Arv Z h t2 kt2 .byte (own_i (kg - kf)) (((xs.drop kf).take (kg - kf)).map Value.int) (.int (0 : Int32))
set_option maxRecDepth 65536 in
set_option maxHeartbeats 40000000 in
theorem rmsubstr (l : Launch) (Z : State) (a0 : Array Value) (hw : ∀ d ∈ tables_1, d.before a0 Z = true) (ws : List Jvm.Cond) (a : Addr) (kf : Nat) (kg : Nat) (sf : Value) (cz : Int32) (t : Addr) (kt : ClassId) (N : Nat) (xs : List Int32) (h0 : Heap) (n0 : Nat) (O0 : Old Z n0 h0) (hp0 : Exa Z h0 a "java/lang/String") (hp1 : Fld Z h0 a "java/lang/String" "value" "[B" (.ref t)) (hp2 : Fld Z h0 a "java/lang/String" "coder" "B" (.int (0 : Int32))) (hp3 : Arv Z h0 t kt .byte (own_i N) (xs.map Value.int) (.int (0 : Int32))) (hp4 : Sta Z Z.heap "java/lang/String" "COMPACT_STRINGS" "Z" (.int cz)) (hcz : (¬ (cz = (0 : Int32)))) (hp6 : Sta Z Z.heap "jdk/internal/util/Preconditions" "SIOOBE_FORMATTER" "Ljava/util/function/BiFunction;" sf) (hsf : (sf.isRef = true)) (hN : (N ≤ 4)) (hlen : (xs.length = N)) (hfg : (kf ≤ kg)) (hgN : (kg ≤ N)) :
    MetFree l mN17 (head1 (Jvm.Cond.code mN17 jdk_42_method_92_code 5 (some (.object "java/lang/String")) :: ws) ({ frames := 4, cells := 2, slots := 8, locals := 97 } : Room)) (fun as_ U => as_ = #[(.ref a), (.int (own_i kf)), (.int (own_i kg))] ∧ Z.Warmed39 U.vm ∧ U.heap = h0 ∧ CHv Z own_EL U.vm h0) (fun _ _ _ _ _ => True) (fun _ U o U' => ∃ v L, o = .returned v ∧ Qsubstr Z a kf kg sf cz t kt N xs h0 n0 v U'.heap L ∧ CHr Z own_EL U.vm U.heap U'.vm U'.heap ∧ ReturnedEndW U o U' L ({ frames := 4, cells := 2, slots := 8, locals := 97 } : Room).cells ({ frames := 4, cells := 2, slots := 8, locals := 97 } : Room).slots) := by
  refine MetFree.of_bodySF (plainFor_of_name pn_java_lang_String) hisR ?_
  intro p e s m args below meth c s₁ Bd hml0 hP hK
  obtain ⟨rfl, hZ, hh, HC0⟩ := hP
  have hx := Bd.exec
  have hby := Bd.bytes
  have hml : c.maxLocals = 5 := hml0
  have hown : s.vm.findClass "java/lang/String" = some m.cls := findClass_of_methodNamed Bd.named
  have hnm := (name_of_methodNamed Bd.named Bd.method).1
  have X0 : Stand p l e ({ frames := 4, cells := 2, slots := 8, locals := 97 } : Room) (s.setVm s.vm) m #[(.ref a), (.int (own_i kf)), (.int (own_i kg))] below meth c s₁ [] 0 0 := Stand.of_body Bd
  have hS : s.Since s.vm 0 := (State.WarmedH.refl s).since 0
  have hk : 0 ≤ h0.size := Nat.zero_le _
  have hEL := own_EW hw
  have wS := own_wS hw
  have hZ : Z.Warmed39 (s.setVm s.vm).vm := hZ
  have hown : (s.setVm s.vm).vm.findClass "java/lang/String" = some m.cls := hown
  have e0 : s₁.heap = h0 := by rw [← hh, Bd.state]; rfl
  have N0 := Fr.nil n0
  have Z0 := own_z0 O0
  have pre0 : ∀ tg_, Steps p.tables e below (s₁.setTop (mkF m 0 #[.val (.ref a), .val (.int (own_i kf)), .val (.int (own_i kg)), .unset, .unset] [])) tg_ → Steps p.tables e below (s₁.setTop (entryFrame m #[(.ref a), (.int (own_i kf)), (.int (own_i kg))] 5)) tg_ := fun tg_ kt_ => castTop (ef_substr m a (own_i kf) (own_i kg)) kt_
  obtain ⟨cq1, kq1, q1a, q1b, q1c⟩ := isOf hZ e0 hp0
  obtain ⟨_, _, ⟨T1, L1, k1, n1⟩, -, X1, ⟨Lc1, hQ1, l1, y1, z1⟩, st1⟩ := X0.virtualBack hx (y := mN2) (z := mN2) hown (mvT hZ (hw _ w_43)) (mvT hZ (hw _ w_28)) (notFace_of_selects (args := #[]) (mvT hZ (hw _ w_30))) (mvT hZ (hw _ w_30)) (mvT hZ (hw _ w_29)) (by decide) (backOf (W := 0) (rmslen l Z a0 hw [] a cz t kt N xs h0 n0 O0 hp0 hp1 hp2 hp3 hp4 hcz) hZ (hw _ w_31) (hw _ w_4) (by decide) (by decide)) q1a q1c (g := (mkF m 1 #[.val (.ref a), .val (.int (own_i kf)), .val (.int (own_i kg)), .unset, .unset] [(.ref a)])) rfl (by rw [hml]; rfl) (Steps.refl _) (argsL := []) (rest := []) (lenOf pd___I rfl) rfl (by show 2 * 0 + _ ≤ _; exact Nat.le_of_eq rfl) (hb hby d7_1) (fun _ _ => ⟨rfl, e0, (by decide : 0 + 0 ≤ _), (by decide : 0 + 0 ≤ _)⟩)
  dsimp only [Pt.U, Pt.locs, Pt.cells, Pt.slots] at X1 l1 y1 z1 st1 hQ1
  subst l1 y1 z1
  obtain ⟨rfl, N1q, eh1⟩ := hQ1
  have N1 := Fr.app N0 N1q
  obtain ⟨_, _, ⟨T2, L2, k2, n2⟩, -, X2, ⟨Lc2, hQ2, l2, y2, z2⟩, st2⟩ := Jvm.LawKit.callS X1 hx (y := mN16) hown (mvT hZ (hw _ w_44)) (mvT hZ (hw _ w_45)) (mvT hZ (hw _ w_4)) (mvT hZ (hw _ w_46)) (by decide) (backOf (W := 0) (rmchkBE l Z a0 hw [] (own_i kf) (own_i kg) (own_i N) sf h0 n0 O0 hp6 hsf (own_inn (by omega)) (by rw [own_ilt (by omega) (by omega)]; omega) (by rw [own_ilt (by omega) (by omega)]; omega)) hZ (hw _ w_46) (hw _ w_4) (by decide) (by decide)) (g := (mkF m 8 #[.val (.ref a), .val (.int (own_i kf)), .val (.int (own_i kg)), .val (.int (own_i N)), .unset] [(.int (own_i N)), (.int (own_i kg)), (.int (own_i kf))])) rfl (by rw [hml]; rfl) (argsL := [(.int (own_i kf)), (.int (own_i kg)), (.int (own_i N))]) (rest := []) (lenOf pd__III_V rfl) rfl (by show 2 * 0 + _ ≤ _; exact Nat.le_of_eq rfl) (hb hby d7_8) (fun _ _ => ⟨rfl, eh1, (by decide : 0 + 0 ≤ _), (by decide : 0 + 0 ≤ _)⟩)
  dsimp only [Pt.U, Pt.locs, Pt.cells, Pt.slots] at X2 l2 y2 z2 st2 hQ2
  subst l2 y2 z2
  obtain ⟨rfl, N2q, eh2⟩ := hQ2
  have N2 := Fr.app N1 N2q
  have pre3 : ∀ tg_, Steps p.tables e below (T2.setTop (mkF m 12 #[.val (.ref a), .val (.int (own_i kf)), .val (.int (own_i kg)), .val (.int (own_i N)), .unset] [(.int (own_i kf))])) tg_ → Steps p.tables e below (s₁.setTop (entryFrame m #[(.ref a), (.int (own_i kf)), (.int (own_i kg))] 5)) tg_ := by
    intro tg_ kt_
    refine pre0 tg_ ?_
    refine XS.aloadN X0.here hx rfl (hb hby d7_0) rfl rfl ?_
    show Steps p.tables e below (s₁.setTop (mkF m 1 #[.val (.ref a), .val (.int (own_i kf)), .val (.int (own_i kg)), .unset, .unset] [(.ref a)])) _
    refine st1.trans ?_
    refine XS.istoreN X1.here hx rfl (hb hby d7_4) rfl (l' := #[.val (.ref a), .val (.int (own_i kf)), .val (.int (own_i kg)), .val (.int (own_i N)), .unset]) rfl ?_
    refine XS.iloadN X1.here hx rfl (hb hby d7_5) rfl ?_
    refine XS.iloadN X1.here hx rfl (hb hby d7_6) rfl ?_
    show Steps p.tables e below (T1.setTop (mkF m 7 #[.val (.ref a), .val (.int (own_i kf)), .val (.int (own_i kg)), .val (.int (own_i N)), .unset] [(.int (own_i kg)), (.int (own_i kf))])) _
    refine XS.iloadN X1.here hx rfl (hb hby d7_7) rfl ?_
    show Steps p.tables e below (T1.setTop (mkF m 8 #[.val (.ref a), .val (.int (own_i kf)), .val (.int (own_i kg)), .val (.int (own_i N)), .unset] [(.int (own_i N)), (.int (own_i kg)), (.int (own_i kf))])) _
    refine st2 _ ?_
    refine XS.iloadN X2.here hx rfl (hb hby d7_11) rfl ?_
    exact kt_
  by_cases hc4 : (own_i kf) = (0 : Int32)
  · have pre5 : ∀ tg_, Steps p.tables e below (T2.setTop (mkF m 17 #[.val (.ref a), .val (.int (own_i kf)), .val (.int (own_i kg)), .val (.int (own_i N)), .unset] [(.int (own_i N)), (.int (own_i kg))])) tg_ → Steps p.tables e below (s₁.setTop (entryFrame m #[(.ref a), (.int (own_i kf)), (.int (own_i kg))] 5)) tg_ := by
      intro tg_ kt_
      refine pre3 tg_ ?_
      refine XS.ifNo X2.here hx rfl (hb hby d7_12) rfl ((if0 _ _).trans (teq hc4).2) ?_
      refine XS.iloadN X2.here hx rfl (hb hby d7_15) rfl ?_
      show Steps p.tables e below (T2.setTop (mkF m 16 #[.val (.ref a), .val (.int (own_i kf)), .val (.int (own_i kg)), .val (.int (own_i N)), .unset] [(.int (own_i kg))])) _
      refine XS.iloadN X2.here hx rfl (hb hby d7_16) rfl ?_
      exact kt_
    by_cases hc6 : (own_i kg) = (own_i N)
    · obtain ⟨fs, hr, hrun, hended, hRE⟩ := X2.leaveW hS (show _ ≤ T2.heap.size by rw [eh2]; exact hk) (v := some (.ref a)) (fun h => by rw [Bd.returns] at h; cases h)
      refine ⟨_, _, pre5 _ ?_, hrun, hended, _, _, rfl, ?_, ?_, ⟨hRE.1, hRE.2.1, hRE.2.2.1, hRE.2.2.2.mono (by decide) (by decide)⟩⟩
      · refine XS.icmpNo X2.here hx rfl (hb hby d7_17) rfl (teq hc6).2 ?_
        refine XS.aloadN X2.here hx rfl (hb hby d7_20) rfl rfl ?_
        show Steps p.tables e below (T2.setTop (mkF m 21 #[.val (.ref a), .val (.int (own_i kf)), .val (.int (own_i kg)), .val (.int (own_i N)), .unset] [(.ref a)])) _
        jvm_step X2.here [X2.here.top, hx, (hb hby d7_21), X2.method', Bd.returns, Value.isRef, FieldType.isReference]
        first | (intro acts; rw [hr _ acts rfl rfl rfl]) | rw [hr _ _ rfl rfl rfl]
        exact Steps.refl _
      · show Qsubstr Z a kf kg sf cz t kt N xs h0 n0 _ T2.heap _
        rw [eh2]
        exact ⟨a, t, kt, rfl, N2, (Keep.refl h0 []), hp0, hp1, hp2, (by rw [show kf = 0 from (own_i0 (by omega)).mp hc4, show kg = N from (own_ieq (by omega) (by omega)).mp hc6, Nat.sub_zero, List.drop_zero, List.take_of_length_le (by omega)]; exact hp3)⟩
      · rw [hh]
        show CHr Z own_EL s.vm h0 T2.vm T2.heap
        rw [eh2]
        exact (CHr.refl HC0).trans (CHv.at X2 hZ hEL HC0)
    · have pre7 : ∀ tg_, Steps p.tables e below (T2.setTop (mkF m 25 #[.val (.ref a), .val (.int (own_i kf)), .val (.int (own_i kg)), .val (.int (own_i N)), .unset] [(.int ((own_i kg) - (own_i kf)))])) tg_ → Steps p.tables e below (s₁.setTop (entryFrame m #[(.ref a), (.int (own_i kf)), (.int (own_i kg))] 5)) tg_ := by
        intro tg_ kt_
        refine pre5 tg_ ?_
        refine XS.icmpYes X2.here hx rfl (pc0 := 17) (pc' := 22) rfl (hb hby d7_17) rfl (feq hc6).2 (by decide) (by decide) ?_
        refine XS.iloadN X2.here hx rfl (hb hby d7_22) rfl ?_
        refine XS.iloadN X2.here hx rfl (hb hby d7_23) rfl ?_
        show Steps p.tables e below (T2.setTop (mkF m 24 #[.val (.ref a), .val (.int (own_i kf)), .val (.int (own_i kg)), .val (.int (own_i N)), .unset] [(.int (own_i kf)), (.int (own_i kg))])) _
        refine XS.isub X2.here hx rfl (hb hby d7_24) rfl ?_
        exact kt_
      rw [show ((own_i kg) - (own_i kf)) = (own_i (kg - kf)) from own_isub hfg] at pre7
      obtain ⟨cq8, kq8, q8a, q8b, q8c⟩ := isOf hZ eh2 hp0
      obtain ⟨_, _, ⟨T8, L8, k8, n8⟩, -, X8, ⟨Lc8, hQ8, l8, y8, z8⟩, st8⟩ := X2.virtualBack hx (y := mN3) (z := mN3) hown (mvT hZ (hw _ w_82)) (mvT hZ (hw _ w_83)) (notFace_of_selects (args := #[]) (mvT hZ (hw _ w_85))) (mvT hZ (hw _ w_85)) (mvT hZ (hw _ w_84)) (by decide) (backOf (W := 0) (rmisL1 l Z a0 hw [] a cz h0 n0 O0 hp2 hp4 hcz) hZ (hw _ w_86) (hw _ w_4) (by decide) (by decide)) q8a q8c (g := (mkF m 28 #[.val (.ref a), .val (.int (own_i kf)), .val (.int (own_i kg)), .val (.int (own_i N)), .val (.int (own_i (kg - kf)))] [(.ref a)])) rfl (by rw [hml]; rfl) (Steps.refl _) (argsL := []) (rest := []) (lenOf pd___Z rfl) rfl (by show 2 * 0 + _ ≤ _; exact Nat.le_of_eq rfl) (hb hby d7_28) (fun _ _ => ⟨rfl, eh2, (by decide : 0 + 0 ≤ _), (by decide : 0 + 0 ≤ _)⟩)
      dsimp only [Pt.U, Pt.locs, Pt.cells, Pt.slots] at X8 l8 y8 z8 st8 hQ8
      subst l8 y8 z8
      obtain ⟨rfl, N8q, eh8⟩ := hQ8
      have N8 := Fr.app N2 N8q
      obtain ⟨T9, X9, e9, st9⟩ := getF X8 hx hZ hown (host := "") (Or.inl (hw _ w_21)) Via.refl eh8 hp1 (g := (mkF m 35 #[.val (.ref a), .val (.int (own_i kf)), .val (.int (own_i kg)), .val (.int (own_i N)), .val (.int (own_i (kg - kf)))] [(.ref a)])) rfl rfl (hb hby d7_35)
      obtain ⟨_, _, ⟨T10, L10, k10, n10⟩, -, Xh10, Sh10, gh10, ⟨Lc10, hQ10, l10, y10, z10, R10⟩, st10⟩ := callSS X9 hx (y := mN14) hown (mvT hZ (hw _ w_104)) (mvT hZ (hw _ w_105)) (mvT hZ (hw _ w_89)) (mvT hZ (hw _ w_106)) (by decide) (backOfSH (s := s) (W := 0) (rmnewSt l Z a0 hw [] t kf (kg - kf) kt N xs h0 n0 O0 hp3 hN hlen (by omega) (fun z => hc6 ((own_ieq (by omega) (by omega)).mpr (by omega)))) hZ (hw _ w_106) (hw _ w_89) (by decide) (by decide) hEL HC0) (g := (mkF m 41 #[.val (.ref a), .val (.int (own_i kf)), .val (.int (own_i kg)), .val (.int (own_i N)), .val (.int (own_i (kg - kf)))] [(.int (own_i (kg - kf))), (.int (own_i kf)), (.ref t)])) rfl (by rw [hml]; rfl) (argsL := [(.ref t), (.int (own_i kf)), (.int (own_i (kg - kf)))]) (rest := []) (lenOf pd__ABII_Ljava_lang_String_ rfl) rfl (by show 2 * 0 + _ ≤ _; exact Nat.le_of_eq rfl) (hb hby d7_41) (fun _ _ => ⟨rfl, e9, (by decide : 0 + 2 ≤ _), (by decide : 0 + 8 ≤ _)⟩)
      dsimp only [Pt.U, Pt.locs, Pt.cells, Pt.slots] at Xh10 Sh10 gh10 l10 y10 z10 R10 st10 hQ10
      subst l10 y10 z10
      obtain ⟨X10, hS, hZ, hown⟩ := rebS hS (show _ ≤ T9.heap.size by rw [e9]; exact hk) Xh10 Sh10 gh10 hZ hown
      have hk := Nat.le_refl T10.heap.size
      obtain ⟨r_10, t2_10, kt2_10, rfl, N10q, Kc10, r10_1, r10_2, r10_3, r10_4⟩ := hQ10
      have N10 := Fr.app N8 N10q
      have O10 : Old Z n0 T10.heap := O0.keep Kc10 all0
      have K10 : Keep h0 T10.heap [] := (Keep.refl h0 []).trans Kc10 all0
      have HC10 := R10.1
      have RC10 := (CHr.refl HC0).trans R10
      obtain ⟨fs, hr, hrun, hended, hRE⟩ := X10.leaveW hS hk (v := some (.ref r_10)) (fun h => by rw [Bd.returns] at h; cases h)
      refine ⟨_, _, pre7 _ ?_, hrun, hended, _, _, rfl, ?_, ?_, ⟨hRE.1, hRE.2.1, hRE.2.2.1, hRE.2.2.2.mono (by decide) (by decide)⟩⟩
      · refine XS.istore X2.here hx rfl (hb hby d7_25) rfl (l' := #[.val (.ref a), .val (.int (own_i kf)), .val (.int (own_i kg)), .val (.int (own_i N)), .val (.int (own_i (kg - kf)))]) rfl ?_
        refine XS.aloadN X2.here hx rfl (hb hby d7_27) rfl rfl ?_
        show Steps p.tables e below (T2.setTop (mkF m 28 #[.val (.ref a), .val (.int (own_i kf)), .val (.int (own_i kg)), .val (.int (own_i N)), .val (.int (own_i (kg - kf)))] [(.ref a)])) _
        refine st8.trans ?_
        refine XS.ifNo X8.here hx rfl (hb hby d7_31) rfl ((if0 _ _).trans (feq (by decide : ¬ ((1 : Int32) = (0 : Int32)))).1) ?_
        refine XS.aloadN X8.here hx rfl (hb hby d7_34) rfl rfl ?_
        show Steps p.tables e below (T8.setTop (mkF m 35 #[.val (.ref a), .val (.int (own_i kf)), .val (.int (own_i kg)), .val (.int (own_i N)), .val (.int (own_i (kg - kf)))] [(.ref a)])) _
        refine st9 _ ?_
        refine XS.iloadN X9.here hx rfl (hb hby d7_38) rfl ?_
        refine XS.iload X9.here hx rfl (hb hby d7_39) rfl ?_
        show Steps p.tables e below (T9.setTop (mkF m 41 #[.val (.ref a), .val (.int (own_i kf)), .val (.int (own_i kg)), .val (.int (own_i N)), .val (.int (own_i (kg - kf)))] [(.int (own_i (kg - kf))), (.int (own_i kf)), (.ref t)])) _
        refine st10.trans ?_
        refine XS.goto X10.here hx rfl (pc0 := 44) (pc' := 57) rfl (hb hby d7_44) (by decide) (by decide) ?_
        show Steps p.tables e below (T10.setTop (mkF m 57 #[.val (.ref a), .val (.int (own_i kf)), .val (.int (own_i kg)), .val (.int (own_i N)), .val (.int (own_i (kg - kf)))] [(.ref r_10)])) _
        jvm_step X10.here [X10.here.top, hx, (hb hby d7_57), X10.method', Bd.returns, Value.isRef, FieldType.isReference]
        first | (intro acts; rw [hr _ acts rfl rfl rfl]) | rw [hr _ _ rfl rfl rfl]
        exact Steps.refl _
      · show Qsubstr Z a kf kg sf cz t kt N xs h0 n0 _ T10.heap _
        exact ⟨r_10, t2_10, kt2_10, rfl, N10, K10, r10_1, r10_2, r10_3, r10_4⟩
      · rw [hh]
        show CHr Z own_EL s.vm h0 T10.vm T10.heap
        exact RC10.trans (CHv.at X10 hZ hEL HC10)
  · have pre11 : ∀ tg_, Steps p.tables e below (T2.setTop (mkF m 25 #[.val (.ref a), .val (.int (own_i kf)), .val (.int (own_i kg)), .val (.int (own_i N)), .unset] [(.int ((own_i kg) - (own_i kf)))])) tg_ → Steps p.tables e below (s₁.setTop (entryFrame m #[(.ref a), (.int (own_i kf)), (.int (own_i kg))] 5)) tg_ := by
      intro tg_ kt_
      refine pre3 tg_ ?_
      refine XS.ifYes X2.here hx rfl (pc0 := 12) (pc' := 22) rfl (hb hby d7_12) rfl ((if0 _ _).trans (feq hc4).2) (by decide) (by decide) ?_
      refine XS.iloadN X2.here hx rfl (hb hby d7_22) rfl ?_
      show Steps p.tables e below (T2.setTop (mkF m 23 #[.val (.ref a), .val (.int (own_i kf)), .val (.int (own_i kg)), .val (.int (own_i N)), .unset] [(.int (own_i kg))])) _
      refine XS.iloadN X2.here hx rfl (hb hby d7_23) rfl ?_
      refine XS.isub X2.here hx rfl (hb hby d7_24) rfl ?_
      exact kt_
    rw [show ((own_i kg) - (own_i kf)) = (own_i (kg - kf)) from own_isub hfg] at pre11
    obtain ⟨cq12, kq12, q12a, q12b, q12c⟩ := isOf hZ eh2 hp0
    obtain ⟨_, _, ⟨T12, L12, k12, n12⟩, -, X12, ⟨Lc12, hQ12, l12, y12, z12⟩, st12⟩ := X2.virtualBack hx (y := mN3) (z := mN3) hown (mvT hZ (hw _ w_82)) (mvT hZ (hw _ w_83)) (notFace_of_selects (args := #[]) (mvT hZ (hw _ w_85))) (mvT hZ (hw _ w_85)) (mvT hZ (hw _ w_84)) (by decide) (backOf (W := 0) (rmisL1 l Z a0 hw [] a cz h0 n0 O0 hp2 hp4 hcz) hZ (hw _ w_86) (hw _ w_4) (by decide) (by decide)) q12a q12c (g := (mkF m 28 #[.val (.ref a), .val (.int (own_i kf)), .val (.int (own_i kg)), .val (.int (own_i N)), .val (.int (own_i (kg - kf)))] [(.ref a)])) rfl (by rw [hml]; rfl) (Steps.refl _) (argsL := []) (rest := []) (lenOf pd___Z rfl) rfl (by show 2 * 0 + _ ≤ _; exact Nat.le_of_eq rfl) (hb hby d7_28) (fun _ _ => ⟨rfl, eh2, (by decide : 0 + 0 ≤ _), (by decide : 0 + 0 ≤ _)⟩)
    dsimp only [Pt.U, Pt.locs, Pt.cells, Pt.slots] at X12 l12 y12 z12 st12 hQ12
    subst l12 y12 z12
    obtain ⟨rfl, N12q, eh12⟩ := hQ12
    have N12 := Fr.app N2 N12q
    obtain ⟨T13, X13, e13, st13⟩ := getF X12 hx hZ hown (host := "") (Or.inl (hw _ w_21)) Via.refl eh12 hp1 (g := (mkF m 35 #[.val (.ref a), .val (.int (own_i kf)), .val (.int (own_i kg)), .val (.int (own_i N)), .val (.int (own_i (kg - kf)))] [(.ref a)])) rfl rfl (hb hby d7_35)
    obtain ⟨_, _, ⟨T14, L14, k14, n14⟩, -, Xh14, Sh14, gh14, ⟨Lc14, hQ14, l14, y14, z14, R14⟩, st14⟩ := callSS X13 hx (y := mN14) hown (mvT hZ (hw _ w_104)) (mvT hZ (hw _ w_105)) (mvT hZ (hw _ w_89)) (mvT hZ (hw _ w_106)) (by decide) (backOfSH (s := s) (W := 0) (rmnewSt l Z a0 hw [] t kf (kg - kf) kt N xs h0 n0 O0 hp3 hN hlen (by omega) (fun z => hc4 ((own_i0 (by omega)).mpr z.1))) hZ (hw _ w_106) (hw _ w_89) (by decide) (by decide) hEL HC0) (g := (mkF m 41 #[.val (.ref a), .val (.int (own_i kf)), .val (.int (own_i kg)), .val (.int (own_i N)), .val (.int (own_i (kg - kf)))] [(.int (own_i (kg - kf))), (.int (own_i kf)), (.ref t)])) rfl (by rw [hml]; rfl) (argsL := [(.ref t), (.int (own_i kf)), (.int (own_i (kg - kf)))]) (rest := []) (lenOf pd__ABII_Ljava_lang_String_ rfl) rfl (by show 2 * 0 + _ ≤ _; exact Nat.le_of_eq rfl) (hb hby d7_41) (fun _ _ => ⟨rfl, e13, (by decide : 0 + 2 ≤ _), (by decide : 0 + 8 ≤ _)⟩)
    dsimp only [Pt.U, Pt.locs, Pt.cells, Pt.slots] at Xh14 Sh14 gh14 l14 y14 z14 R14 st14 hQ14
    subst l14 y14 z14
    obtain ⟨X14, hS, hZ, hown⟩ := rebS hS (show _ ≤ T13.heap.size by rw [e13]; exact hk) Xh14 Sh14 gh14 hZ hown
    have hk := Nat.le_refl T14.heap.size
    obtain ⟨r_14, t2_14, kt2_14, rfl, N14q, Kc14, r14_1, r14_2, r14_3, r14_4⟩ := hQ14
    have N14 := Fr.app N12 N14q
    have O14 : Old Z n0 T14.heap := O0.keep Kc14 all0
    have K14 : Keep h0 T14.heap [] := (Keep.refl h0 []).trans Kc14 all0
    have HC14 := R14.1
    have RC14 := (CHr.refl HC0).trans R14
    obtain ⟨fs, hr, hrun, hended, hRE⟩ := X14.leaveW hS hk (v := some (.ref r_14)) (fun h => by rw [Bd.returns] at h; cases h)
    refine ⟨_, _, pre11 _ ?_, hrun, hended, _, _, rfl, ?_, ?_, ⟨hRE.1, hRE.2.1, hRE.2.2.1, hRE.2.2.2.mono (by decide) (by decide)⟩⟩
    · refine XS.istore X2.here hx rfl (hb hby d7_25) rfl (l' := #[.val (.ref a), .val (.int (own_i kf)), .val (.int (own_i kg)), .val (.int (own_i N)), .val (.int (own_i (kg - kf)))]) rfl ?_
      refine XS.aloadN X2.here hx rfl (hb hby d7_27) rfl rfl ?_
      show Steps p.tables e below (T2.setTop (mkF m 28 #[.val (.ref a), .val (.int (own_i kf)), .val (.int (own_i kg)), .val (.int (own_i N)), .val (.int (own_i (kg - kf)))] [(.ref a)])) _
      refine st12.trans ?_
      refine XS.ifNo X12.here hx rfl (hb hby d7_31) rfl ((if0 _ _).trans (feq (by decide : ¬ ((1 : Int32) = (0 : Int32)))).1) ?_
      refine XS.aloadN X12.here hx rfl (hb hby d7_34) rfl rfl ?_
      show Steps p.tables e below (T12.setTop (mkF m 35 #[.val (.ref a), .val (.int (own_i kf)), .val (.int (own_i kg)), .val (.int (own_i N)), .val (.int (own_i (kg - kf)))] [(.ref a)])) _
      refine st13 _ ?_
      refine XS.iloadN X13.here hx rfl (hb hby d7_38) rfl ?_
      refine XS.iload X13.here hx rfl (hb hby d7_39) rfl ?_
      show Steps p.tables e below (T13.setTop (mkF m 41 #[.val (.ref a), .val (.int (own_i kf)), .val (.int (own_i kg)), .val (.int (own_i N)), .val (.int (own_i (kg - kf)))] [(.int (own_i (kg - kf))), (.int (own_i kf)), (.ref t)])) _
      refine st14.trans ?_
      refine XS.goto X14.here hx rfl (pc0 := 44) (pc' := 57) rfl (hb hby d7_44) (by decide) (by decide) ?_
      show Steps p.tables e below (T14.setTop (mkF m 57 #[.val (.ref a), .val (.int (own_i kf)), .val (.int (own_i kg)), .val (.int (own_i N)), .val (.int (own_i (kg - kf)))] [(.ref r_14)])) _
      jvm_step X14.here [X14.here.top, hx, (hb hby d7_57), X14.method', Bd.returns, Value.isRef, FieldType.isReference]
      first | (intro acts; rw [hr _ acts rfl rfl rfl]) | rw [hr _ _ rfl rfl rfl]
      exact Steps.refl _
    · show Qsubstr Z a kf kg sf cz t kt N xs h0 n0 _ T14.heap _
      exact ⟨r_14, t2_14, kt2_14, rfl, N14, K14, r14_1, r14_2, r14_3, r14_4⟩
    · rw [hh]
      show CHr Z own_EL s.vm h0 T14.vm T14.heap
      exact RC14.trans (CHv.at X14 hZ hEL HC14)
theorem d2_0 : decode jdk_42_method_149_code 0 = .ok (.aload_n 0, 1) := by decide +kernel
theorem d2_1 : decode jdk_42_method_149_code 1 = .ok (.invokespecial 1, 3) := by decide +kernel
theorem d2_4 : decode jdk_42_method_149_code 4 = .ok (.iload_n 3, 1) := by decide +kernel
theorem d2_5 : decode jdk_42_method_149_code 5 = .ok (.ifCond .ne 22, 3) := by decide +kernel
theorem d2_8 : decode jdk_42_method_149_code 8 = .ok (.aload_n 0, 1) := by decide +kernel
theorem d2_9 : decode jdk_42_method_149_code 9 = .ok (.ldc 7, 2) := by decide +kernel
theorem d2_11 : decode jdk_42_method_149_code 11 = .ok (.getfield 9, 3) := by decide +kernel
theorem d2_14 : decode jdk_42_method_149_code 14 = .ok (.putfield 9, 3) := by decide +kernel
theorem d2_17 : decode jdk_42_method_149_code 17 = .ok (.aload_n 0, 1) := by decide +kernel
theorem d2_18 : decode jdk_42_method_149_code 18 = .ok (.ldc 7, 2) := by decide +kernel
theorem d2_20 : decode jdk_42_method_149_code 20 = .ok (.getfield 15, 3) := by decide +kernel
theorem d2_23 : decode jdk_42_method_149_code 23 = .ok (.putfield 15, 3) := by decide +kernel
theorem d2_26 : decode jdk_42_method_149_code 26 = .ok (.return_, 1) := by decide +kernel
abbrev mN18 : MethodName := ⟨"java/lang/String", "<init>", "([CIILjava/lang/Void;)V"⟩
theorem ef_strE4 (m : MethodId) (x0 : Addr) (x1 : Addr) (x2 : Int32) (x3 : Int32) : entryFrame m #[(.ref x0), (.ref x1), (.int x2), (.int x3), .null] 6 = mkF m 0 #[.val (.ref x0), .val (.ref x1), .val (.int x2), .val (.int x3), .val .null, .unset] [] := by first | (simp [entryFrame, mkF, argsToLocals, Value.category]; done) | rfl
def QstrE4 (Z : State) (a : Addr) (b : Addr) (u2 : Value) (h0 : Heap) (n0 : Nat) (v : Option Value) (h : Heap) (L : List Loc) : Prop := ∃ (t : Addr), ∃ (kt : ClassId), v = none ∧ Fr n0 L ∧ Keep h0 h [a] ∧ Exa Z h a "java/lang/String" ∧ Fld Z h a "java/lang/String" "value" "[B" (.ref t) ∧ Fld Z h a "java/lang/String" "coder" "B" (.int (0 : Int32)) ∧ Arv Z h t kt .byte (0 : Int32) [] (.int (0 : Int32))
set_option maxRecDepth 65536 in
set_option maxHeartbeats 40000000 in
theorem rmstrE4 (l : Launch) (Z : State) (a0 : Array Value) (hw : ∀ d ∈ tables_1, d.before a0 Z = true) (ws : List Jvm.Cond) (a : Addr) (b : Addr) (u2 : Value) (h0 : Heap) (n0 : Nat) (O0 : Old Z n0 h0) (hp0 : Exa Z h0 a "java/lang/String") (hp1 : n0 ≤ a) (hp2 : Fld Z h0 a "java/lang/String" "value" "[B" .null) (hp3 : Fld Z h0 a "java/lang/String" "coder" "B" u2) :
    MetFree l mN18 (head1 (Jvm.Cond.code mN18 jdk_42_method_149_code 6 none :: ws) ({ frames := 1, cells := 4, slots := 8, locals := 12 } : Room)) (fun as_ U => as_ = #[(.ref a), (.ref b), (.int (0 : Int32)), (.int (0 : Int32)), .null] ∧ Z.Warmed39 U.vm ∧ U.heap = h0 ∧ CHv Z own_EL U.vm h0) (fun _ _ _ _ _ => True) (fun _ U o U' => ∃ v L, o = .returned v ∧ QstrE4 Z a b u2 h0 n0 v U'.heap L ∧ CHr Z own_EL U.vm U.heap U'.vm U'.heap ∧ ReturnedEndW U o U' L ({ frames := 1, cells := 4, slots := 8, locals := 12 } : Room).cells ({ frames := 1, cells := 4, slots := 8, locals := 12 } : Room).slots) := by
  refine MetFree.of_bodySF (plainFor_of_name pn_java_lang_String) hisR ?_
  intro p e s m args below meth c s₁ Bd hml0 hP hK
  obtain ⟨rfl, hZ, hh, HC0⟩ := hP
  have hx := Bd.exec
  have hby := Bd.bytes
  have hml : c.maxLocals = 6 := hml0
  have hown : s.vm.findClass "java/lang/String" = some m.cls := findClass_of_methodNamed Bd.named
  have hnm := (name_of_methodNamed Bd.named Bd.method).1
  have X0 : Stand p l e ({ frames := 1, cells := 4, slots := 8, locals := 12 } : Room) (s.setVm s.vm) m #[(.ref a), (.ref b), (.int (0 : Int32)), (.int (0 : Int32)), .null] below meth c s₁ [] 0 0 := Stand.of_body Bd
  have hS : s.Since s.vm 0 := (State.WarmedH.refl s).since 0
  have hk : 0 ≤ h0.size := Nat.zero_le _
  have hEL := own_EW hw
  have wS := own_wS hw
  have hZ : Z.Warmed39 (s.setVm s.vm).vm := hZ
  have hown : (s.setVm s.vm).vm.findClass "java/lang/String" = some m.cls := hown
  have e0 : s₁.heap = h0 := by rw [← hh, Bd.state]; rfl
  have N0 := Fr.nil n0
  have Z0 := own_z0 O0
  have pre0 : ∀ tg_, Steps p.tables e below (s₁.setTop (mkF m 0 #[.val (.ref a), .val (.ref b), .val (.int (0 : Int32)), .val (.int (0 : Int32)), .val .null, .unset] [])) tg_ → Steps p.tables e below (s₁.setTop (entryFrame m #[(.ref a), (.ref b), (.int (0 : Int32)), (.int (0 : Int32)), .null] 6)) tg_ := fun tg_ kt_ => castTop (ef_strE4 m a b (0 : Int32) (0 : Int32)) kt_
  have sf_a : Safe Z own_EL (s.setVm s.vm).vm h0 a := own_safeNull hZ.alike hp0 hp2
  obtain ⟨T1, X1, e1, st1⟩ := initO X0 hx hZ hown (hw _ w_12) (hw _ w_13) (hw _ w_14) e0 (g := (mkF m 1 #[.val (.ref a), .val (.ref b), .val (.int (0 : Int32)), .val (.int (0 : Int32)), .val .null, .unset] [(.ref a)])) rfl (by rw [hml]; rfl) rfl (hb hby d2_1) (by decide) (W := 0) (by show 2 * 0 + _ ≤ _; exact Nat.le_of_eq rfl) (by decide)
  obtain ⟨a2, T2, h2, kq2, sb2, kb2, X2, e2, E2, hS, hk, hZ, hown, A2, Fc2, Fv2, V2, lt2, lu2, R2, Li2, Sf2, st2⟩ := ldcCH X1 hx hZ hown (hw _ w_15) wS e1 hS hk hEL (by decide) HC0 (vs := []) (z := (0 : Int32)) ⟨by decide, by decide⟩ (by decide) (by decide) (g := (mkF m 9 #[.val (.ref a), .val (.ref b), .val (.int (0 : Int32)), .val (.int (0 : Int32)), .val .null, .unset] [(.ref a)])) rfl (hb hby d2_9) (n := 0) (by decide) (by decide) (by decide) (by decide)
  have O2 : Old Z n0 h2 := O0.ext E2
  have K2 : Keep h0 h2 [a] := (Keep.refl h0 [a]).ext E2
  have HC2 := R2.1
  have RC2 := (CHr.refl HC0).trans R2
  obtain ⟨T3, X3, e3, st3⟩ := getF X2 hx hZ hown (host := "") (Or.inl (hw _ w_21)) Via.refl e2 Fv2 (g := (mkF m 11 #[.val (.ref a), .val (.ref b), .val (.int (0 : Int32)), .val (.int (0 : Int32)), .val .null, .unset] [(.ref a2), (.ref a)])) rfl rfl (hb hby d2_11)
  obtain ⟨T4, h4, X4, e4, W4, st4⟩ := putF X3 hx hZ hown (host := "") (Or.inl (hw _ w_21)) Via.refl e3 (hp2.ext E2) (hp0.ext E2) (Or.inr ⟨(hw _ w_17), rfl, hnm⟩) (hw _ w_3) (ty := (.array .byte)) (by decide) rfl rfl (g := (mkF m 14 #[.val (.ref a), .val (.ref b), .val (.int (0 : Int32)), .val (.int (0 : Int32)), .val .null, .unset] [(.ref sb2), (.ref a)])) rfl rfl (hb hby d2_14)
  have Fw4 := (hp2.ext E2).same W4
  have N4 := Fr.snoc X4 N0 hp1
  have O4 : Old Z n0 h4 := O2.wr W4 hp1
  have K4 : Keep h0 h4 [a] := K2.wr W4 (Or.inl (List.mem_of_getElem? (i := 0) rfl))
  have hk := Nat.le_trans hk (Keep.of_wr W4).1
  have HC4 := CHv.wr W4 (CHr.safe R2 hp0.lt sf_a) HC2
  have RC4 := RC2.trans (CHr.wr W4 (CHr.safe R2 hp0.lt sf_a) HC2)
  obtain ⟨a5, T5, h5, kq5, sb5, kb5, X5, e5, E5, hS, hk, hZ, hown, A5, Fc5, Fv5, V5, lt5, lu5, R5, Li5, Sf5, st5⟩ := ldcCH X4 hx hZ hown (hw _ w_15) wS e4 hS hk hEL (by decide) HC4 (vs := []) (z := (0 : Int32)) ⟨by decide, by decide⟩ (by decide) (by decide) (g := (mkF m 18 #[.val (.ref a), .val (.ref b), .val (.int (0 : Int32)), .val (.int (0 : Int32)), .val .null, .unset] [(.ref a)])) rfl (hb hby d2_18) (n := 0) (by decide) (by decide) (by decide) (by decide)
  have O5 : Old Z n0 h5 := O4.ext E5
  have K5 : Keep h0 h5 [a] := K4.ext E5
  have HC5 := R5.1
  have RC5 := RC4.trans R5
  obtain ⟨T6, X6, e6, st6⟩ := getF X5 hx hZ hown (host := "") (Or.inl (hw _ w_22)) Via.refl e5 Fc5 (g := (mkF m 20 #[.val (.ref a), .val (.ref b), .val (.int (0 : Int32)), .val (.int (0 : Int32)), .val .null, .unset] [(.ref a5), (.ref a)])) rfl rfl (hb hby d2_20)
  obtain ⟨T7, h7, X7, e7, W7, st7⟩ := putFN X6 hx hZ hown (hw _ w_22) Via.refl e6 (((hp3.ext E2).other W4 (Or.inr (slot_ne (Or.inr (hw _ w_18)) (Or.inr (hw _ w_17)) (by decide) (t := .byte) (t' := (.array .byte)) (by decide) (by decide)))).ext E5) (((hp0.ext E2).wr W4).ext E5) (Or.inr ⟨(hw _ w_18), rfl, hnm⟩) (hw _ w_3) (ty := .byte) (v' := (.int (0 : Int32))) (by decide) rfl rfl (g := (mkF m 23 #[.val (.ref a), .val (.ref b), .val (.int (0 : Int32)), .val (.int (0 : Int32)), .val .null, .unset] [(.int (0 : Int32)), (.ref a)])) rfl rfl (hb hby d2_23)
  have Fw7 := (((hp3.ext E2).other W4 (Or.inr (slot_ne (Or.inr (hw _ w_18)) (Or.inr (hw _ w_17)) (by decide) (t := .byte) (t' := (.array .byte)) (by decide) (by decide)))).ext E5).same W7
  have N7 := Fr.snoc X7 N4 hp1
  have O7 : Old Z n0 h7 := O5.wr W7 hp1
  have K7 : Keep h0 h7 [a] := K5.wr W7 (Or.inl (List.mem_of_getElem? (i := 0) rfl))
  have hk := Nat.le_trans hk (Keep.of_wr W7).1
  have HC7 := CHv.wr W7 (CHr.safe R5 ((hp0.ext E2).wr W4).lt (Safe.wr W4 (CHr.safe R2 hp0.lt sf_a) HC2 (CHr.safe R2 hp0.lt sf_a))) HC5
  have RC7 := RC5.trans (CHr.wr W7 (CHr.safe R5 ((hp0.ext E2).wr W4).lt (Safe.wr W4 (CHr.safe R2 hp0.lt sf_a) HC2 (CHr.safe R2 hp0.lt sf_a))) HC5)
  obtain ⟨fs, hr, hrun, hended, hRE⟩ := X7.leaveW hS (show _ ≤ T7.heap.size by rw [e7]; exact hk) (v := none) (fun _ => rfl)
  refine ⟨_, _, pre0 _ ?_, hrun, hended, _, _, rfl, ?_, ?_, ⟨hRE.1, hRE.2.1, hRE.2.2.1, hRE.2.2.2.mono (by decide) (by decide)⟩⟩
  · refine XS.aloadN X0.here hx rfl (hb hby d2_0) rfl rfl ?_
    show Steps p.tables e below (s₁.setTop (mkF m 1 #[.val (.ref a), .val (.ref b), .val (.int (0 : Int32)), .val (.int (0 : Int32)), .val .null, .unset] [(.ref a)])) _
    refine st1 _ ?_
    refine XS.iloadN X1.here hx rfl (hb hby d2_4) rfl ?_
    refine XS.ifNo X1.here hx rfl (hb hby d2_5) rfl ((if0 _ _).trans (teq (by decide : (0 : Int32) = (0 : Int32))).2) ?_
    refine XS.aloadN X1.here hx rfl (hb hby d2_8) rfl rfl ?_
    show Steps p.tables e below (T1.setTop (mkF m 9 #[.val (.ref a), .val (.ref b), .val (.int (0 : Int32)), .val (.int (0 : Int32)), .val .null, .unset] [(.ref a)])) _
    refine st2 _ ?_
    show Steps p.tables e below (T2.setTop (mkF m 11 #[.val (.ref a), .val (.ref b), .val (.int (0 : Int32)), .val (.int (0 : Int32)), .val .null, .unset] [(.ref a2), (.ref a)])) _
    refine st3 _ ?_
    show Steps p.tables e below (T3.setTop (mkF m 14 #[.val (.ref a), .val (.ref b), .val (.int (0 : Int32)), .val (.int (0 : Int32)), .val .null, .unset] [(.ref sb2), (.ref a)])) _
    refine st4 _ ?_
    refine XS.aloadN X4.here hx rfl (hb hby d2_17) rfl rfl ?_
    show Steps p.tables e below (T4.setTop (mkF m 18 #[.val (.ref a), .val (.ref b), .val (.int (0 : Int32)), .val (.int (0 : Int32)), .val .null, .unset] [(.ref a)])) _
    refine st5 _ ?_
    show Steps p.tables e below (T5.setTop (mkF m 20 #[.val (.ref a), .val (.ref b), .val (.int (0 : Int32)), .val (.int (0 : Int32)), .val .null, .unset] [(.ref a5), (.ref a)])) _
    refine st6 _ ?_
    show Steps p.tables e below (T6.setTop (mkF m 23 #[.val (.ref a), .val (.ref b), .val (.int (0 : Int32)), .val (.int (0 : Int32)), .val .null, .unset] [(.int (0 : Int32)), (.ref a)])) _
    refine st7 _ ?_
    show Steps p.tables e below (T7.setTop (mkF m 26 #[.val (.ref a), .val (.ref b), .val (.int (0 : Int32)), .val (.int (0 : Int32)), .val .null, .unset] [])) _
    exact X7.returnOut hx Bd.returns (hb hby d2_26) hr
  · show QstrE4 Z a b u2 h0 n0 _ T7.heap _
    rw [e7]
    exact ⟨sb2, kb2, rfl, N7, K7, ((((hp0.ext E2).wr W4).ext E5).wr W7), ((Fw4.ext E5).other W7 (Or.inr (slot_ne (Or.inr (hw _ w_17)) (Or.inr (hw _ w_18)) (by decide) (t := (.array .byte)) (t' := .byte) (by decide) (by decide)))), Fw7, (((V2.other W4 (Ne.symm (Sf2 _ (CHr.safe R2 hp0.lt sf_a)).2)).ext E5).other W7 (Ne.symm (Sf2 _ (CHr.safe R2 hp0.lt sf_a)).2))⟩
  · rw [hh]
    show CHr Z own_EL s.vm h0 T7.vm T7.heap
    rw [e7]
    exact RC7.trans (CHv.at X7 hZ hEL HC7)
theorem d1_0 : decode jdk_42_method_3_code 0 = .ok (.aload_n 0, 1) := by decide +kernel
theorem d1_1 : decode jdk_42_method_3_code 1 = .ok (.aload_n 1, 1) := by decide +kernel
theorem d1_2 : decode jdk_42_method_3_code 2 = .ok (.iconst 0, 1) := by decide +kernel
theorem d1_3 : decode jdk_42_method_3_code 3 = .ok (.aload_n 1, 1) := by decide +kernel
theorem d1_4 : decode jdk_42_method_3_code 4 = .ok (.arraylength, 1) := by decide +kernel
theorem d1_5 : decode jdk_42_method_3_code 5 = .ok (.aconst_null, 1) := by decide +kernel
theorem w_8 : (Jvm.Cond.methodLink "java/lang/String" (27 : Nat) ({ cls := "java/lang/String", name := "<init>", desc := "([CIILjava/lang/Void;)V" } : Jvm.MethodName)) ∈ tables_1 := List.mem_of_getElem? (i := 8) (by decide +kernel)
theorem w_11 : (Jvm.Cond.code ({ cls := "java/lang/String", name := "<init>", desc := "([CIILjava/lang/Void;)V" } : Jvm.MethodName) jdk_42_method_149_code (6 : Nat) (Option.none : Option Jvm.ClassFile.FieldType)) ∈ tables_1 := List.mem_of_getElem? (i := 11) (by decide +kernel)
theorem pd__ACIILjava_lang_Void__V : parseMethodDescriptor "([CIILjava/lang/Void;)V" = some ⟨[(.array .char), .int, .int, (.object "java/lang/Void")], none⟩ := by decide +kernel
theorem d1_6 : decode jdk_42_method_3_code 6 = .ok (.invokespecial 27, 3) := by decide +kernel
theorem w_9 : (Jvm.Cond.instanceMethod ({ cls := "java/lang/String", name := "<init>", desc := "([CIILjava/lang/Void;)V" } : Jvm.MethodName)) ∈ tables_1 := List.mem_of_getElem? (i := 9) (by decide +kernel)
theorem d1_9 : decode jdk_42_method_3_code 9 = .ok (.return_, 1) := by decide +kernel
abbrev mN19 : MethodName := ⟨"java/lang/String", "<init>", "([C)V"⟩
theorem ef_strE1 (m : MethodId) (x0 : Addr) (x1 : Addr) : entryFrame m #[(.ref x0), (.ref x1)] 2 = mkF m 0 #[.val (.ref x0), .val (.ref x1)] [] := by first | (simp [entryFrame, mkF, argsToLocals, Value.category]; done) | rfl
def QstrE1 (Z : State) (a : Addr) (b : Addr) (u2 : Value) (kb : ClassId) (h0 : Heap) (n0 : Nat) (v : Option Value) (h : Heap) (L : List Loc) : Prop := ∃ (t : Addr), ∃ (kt : ClassId), v = none ∧ Fr n0 L ∧ Keep h0 h [a] ∧ Exa Z h a "java/lang/String" ∧ Fld Z h a "java/lang/String" "value" "[B" (.ref t) ∧ Fld Z h a "java/lang/String" "coder" "B" (.int (0 : Int32)) ∧ Arv Z h t kt .byte (0 : Int32) [] (.int (0 : Int32))
set_option maxRecDepth 65536 in
set_option maxHeartbeats 40000000 in
theorem rmstrE1 (l : Launch) (Z : State) (a0 : Array Value) (hw : ∀ d ∈ tables_1, d.before a0 Z = true) (ws : List Jvm.Cond) (a : Addr) (b : Addr) (u2 : Value) (kb : ClassId) (h0 : Heap) (n0 : Nat) (O0 : Old Z n0 h0) (hp0 : Exa Z h0 a "java/lang/String") (hp1 : n0 ≤ a) (hp2 : Fld Z h0 a "java/lang/String" "value" "[B" .null) (hp3 : Fld Z h0 a "java/lang/String" "coder" "B" u2) (hp4 : Arv Z h0 b kb .char (0 : Int32) [] (.int (0 : Int32))) :
    MetFree l mN19 (head1 (Jvm.Cond.code mN19 jdk_42_method_3_code 2 none :: ws) ({ frames := 2, cells := 4, slots := 8, locals := 29 } : Room)) (fun as_ U => as_ = #[(.ref a), (.ref b)] ∧ Z.Warmed39 U.vm ∧ U.heap = h0 ∧ CHv Z own_EL U.vm h0) (fun _ _ _ _ _ => True) (fun _ U o U' => ∃ v L, o = .returned v ∧ QstrE1 Z a b u2 kb h0 n0 v U'.heap L ∧ CHr Z own_EL U.vm U.heap U'.vm U'.heap ∧ ReturnedEndW U o U' L ({ frames := 2, cells := 4, slots := 8, locals := 29 } : Room).cells ({ frames := 2, cells := 4, slots := 8, locals := 29 } : Room).slots) := by
  refine MetFree.of_bodySF (plainFor_of_name pn_java_lang_String) hisR ?_
  intro p e s m args below meth c s₁ Bd hml0 hP hK
  obtain ⟨rfl, hZ, hh, HC0⟩ := hP
  have hx := Bd.exec
  have hby := Bd.bytes
  have hml : c.maxLocals = 2 := hml0
  have hown : s.vm.findClass "java/lang/String" = some m.cls := findClass_of_methodNamed Bd.named
  have hnm := (name_of_methodNamed Bd.named Bd.method).1
  have X0 : Stand p l e ({ frames := 2, cells := 4, slots := 8, locals := 29 } : Room) (s.setVm s.vm) m #[(.ref a), (.ref b)] below meth c s₁ [] 0 0 := Stand.of_body Bd
  have hS : s.Since s.vm 0 := (State.WarmedH.refl s).since 0
  have hk : 0 ≤ h0.size := Nat.zero_le _
  have hEL := own_EW hw
  have wS := own_wS hw
  have hZ : Z.Warmed39 (s.setVm s.vm).vm := hZ
  have hown : (s.setVm s.vm).vm.findClass "java/lang/String" = some m.cls := hown
  have e0 : s₁.heap = h0 := by rw [← hh, Bd.state]; rfl
  have N0 := Fr.nil n0
  have Z0 := own_z0 O0
  have pre0 : ∀ tg_, Steps p.tables e below (s₁.setTop (mkF m 0 #[.val (.ref a), .val (.ref b)] [])) tg_ → Steps p.tables e below (s₁.setTop (entryFrame m #[(.ref a), (.ref b)] 2)) tg_ := fun tg_ kt_ => castTop (ef_strE1 m a b) kt_
  have sf_a : Safe Z own_EL (s.setVm s.vm).vm h0 a := own_safeNull hZ.alike hp0 hp2
  obtain ⟨cl1, Ar1, -, S1, Ng1, -, -⟩ := id hp4
  have pre3 : ∀ tg_, Steps p.tables e below (s₁.setTop (mkF m 6 #[.val (.ref a), .val (.ref b)] [.null, (.int (0 : Int32)), (.int (0 : Int32)), (.ref b), (.ref a)])) tg_ → Steps p.tables e below (s₁.setTop (entryFrame m #[(.ref a), (.ref b)] 2)) tg_ := by
    intro tg_ kt_
    refine pre0 tg_ ?_
    refine XS.aloadN X0.here hx rfl (hb hby d1_0) rfl rfl ?_
    refine XS.aloadN X0.here hx rfl (hb hby d1_1) rfl rfl ?_
    refine XS.iconst X0.here hx rfl (hb hby d1_2) ?_
    show Steps p.tables e below (s₁.setTop (mkF m 3 #[.val (.ref a), .val (.ref b)] [(.int (0 : Int32)), (.ref b), (.ref a)])) _
    refine XS.aloadN X0.here hx rfl (hb hby d1_3) rfl rfl ?_
    show Steps p.tables e below (s₁.setTop (mkF m 4 #[.val (.ref a), .val (.ref b)] [(.ref b), (.int (0 : Int32)), (.ref b), (.ref a)])) _
    refine X0.arraylength hx (by rw [e0]; exact Ar1.1) (State.isArrayOf_alike hZ.alike Ar1.2.1) (g := (mkF m 4 #[.val (.ref a), .val (.ref b)] [(.ref b), (.int (0 : Int32)), (.ref b), (.ref a)])) rfl rfl (hb hby d1_4) _ ?_
    rw [len_of S1 Ng1]
    refine XS.aconstNull X0.here hx rfl (hb hby d1_5) ?_
    exact kt_
  obtain ⟨_, _, ⟨T2, L2, k2, n2⟩, -, Xh2, Sh2, gh2, ⟨Lc2, hQ2, l2, y2, z2, R2⟩, st2⟩ := X0.specialBackS hx (y := mN18) rfl hown (mvT hZ (hw _ w_8)) (mvT hZ (hw _ w_9)) (mvT hZ (hw _ w_11)) (by decide) (backOfSH (s := s) (W := 0) (rmstrE4 l Z a0 hw [] a b u2 h0 n0 O0 hp0 hp1 hp2 hp3) hZ (hw _ w_11) (hw _ w_4) (by decide) (by decide) hEL HC0) (g := (mkF m 6 #[.val (.ref a), .val (.ref b)] [.null, (.int (0 : Int32)), (.int (0 : Int32)), (.ref b), (.ref a)])) rfl (by rw [hml]; rfl) (Steps.refl _) (a := a) (argsL := [(.ref b), (.int (0 : Int32)), (.int (0 : Int32)), .null]) (rest := []) (lenOf pd__ACIILjava_lang_Void__V rfl) rfl (by show 2 * 0 + _ ≤ _; exact Nat.le_of_eq rfl) (hb hby d1_6) (fun _ _ => ⟨rfl, e0, (by decide : 0 + 4 ≤ _), (by decide : 0 + 8 ≤ _)⟩)
  dsimp only [Pt.U, Pt.locs, Pt.cells, Pt.slots] at Xh2 Sh2 gh2 l2 y2 z2 R2 st2 hQ2
  subst l2 y2 z2
  obtain ⟨X2, hS, hZ, hown⟩ := rebS hS (show _ ≤ s₁.heap.size by rw [e0]; exact hk) Xh2 Sh2 gh2 hZ hown
  have hk := Nat.le_refl T2.heap.size
  obtain ⟨t_2, kt_2, rfl, N2q, Kc2, r2_1, r2_2, r2_3, r2_4⟩ := hQ2
  have N2 := Fr.app N0 N2q
  have O2 : Old Z n0 T2.heap := O0.keep Kc2 (allS hp1 all0)
  have K2 : Keep h0 T2.heap [a] := (Keep.refl h0 [a]).trans Kc2 (allS (Or.inl (List.mem_of_getElem? (i := 0) rfl)) all0)
  have HC2 := R2.1
  have RC2 := (CHr.refl HC0).trans R2
  obtain ⟨fs, hr, hrun, hended, hRE⟩ := X2.leaveW hS hk (v := none) (fun _ => rfl)
  refine ⟨_, _, pre3 _ ?_, hrun, hended, _, _, rfl, ?_, ?_, ⟨hRE.1, hRE.2.1, hRE.2.2.1, hRE.2.2.2.mono (by decide) (by decide)⟩⟩
  · show Steps p.tables e below (s₁.setTop (mkF m 6 #[.val (.ref a), .val (.ref b)] [.null, (.int (0 : Int32)), (.int (0 : Int32)), (.ref b), (.ref a)])) _
    refine st2.trans ?_
    show Steps p.tables e below (T2.setTop (mkF m 9 #[.val (.ref a), .val (.ref b)] [])) _
    exact X2.returnOut hx Bd.returns (hb hby d1_9) hr
  · show QstrE1 Z a b u2 kb h0 n0 _ T2.heap _
    exact ⟨t_2, kt_2, rfl, N2, K2, r2_1, r2_2, r2_3, r2_4⟩
  · rw [hh]
    show CHr Z own_EL s.vm h0 T2.vm T2.heap
    exact RC2.trans (CHv.at X2 hZ hEL HC2)
theorem d4_53 : decode prog_56_method_4_code 53 = .ok (.aload_n 0, 1) := by decide +kernel
theorem d4_54 : decode prog_56_method_4_code 54 = .ok (.iload_n 1, 1) := by decide +kernel
theorem d4_55 : decode prog_56_method_4_code 55 = .ok (.iload_n 2, 1) := by decide +kernel
theorem w_38 : (Jvm.Cond.methodLink "com/example/shelfmark/shelfmark/records/Text" (47 : Nat) ({ cls := "java/lang/String", name := "substring", desc := "(II)Ljava/lang/String;" } : Jvm.MethodName)) ∈ tables_1 := List.mem_of_getElem? (i := 38) (by decide +kernel)
theorem w_42 : (Jvm.Cond.code ({ cls := "java/lang/String", name := "substring", desc := "(II)Ljava/lang/String;" } : Jvm.MethodName) jdk_42_method_92_code (5 : Nat) (Option.some (Jvm.ClassFile.FieldType.object "java/lang/String"))) ∈ tables_1 := List.mem_of_getElem? (i := 42) (by decide +kernel)
theorem pd__II_Ljava_lang_String_ : parseMethodDescriptor "(II)Ljava/lang/String;" = some ⟨[.int, .int], some (.object "java/lang/String")⟩ := by decide +kernel
theorem d4_56 : decode prog_56_method_4_code 56 = .ok (.invokevirtual 47, 3) := by decide +kernel
theorem w_41 : (Jvm.Cond.selects "java/lang/String" ({ cls := "java/lang/String", name := "substring", desc := "(II)Ljava/lang/String;" } : Jvm.MethodName) ({ cls := "java/lang/String", name := "substring", desc := "(II)Ljava/lang/String;" } : Jvm.MethodName)) ∈ tables_1 := List.mem_of_getElem? (i := 41) (by decide +kernel)
theorem w_39 : (Jvm.Cond.declares ({ cls := "java/lang/String", name := "substring", desc := "(II)Ljava/lang/String;" } : Jvm.MethodName)) ∈ tables_1 := List.mem_of_getElem? (i := 39) (by decide +kernel)
theorem w_40 : (Jvm.Cond.instanceMethod ({ cls := "java/lang/String", name := "substring", desc := "(II)Ljava/lang/String;" } : Jvm.MethodName)) ∈ tables_1 := List.mem_of_getElem? (i := 40) (by decide +kernel)
theorem d4_59 : decode prog_56_method_4_code 59 = .ok (.areturn, 1) := by decide +kernel
theorem d4_29 : decode prog_56_method_4_code 29 = .ok (.iload_n 2, 1) := by decide +kernel
theorem d4_30 : decode prog_56_method_4_code 30 = .ok (.iload_n 1, 1) := by decide +kernel
theorem d4_31 : decode prog_56_method_4_code 31 = .ok (.if_icmp .le 22, 3) := by decide +kernel
theorem d4_34 : decode prog_56_method_4_code 34 = .ok (.aload_n 0, 1) := by decide +kernel
theorem d4_35 : decode prog_56_method_4_code 35 = .ok (.iload_n 2, 1) := by decide +kernel
theorem d4_36 : decode prog_56_method_4_code 36 = .ok (.iconst 1, 1) := by decide +kernel
theorem d4_37 : decode prog_56_method_4_code 37 = .ok (.isub, 1) := by decide +kernel
theorem w_77 : (Jvm.Cond.methodLink "com/example/shelfmark/shelfmark/records/Text" (24 : Nat) ({ cls := "java/lang/String", name := "charAt", desc := "(I)C" } : Jvm.MethodName)) ∈ tables_1 := List.mem_of_getElem? (i := 77) (by decide +kernel)
theorem w_81 : (Jvm.Cond.code ({ cls := "java/lang/String", name := "charAt", desc := "(I)C" } : Jvm.MethodName) jdk_42_method_56_code (2 : Nat) (Option.some Jvm.ClassFile.FieldType.char)) ∈ tables_1 := List.mem_of_getElem? (i := 81) (by decide +kernel)
theorem pd__I_C : parseMethodDescriptor "(I)C" = some ⟨[.int], some .char⟩ := by decide +kernel
theorem d4_38 : decode prog_56_method_4_code 38 = .ok (.invokevirtual 24, 3) := by decide +kernel
theorem w_80 : (Jvm.Cond.selects "java/lang/String" ({ cls := "java/lang/String", name := "charAt", desc := "(I)C" } : Jvm.MethodName) ({ cls := "java/lang/String", name := "charAt", desc := "(I)C" } : Jvm.MethodName)) ∈ tables_1 := List.mem_of_getElem? (i := 80) (by decide +kernel)
theorem w_78 : (Jvm.Cond.declares ({ cls := "java/lang/String", name := "charAt", desc := "(I)C" } : Jvm.MethodName)) ∈ tables_1 := List.mem_of_getElem? (i := 78) (by decide +kernel)
theorem w_79 : (Jvm.Cond.instanceMethod ({ cls := "java/lang/String", name := "charAt", desc := "(I)C" } : Jvm.MethodName)) ∈ tables_1 := List.mem_of_getElem? (i := 79) (by decide +kernel)
theorem w_97 : (Jvm.Cond.methodLink "com/example/shelfmark/shelfmark/records/Text" (28 : Nat) ({ cls := "com/example/shelfmark/shelfmark/records/Text", name := "isWhiteSpace", desc := "(C)Z" } : Jvm.MethodName)) ∈ tables_1 := List.mem_of_getElem? (i := 97) (by decide +kernel)
theorem w_99 : (Jvm.Cond.code ({ cls := "com/example/shelfmark/shelfmark/records/Text", name := "isWhiteSpace", desc := "(C)Z" } : Jvm.MethodName) prog_56_method_5_code (1 : Nat) (Option.some Jvm.ClassFile.FieldType.boolean)) ∈ tables_1 := List.mem_of_getElem? (i := 99) (by decide +kernel)
theorem w_25 : (Jvm.Cond.initialized "com/example/shelfmark/shelfmark/records/Text") ∈ tables_1 := List.mem_of_getElem? (i := 25) (by decide +kernel)
theorem pd__C_Z : parseMethodDescriptor "(C)Z" = some ⟨[.char], some .boolean⟩ := by decide +kernel
theorem d4_41 : decode prog_56_method_4_code 41 = .ok (.invokestatic 28, 3) := by decide +kernel
theorem w_98 : (Jvm.Cond.static ({ cls := "com/example/shelfmark/shelfmark/records/Text", name := "isWhiteSpace", desc := "(C)Z" } : Jvm.MethodName)) ∈ tables_1 := List.mem_of_getElem? (i := 98) (by decide +kernel)
theorem d4_44 : decode prog_56_method_4_code 44 = .ok (.ifCond .eq 9, 3) := by decide +kernel
theorem d4_47 : decode prog_56_method_4_code 47 = .ok (.iinc 2 (-1), 3) := by decide +kernel
theorem d4_50 : decode prog_56_method_4_code 50 = .ok (.goto (-21), 3) := by decide +kernel
theorem d4_7 : decode prog_56_method_4_code 7 = .ok (.iload_n 1, 1) := by decide +kernel
theorem d4_8 : decode prog_56_method_4_code 8 = .ok (.iload_n 2, 1) := by decide +kernel
theorem d4_9 : decode prog_56_method_4_code 9 = .ok (.if_icmp .ge 20, 3) := by decide +kernel
theorem d4_12 : decode prog_56_method_4_code 12 = .ok (.aload_n 0, 1) := by decide +kernel
theorem d4_13 : decode prog_56_method_4_code 13 = .ok (.iload_n 1, 1) := by decide +kernel
theorem d4_14 : decode prog_56_method_4_code 14 = .ok (.invokevirtual 24, 3) := by decide +kernel
theorem d4_17 : decode prog_56_method_4_code 17 = .ok (.invokestatic 28, 3) := by decide +kernel
theorem d4_20 : decode prog_56_method_4_code 20 = .ok (.ifCond .eq 9, 3) := by decide +kernel
theorem d4_23 : decode prog_56_method_4_code 23 = .ok (.iinc 1 1, 3) := by decide +kernel
theorem d4_26 : decode prog_56_method_4_code 26 = .ok (.goto (-19), 3) := by decide +kernel
theorem d4_0 : decode prog_56_method_4_code 0 = .ok (.iconst 0, 1) := by decide +kernel
theorem d4_1 : decode prog_56_method_4_code 1 = .ok (.istore_n 1, 1) := by decide +kernel
theorem d4_2 : decode prog_56_method_4_code 2 = .ok (.aload_n 0, 1) := by decide +kernel
theorem w_27 : (Jvm.Cond.methodLink "com/example/shelfmark/shelfmark/records/Text" (15 : Nat) ({ cls := "java/lang/String", name := "length", desc := "()I" } : Jvm.MethodName)) ∈ tables_1 := List.mem_of_getElem? (i := 27) (by decide +kernel)
theorem d4_3 : decode prog_56_method_4_code 3 = .ok (.invokevirtual 15, 3) := by decide +kernel
theorem d4_6 : decode prog_56_method_4_code 6 = .ok (.istore_n 2, 1) := by decide +kernel
abbrev mN20 : MethodName := ⟨"com/example/shelfmark/shelfmark/records/Text", "trim", "(Ljava/lang/String;)Ljava/lang/String;"⟩
theorem ef_trim (m : MethodId) (x0 : Addr) : entryFrame m #[(.ref x0)] 3 = mkF m 0 #[.val (.ref x0), .unset, .unset] [] := by first | (simp [entryFrame, mkF, argsToLocals, Value.category]; done) | rfl
def Qtrim (Z : State) (a : Addr) (sf : Value) (cz : Int32) (t : Addr) (kt : ClassId) (N : Nat) (xs : List Int32) (h0 : Heap) (n0 : Nat) (v : Option Value) (h : Heap) (L : List Loc) : Prop := ∃ (r : Addr), ∃ (t2 : Addr), ∃ (kt2 : ClassId), ∃ (k : Nat), ∃ (j : Nat), v = some (.ref r) ∧ Fr n0 L ∧ Keep h0 h [] ∧ Exa Z h r "java/lang/String" ∧ Fld Z h r "java/lang/String" "value" "[B" (.ref t2) ∧ Fld Z h r "java/lang/String" "coder" "B" (.int (0 : Int32)) ∧ Arv Z h t2 kt2 .byte (own_i (j - k)) (((xs.drop k).take (j - k)).map Value.int) (.int (0 : Int32)) ∧ (own_Tr N xs k j)
set_option maxRecDepth 65536 in
set_option maxHeartbeats 40000000 in
theorem rmtrim (l : Launch) (Z : State) (a0 : Array Value) (hw : ∀ d ∈ tables_1, d.before a0 Z = true) (ws : List Jvm.Cond) (a : Addr) (sf : Value) (cz : Int32) (t : Addr) (kt : ClassId) (N : Nat) (xs : List Int32) (h0 : Heap) (n0 : Nat) (O0 : Old Z n0 h0) (hp0 : Exa Z h0 a "java/lang/String") (hp1 : Fld Z h0 a "java/lang/String" "value" "[B" (.ref t)) (hp2 : Fld Z h0 a "java/lang/String" "coder" "B" (.int (0 : Int32))) (hp3 : Arv Z h0 t kt .byte (own_i N) (xs.map Value.int) (.int (0 : Int32))) (hp4 : Sta Z Z.heap "java/lang/String" "COMPACT_STRINGS" "Z" (.int cz)) (hcz : (¬ (cz = (0 : Int32)))) (hp6 : Sta Z Z.heap "jdk/internal/util/Preconditions" "SIOOBE_FORMATTER" "Ljava/util/function/BiFunction;" sf) (hsf : (sf.isRef = true)) (hN : (N ≤ 4)) (hlen : (xs.length = N)) :
    MetFree l mN20 (head1 (Jvm.Cond.code mN20 prog_56_method_4_code 3 (some (.object "java/lang/String")) :: ws) ({ frames := 5, cells := 2, slots := 8, locals := 113 } : Room)) (fun as_ U => as_ = #[(.ref a)] ∧ Z.Warmed39 U.vm ∧ U.heap = h0 ∧ CHv Z own_EL U.vm h0) (fun _ _ _ _ _ => True) (fun _ U o U' => ∃ v L, o = .returned v ∧ Qtrim Z a sf cz t kt N xs h0 n0 v U'.heap L ∧ CHr Z own_EL U.vm U.heap U'.vm U'.heap ∧ ReturnedEndW U o U' L ({ frames := 5, cells := 2, slots := 8, locals := 113 } : Room).cells ({ frames := 5, cells := 2, slots := 8, locals := 113 } : Room).slots) := by
  refine MetFree.of_bodySF (plainFor_of_name pn_com_example_shelfmark_shelfmark_records_Text) hisR ?_
  intro p e s m args below meth c s₁ Bd hml0 hP hK
  obtain ⟨rfl, hZ, hh, HC0⟩ := hP
  have hx := Bd.exec
  have hby := Bd.bytes
  have hml : c.maxLocals = 3 := hml0
  have hown : s.vm.findClass "com/example/shelfmark/shelfmark/records/Text" = some m.cls := findClass_of_methodNamed Bd.named
  have hnm := (name_of_methodNamed Bd.named Bd.method).1
  have X0 : Stand p l e ({ frames := 5, cells := 2, slots := 8, locals := 113 } : Room) (s.setVm s.vm) m #[(.ref a)] below meth c s₁ [] 0 0 := Stand.of_body Bd
  have hS : s.Since s.vm 0 := (State.WarmedH.refl s).since 0
  have hk : 0 ≤ h0.size := Nat.zero_le _
  have hEL := own_EW hw
  have wS := own_wS hw
  have hZ : Z.Warmed39 (s.setVm s.vm).vm := hZ
  have hown : (s.setVm s.vm).vm.findClass "com/example/shelfmark/shelfmark/records/Text" = some m.cls := hown
  have e0 : s₁.heap = h0 := by rw [← hh, Bd.state]; rfl
  have N0 := Fr.nil n0
  have Z0 := own_z0 O0
  have pre0 : ∀ tg_, Steps p.tables e below (s₁.setTop (mkF m 0 #[.val (.ref a), .unset, .unset] [])) tg_ → Steps p.tables e below (s₁.setTop (entryFrame m #[(.ref a)] 3)) tg_ := fun tg_ kt_ => castTop (ef_trim m a) kt_
  refine own_cut (fun G_ => ∀ (vm_ : Vm) (kk_ : Nat) (T_ : State) (L_ : List Loc) (k : Nat) (j : Nat) (X_ : Stand p l e ({ frames := 5, cells := 2, slots := 8, locals := 113 } : Room) (s.setVm vm_) m #[(.ref a)] below meth c T_ L_ 0 0) (e_ : T_.heap = h0) (hS : s.Since vm_ kk_) (hk : kk_ ≤ h0.size) (hZ : Z.Warmed39 (s.setVm vm_).vm) (hown : (s.setVm vm_).vm.findClass "com/example/shelfmark/shelfmark/records/Text" = some m.cls) (N_ : Fr n0 L_) (HC_ : CHv Z own_EL vm_ h0) (RC_ : CHr Z own_EL s.vm h0 vm_ h0) (hTr : (own_Tr N xs k j)) (pre_ : ∀ tg_, Steps p.tables e below (T_.setTop (mkF m 53 #[.val (.ref a), .val (.int (own_i k)), .val (.int (own_i j))] [])) tg_ → Steps p.tables e below (s₁.setTop (entryFrame m #[(.ref a)] 3)) tg_), G_) ?_ ?_
  · intro vm_ kk_ T_ L_ k j X_ e_ hS hk hZ hown N_ HC_ RC_ hTr pre_
    obtain ⟨cq1, kq1, q1a, q1b, q1c⟩ := isOf hZ e_ hp0
    obtain ⟨_, _, ⟨T1, L1, k1, n1⟩, -, Xh1, Sh1, gh1, ⟨Lc1, hQ1, l1, y1, z1, R1⟩, st1⟩ := X_.virtualBackS hx (y := mN17) (z := mN17) hown (mvT hZ (hw _ w_38)) (mvT hZ (hw _ w_39)) (notFace_of_selects (args := #[]) (mvT hZ (hw _ w_41))) (mvT hZ (hw _ w_41)) (mvT hZ (hw _ w_40)) (by decide) (backOfSH (s := s) (W := 0) (rmsubstr l Z a0 hw [] a k j sf cz t kt N xs h0 n0 O0 hp0 hp1 hp2 hp3 hp4 hcz hp6 hsf hN hlen hTr.1 hTr.2.1) hZ (hw _ w_42) (hw _ w_4) (by decide) (by decide) hEL HC_) q1a q1c (g := (mkF m 56 #[.val (.ref a), .val (.int (own_i k)), .val (.int (own_i j))] [(.int (own_i j)), (.int (own_i k)), (.ref a)])) rfl (by rw [hml]; rfl) (Steps.refl _) (argsL := [(.int (own_i k)), (.int (own_i j))]) (rest := []) (lenOf pd__II_Ljava_lang_String_ rfl) rfl (by show 2 * 0 + _ ≤ _; exact Nat.le_of_eq rfl) (hb hby d4_56) (fun _ _ => ⟨rfl, e_, (by decide : 0 + 2 ≤ _), (by decide : 0 + 8 ≤ _)⟩)
    dsimp only [Pt.U, Pt.locs, Pt.cells, Pt.slots] at Xh1 Sh1 gh1 l1 y1 z1 R1 st1 hQ1
    subst l1 y1 z1
    obtain ⟨X1, hS, hZ, hown⟩ := rebS hS (show _ ≤ T_.heap.size by rw [e_]; exact hk) Xh1 Sh1 gh1 hZ hown
    have hk := Nat.le_refl T1.heap.size
    obtain ⟨r_1, t2_1, kt2_1, rfl, N1q, Kc1, r1_1, r1_2, r1_3, r1_4⟩ := hQ1
    have N1 := Fr.app N_ N1q
    have O1 : Old Z n0 T1.heap := O0.keep Kc1 all0
    have K1 : Keep h0 T1.heap [] := (Keep.refl h0 []).trans Kc1 all0
    have HC1 := R1.1
    have RC1 := RC_.trans R1
    obtain ⟨fs, hr, hrun, hended, hRE⟩ := X1.leaveW hS hk (v := some (.ref r_1)) (fun h => by rw [Bd.returns] at h; cases h)
    refine ⟨_, _, pre_ _ ?_, hrun, hended, _, _, rfl, ?_, ?_, ⟨hRE.1, hRE.2.1, hRE.2.2.1, hRE.2.2.2.mono (by decide) (by decide)⟩⟩
    · refine XS.aloadN X_.here hx rfl (hb hby d4_53) rfl rfl ?_
      refine XS.iloadN X_.here hx rfl (hb hby d4_54) rfl ?_
      refine XS.iloadN X_.here hx rfl (hb hby d4_55) rfl ?_
      show Steps p.tables e below (T_.setTop (mkF m 56 #[.val (.ref a), .val (.int (own_i k)), .val (.int (own_i j))] [(.int (own_i j)), (.int (own_i k)), (.ref a)])) _
      refine st1.trans ?_
      show Steps p.tables e below (T1.setTop (mkF m 59 #[.val (.ref a), .val (.int (own_i k)), .val (.int (own_i j))] [(.ref r_1)])) _
      jvm_step X1.here [X1.here.top, hx, (hb hby d4_59), X1.method', Bd.returns, Value.isRef, FieldType.isReference]
      first | (intro acts; rw [hr _ acts rfl rfl rfl]) | rw [hr _ _ rfl rfl rfl]
      exact Steps.refl _
    · show Qtrim Z a sf cz t kt N xs h0 n0 _ T1.heap _
      exact ⟨r_1, t2_1, kt2_1, k, j, rfl, N1, K1, r1_1, r1_2, r1_3, r1_4, hTr⟩
    · rw [hh]
      show CHr Z own_EL s.vm h0 T1.vm T1.heap
      exact RC1.trans (CHv.at X1 hZ hEL HC1)
  · intro fin
    refine own_loop (fun k_ G_ => ∀ (vm_ : Vm) (kk_ : Nat) (T_ : State) (L_ : List Loc) (k : Nat) (j : Nat) (X_ : Stand p l e ({ frames := 5, cells := 2, slots := 8, locals := 113 } : Room) (s.setVm vm_) m #[(.ref a)] below meth c T_ L_ 0 0) (e_ : T_.heap = h0) (hS : s.Since vm_ kk_) (hk : kk_ ≤ h0.size) (hZ : Z.Warmed39 (s.setVm vm_).vm) (hown : (s.setVm vm_).vm.findClass "com/example/shelfmark/shelfmark/records/Text" = some m.cls) (N_ : Fr n0 L_) (HC_ : CHv Z own_EL vm_ h0) (RC_ : CHr Z own_EL s.vm h0 vm_ h0) (hkN : (k ≤ N)) (hpre_ : (∀ i, i < k → ¬ own_w (own_u xs i) = 0)) (hex_ : (k < N → own_w (own_u xs k) = 0)) (hkj : (k ≤ j)) (hjN : (j ≤ N)) (hsuf : (∀ i, j ≤ i → i < N → ¬ own_w (own_u xs i) = 0)) (pre_ : ∀ tg_, Steps p.tables e below (T_.setTop (mkF m 29 #[.val (.ref a), .val (.int (own_i k)), .val (.int (own_i j))] [])) tg_ → Steps p.tables e below (s₁.setTop (entryFrame m #[(.ref a)] 3)) tg_) (hm_ : j = k_), G_) ?_ ?_
    · intro k_ IH_lp2 vm_ kk_ T_ L_ k j X_ e_ hS hk hZ hown N_ HC_ RC_ hkN hpre_ hex_ hkj hjN hsuf pre_ hm_
      have pre2 : ∀ tg_, Steps p.tables e below (T_.setTop (mkF m 31 #[.val (.ref a), .val (.int (own_i k)), .val (.int (own_i j))] [(.int (own_i k)), (.int (own_i j))])) tg_ → Steps p.tables e below (s₁.setTop (entryFrame m #[(.ref a)] 3)) tg_ := by
        intro tg_ kt_
        refine pre_ tg_ ?_
        refine XS.iloadN X_.here hx rfl (hb hby d4_29) rfl ?_
        refine XS.iloadN X_.here hx rfl (hb hby d4_30) rfl ?_
        exact kt_
      by_cases hc3 : (own_i k) < (own_i j)
      · have pre4 : ∀ tg_, Steps p.tables e below (T_.setTop (mkF m 38 #[.val (.ref a), .val (.int (own_i k)), .val (.int (own_i j))] [(.int ((own_i j) - (1 : Int32))), (.ref a)])) tg_ → Steps p.tables e below (s₁.setTop (entryFrame m #[(.ref a)] 3)) tg_ := by
          intro tg_ kt_
          refine pre2 tg_ ?_
          refine XS.icmpNo X_.here hx rfl (hb hby d4_31) rfl (tlt hc3).2.2.2 ?_
          show Steps p.tables e below (T_.setTop (mkF m 34 #[.val (.ref a), .val (.int (own_i k)), .val (.int (own_i j))] [])) _
          refine XS.aloadN X_.here hx rfl (hb hby d4_34) rfl rfl ?_
          refine XS.iloadN X_.here hx rfl (hb hby d4_35) rfl ?_
          refine XS.iconst X_.here hx rfl (hb hby d4_36) ?_
          refine XS.isub X_.here hx rfl (hb hby d4_37) rfl ?_
          exact kt_
        rw [show ((own_i j) - (1 : Int32)) = (own_i (j - 1)) from own_isub (b := 1) (by have q := (own_ilt (by omega) (by omega)).mp hc3; omega)] at pre4
        obtain ⟨cq5, kq5, q5a, q5b, q5c⟩ := isOf hZ e_ hp0
        obtain ⟨_, _, ⟨T5, L5, k5, n5⟩, -, X5, ⟨Lc5, hQ5, l5, y5, z5⟩, st5⟩ := X_.virtualBack hx (y := mN7) (z := mN7) hown (mvT hZ (hw _ w_77)) (mvT hZ (hw _ w_78)) (notFace_of_selects (args := #[]) (mvT hZ (hw _ w_80))) (mvT hZ (hw _ w_80)) (mvT hZ (hw _ w_79)) (by decide) (backOf (W := 0) (rmschr l Z a0 hw [] a (j - 1) sf cz t kt N xs h0 n0 O0 hp0 hp1 hp2 hp3 hp4 hcz hp6 hsf (by have q := (own_ilt (by omega) (by omega)).mp hc3; omega) (by omega)) hZ (hw _ w_81) (hw _ w_4) (by decide) (by decide)) q5a q5c (g := (mkF m 38 #[.val (.ref a), .val (.int (own_i k)), .val (.int (own_i j))] [(.int (own_i (j - 1))), (.ref a)])) rfl (by rw [hml]; rfl) (Steps.refl _) (argsL := [(.int (own_i (j - 1)))]) (rest := []) (lenOf pd__I_C rfl) rfl (by show 2 * 0 + _ ≤ _; exact Nat.le_of_eq rfl) (hb hby d4_38) (fun _ _ => ⟨rfl, e_, (by decide : 0 + 0 ≤ _), (by decide : 0 + 0 ≤ _)⟩)
        dsimp only [Pt.U, Pt.locs, Pt.cells, Pt.slots] at X5 l5 y5 z5 st5 hQ5
        subst l5 y5 z5
        obtain ⟨rfl, N5q, eh5⟩ := hQ5
        have N5 := Fr.app N_ N5q
        obtain ⟨_, _, ⟨T6, L6, k6, n6⟩, -, X6, ⟨Lc6, hQ6, l6, y6, z6⟩, st6⟩ := Jvm.LawKit.callS X5 hx (y := mN8) hown (mvT hZ (hw _ w_97)) (mvT hZ (hw _ w_98)) (mvT hZ (hw _ w_25)) (mvT hZ (hw _ w_99)) (by decide) (backOf (W := 0) (rmisWS l Z a0 hw [] (own_u xs (j - 1)) h0 n0 O0 ) hZ (hw _ w_99) (hw _ w_25) (by decide) (by decide)) (g := (mkF m 41 #[.val (.ref a), .val (.int (own_i k)), .val (.int (own_i j))] [(.int (own_u xs (j - 1)))])) rfl (by rw [hml]; rfl) (argsL := [(.int (own_u xs (j - 1)))]) (rest := []) (lenOf pd__C_Z rfl) rfl (by show 2 * 0 + _ ≤ _; exact Nat.le_of_eq rfl) (hb hby d4_41) (fun _ _ => ⟨rfl, eh5, (by decide : 0 + 0 ≤ _), (by decide : 0 + 0 ≤ _)⟩)
        dsimp only [Pt.U, Pt.locs, Pt.cells, Pt.slots] at X6 l6 y6 z6 st6 hQ6
        subst l6 y6 z6
        obtain ⟨rfl, N6q, eh6⟩ := hQ6
        have N6 := Fr.app N5 N6q
        have pre7 : ∀ tg_, Steps p.tables e below (T6.setTop (mkF m 44 #[.val (.ref a), .val (.int (own_i k)), .val (.int (own_i j))] [(.int (own_w (own_u xs (j - 1))))])) tg_ → Steps p.tables e below (s₁.setTop (entryFrame m #[(.ref a)] 3)) tg_ := by
          intro tg_ kt_
          refine pre4 tg_ ?_
          show Steps p.tables e below (T_.setTop (mkF m 38 #[.val (.ref a), .val (.int (own_i k)), .val (.int (own_i j))] [(.int (own_i (j - 1))), (.ref a)])) _
          refine st5.trans ?_
          show Steps p.tables e below (T5.setTop (mkF m 41 #[.val (.ref a), .val (.int (own_i k)), .val (.int (own_i j))] [(.int (own_u xs (j - 1)))])) _
          refine st6 _ ?_
          exact kt_
        by_cases hc8 : (own_w (own_u xs (j - 1))) = (0 : Int32)
        · have pre9 : ∀ tg_, Steps p.tables e below (T6.setTop (mkF m 53 #[.val (.ref a), .val (.int (own_i k)), .val (.int (own_i j))] [])) tg_ → Steps p.tables e below (s₁.setTop (entryFrame m #[(.ref a)] 3)) tg_ := by
            intro tg_ kt_
            refine pre7 tg_ ?_
            refine XS.ifYes X6.here hx rfl (pc0 := 44) (pc' := 53) rfl (hb hby d4_44) rfl ((if0 _ _).trans (teq hc8).1) (by decide) (by decide) ?_
            exact kt_
          exact fin _ _ T6 _ k j (Stand.more X6 (by decide) (by decide)) eh6 hS hk hZ hown N6 HC_ RC_ ((by
                        have z := (own_ilt (by omega) (by omega)).mp hc3
                        exact ⟨hkj, hjN, hpre_, hsuf, fun y => absurd y (by omega), fun y => ⟨hex_ (by omega), hc8⟩⟩)) pre9
        · have pre10 : ∀ tg_, Steps p.tables e below (T6.setTop (mkF m 29 #[.val (.ref a), .val (.int (own_i k)), .val (.int ((own_i j) + (-1 : Int32)))] [])) tg_ → Steps p.tables e below (s₁.setTop (entryFrame m #[(.ref a)] 3)) tg_ := by
            intro tg_ kt_
            refine pre7 tg_ ?_
            refine XS.ifNo X6.here hx rfl (hb hby d4_44) rfl ((if0 _ _).trans (feq hc8).1) ?_
            refine XS.iinc X6.here hx rfl (hb hby d4_47) rfl (l' := #[.val (.ref a), .val (.int (own_i k)), .val (.int ((own_i j) + (-1 : Int32)))]) rfl ?_
            refine XS.goto X6.here hx rfl (pc0 := 50) (pc' := 29) rfl (hb hby d4_50) (by decide) (by decide) ?_
            exact kt_
          rw [show ((own_i j) + (-1 : Int32)) = (own_i (j - 1)) from own_idec (by have q := (own_ilt (by omega) (by omega)).mp hc3; omega)] at pre10
          exact IH_lp2 _ (by have q := (own_ilt (by omega) (by omega)).mp hc3; omega) _ _ T6 _ k (j - 1) (Stand.more X6 (by decide) (by decide)) eh6 hS hk hZ hown N6 HC_ RC_ hkN hpre_ hex_ (by have q := (own_ilt (by omega) (by omega)).mp hc3; omega) (by omega) (fun i q1 q2 => by by_cases z : j ≤ i; exact hsuf i z q2; exact (show i = j - 1 by omega) ▸ hc8) pre10 rfl
      · have pre11 : ∀ tg_, Steps p.tables e below (T_.setTop (mkF m 53 #[.val (.ref a), .val (.int (own_i k)), .val (.int (own_i j))] [])) tg_ → Steps p.tables e below (s₁.setTop (entryFrame m #[(.ref a)] 3)) tg_ := by
          intro tg_ kt_
          refine pre2 tg_ ?_
          refine XS.icmpYes X_.here hx rfl (pc0 := 31) (pc' := 53) rfl (hb hby d4_31) rfl (flt hc3).2.2.2 (by decide) (by decide) ?_
          exact kt_
        exact fin _ _ T_ _ k j (Stand.more X_ (by decide) (by decide)) e_ hS hk hZ hown N_ HC_ RC_ ((by
                    have z := fun y => hc3 ((own_ilt (by omega) (by omega)).mpr y)
                    exact ⟨hkj, hjN, hpre_, hsuf, fun y => Nat.le_antisymm hkN (Nat.le_of_not_lt fun u => hsuf k (by omega) u (hex_ u)), fun y => absurd y z⟩)) pre11
    · intro lp2
      refine own_loop (fun k_ G_ => ∀ (vm_ : Vm) (kk_ : Nat) (T_ : State) (L_ : List Loc) (k : Nat) (X_ : Stand p l e ({ frames := 5, cells := 2, slots := 8, locals := 113 } : Room) (s.setVm vm_) m #[(.ref a)] below meth c T_ L_ 0 0) (e_ : T_.heap = h0) (hS : s.Since vm_ kk_) (hk : kk_ ≤ h0.size) (hZ : Z.Warmed39 (s.setVm vm_).vm) (hown : (s.setVm vm_).vm.findClass "com/example/shelfmark/shelfmark/records/Text" = some m.cls) (N_ : Fr n0 L_) (HC_ : CHv Z own_EL vm_ h0) (RC_ : CHr Z own_EL s.vm h0 vm_ h0) (hkN : (k ≤ N)) (hpre_ : (∀ i, i < k → ¬ own_w (own_u xs i) = 0)) (pre_ : ∀ tg_, Steps p.tables e below (T_.setTop (mkF m 7 #[.val (.ref a), .val (.int (own_i k)), .val (.int (own_i N))] [])) tg_ → Steps p.tables e below (s₁.setTop (entryFrame m #[(.ref a)] 3)) tg_) (hm_ : N - k = k_), G_) ?_ ?_
      · intro k_ IH_lp1 vm_ kk_ T_ L_ k X_ e_ hS hk hZ hown N_ HC_ RC_ hkN hpre_ pre_ hm_
        have pre12 : ∀ tg_, Steps p.tables e below (T_.setTop (mkF m 9 #[.val (.ref a), .val (.int (own_i k)), .val (.int (own_i N))] [(.int (own_i N)), (.int (own_i k))])) tg_ → Steps p.tables e below (s₁.setTop (entryFrame m #[(.ref a)] 3)) tg_ := by
          intro tg_ kt_
          refine pre_ tg_ ?_
          refine XS.iloadN X_.here hx rfl (hb hby d4_7) rfl ?_
          refine XS.iloadN X_.here hx rfl (hb hby d4_8) rfl ?_
          exact kt_
        by_cases hc13 : (own_i k) < (own_i N)
        · obtain ⟨cq14, kq14, q14a, q14b, q14c⟩ := isOf hZ e_ hp0
          obtain ⟨_, _, ⟨T14, L14, k14, n14⟩, -, X14, ⟨Lc14, hQ14, l14, y14, z14⟩, st14⟩ := X_.virtualBack hx (y := mN7) (z := mN7) hown (mvT hZ (hw _ w_77)) (mvT hZ (hw _ w_78)) (notFace_of_selects (args := #[]) (mvT hZ (hw _ w_80))) (mvT hZ (hw _ w_80)) (mvT hZ (hw _ w_79)) (by decide) (backOf (W := 0) (rmschr l Z a0 hw [] a k sf cz t kt N xs h0 n0 O0 hp0 hp1 hp2 hp3 hp4 hcz hp6 hsf (by have q := (own_ilt (by omega) (by omega)).mp hc13; omega) (by omega)) hZ (hw _ w_81) (hw _ w_4) (by decide) (by decide)) q14a q14c (g := (mkF m 14 #[.val (.ref a), .val (.int (own_i k)), .val (.int (own_i N))] [(.int (own_i k)), (.ref a)])) rfl (by rw [hml]; rfl) (Steps.refl _) (argsL := [(.int (own_i k))]) (rest := []) (lenOf pd__I_C rfl) rfl (by show 2 * 0 + _ ≤ _; exact Nat.le_of_eq rfl) (hb hby d4_14) (fun _ _ => ⟨rfl, e_, (by decide : 0 + 0 ≤ _), (by decide : 0 + 0 ≤ _)⟩)
          dsimp only [Pt.U, Pt.locs, Pt.cells, Pt.slots] at X14 l14 y14 z14 st14 hQ14
          subst l14 y14 z14
          obtain ⟨rfl, N14q, eh14⟩ := hQ14
          have N14 := Fr.app N_ N14q
          obtain ⟨_, _, ⟨T15, L15, k15, n15⟩, -, X15, ⟨Lc15, hQ15, l15, y15, z15⟩, st15⟩ := Jvm.LawKit.callS X14 hx (y := mN8) hown (mvT hZ (hw _ w_97)) (mvT hZ (hw _ w_98)) (mvT hZ (hw _ w_25)) (mvT hZ (hw _ w_99)) (by decide) (backOf (W := 0) (rmisWS l Z a0 hw [] (own_u xs k) h0 n0 O0 ) hZ (hw _ w_99) (hw _ w_25) (by decide) (by decide)) (g := (mkF m 17 #[.val (.ref a), .val (.int (own_i k)), .val (.int (own_i N))] [(.int (own_u xs k))])) rfl (by rw [hml]; rfl) (argsL := [(.int (own_u xs k))]) (rest := []) (lenOf pd__C_Z rfl) rfl (by show 2 * 0 + _ ≤ _; exact Nat.le_of_eq rfl) (hb hby d4_17) (fun _ _ => ⟨rfl, eh14, (by decide : 0 + 0 ≤ _), (by decide : 0 + 0 ≤ _)⟩)
          dsimp only [Pt.U, Pt.locs, Pt.cells, Pt.slots] at X15 l15 y15 z15 st15 hQ15
          subst l15 y15 z15
          obtain ⟨rfl, N15q, eh15⟩ := hQ15
          have N15 := Fr.app N14 N15q
          have pre16 : ∀ tg_, Steps p.tables e below (T15.setTop (mkF m 20 #[.val (.ref a), .val (.int (own_i k)), .val (.int (own_i N))] [(.int (own_w (own_u xs k)))])) tg_ → Steps p.tables e below (s₁.setTop (entryFrame m #[(.ref a)] 3)) tg_ := by
            intro tg_ kt_
            refine pre12 tg_ ?_
            refine XS.icmpNo X_.here hx rfl (hb hby d4_9) rfl (tlt hc13).2.1 ?_
            show Steps p.tables e below (T_.setTop (mkF m 12 #[.val (.ref a), .val (.int (own_i k)), .val (.int (own_i N))] [])) _
            refine XS.aloadN X_.here hx rfl (hb hby d4_12) rfl rfl ?_
            refine XS.iloadN X_.here hx rfl (hb hby d4_13) rfl ?_
            show Steps p.tables e below (T_.setTop (mkF m 14 #[.val (.ref a), .val (.int (own_i k)), .val (.int (own_i N))] [(.int (own_i k)), (.ref a)])) _
            refine st14.trans ?_
            show Steps p.tables e below (T14.setTop (mkF m 17 #[.val (.ref a), .val (.int (own_i k)), .val (.int (own_i N))] [(.int (own_u xs k))])) _
            refine st15 _ ?_
            exact kt_
          by_cases hc17 : (own_w (own_u xs k)) = (0 : Int32)
          · have pre18 : ∀ tg_, Steps p.tables e below (T15.setTop (mkF m 29 #[.val (.ref a), .val (.int (own_i k)), .val (.int (own_i N))] [])) tg_ → Steps p.tables e below (s₁.setTop (entryFrame m #[(.ref a)] 3)) tg_ := by
              intro tg_ kt_
              refine pre16 tg_ ?_
              refine XS.ifYes X15.here hx rfl (pc0 := 20) (pc' := 29) rfl (hb hby d4_20) rfl ((if0 _ _).trans (teq hc17).1) (by decide) (by decide) ?_
              exact kt_
            exact lp2 _ _ _ T15 _ k N (Stand.more X15 (by decide) (by decide)) eh15 hS hk hZ hown N15 HC_ RC_ hkN hpre_ (fun _ => hc17) hkN (Nat.le_refl _) (fun i q1 q2 => absurd q2 (Nat.not_lt.mpr q1)) pre18 rfl
          · have pre19 : ∀ tg_, Steps p.tables e below (T15.setTop (mkF m 7 #[.val (.ref a), .val (.int ((own_i k) + (1 : Int32))), .val (.int (own_i N))] [])) tg_ → Steps p.tables e below (s₁.setTop (entryFrame m #[(.ref a)] 3)) tg_ := by
              intro tg_ kt_
              refine pre16 tg_ ?_
              refine XS.ifNo X15.here hx rfl (hb hby d4_20) rfl ((if0 _ _).trans (feq hc17).1) ?_
              refine XS.iinc X15.here hx rfl (hb hby d4_23) rfl (l' := #[.val (.ref a), .val (.int ((own_i k) + (1 : Int32))), .val (.int (own_i N))]) rfl ?_
              refine XS.goto X15.here hx rfl (pc0 := 26) (pc' := 7) rfl (hb hby d4_26) (by decide) (by decide) ?_
              exact kt_
            rw [show ((own_i k) + (1 : Int32)) = (own_i (k + 1)) from own_iadd k 1] at pre19
            exact IH_lp1 _ (by have q := (own_ilt (by omega) (by omega)).mp hc13; omega) _ _ T15 _ (k + 1) (Stand.more X15 (by decide) (by decide)) eh15 hS hk hZ hown N15 HC_ RC_ ((own_ilt (by omega) (by omega)).mp hc13) ((fun i q => by
                            rcases Nat.lt_succ_iff_lt_or_eq.mp q with z | rfl
                            · exact hpre_ _ z
                            · exact hc17)) pre19 rfl
        · have pre20 : ∀ tg_, Steps p.tables e below (T_.setTop (mkF m 29 #[.val (.ref a), .val (.int (own_i k)), .val (.int (own_i N))] [])) tg_ → Steps p.tables e below (s₁.setTop (entryFrame m #[(.ref a)] 3)) tg_ := by
            intro tg_ kt_
            refine pre12 tg_ ?_
            refine XS.icmpYes X_.here hx rfl (pc0 := 9) (pc' := 29) rfl (hb hby d4_9) rfl (flt hc13).2.1 (by decide) (by decide) ?_
            exact kt_
          exact lp2 _ _ _ T_ _ k N (Stand.more X_ (by decide) (by decide)) e_ hS hk hZ hown N_ HC_ RC_ hkN hpre_ (fun q => absurd ((own_ilt (by omega) (by omega)).mpr q) hc13) hkN (Nat.le_refl _) (fun i q1 q2 => absurd q2 (Nat.not_lt.mpr q1)) pre20 rfl
      · intro lp1
        obtain ⟨cq21, kq21, q21a, q21b, q21c⟩ := isOf hZ e0 hp0
        obtain ⟨_, _, ⟨T21, L21, k21, n21⟩, -, X21, ⟨Lc21, hQ21, l21, y21, z21⟩, st21⟩ := X0.virtualBack hx (y := mN2) (z := mN2) hown (mvT hZ (hw _ w_27)) (mvT hZ (hw _ w_28)) (notFace_of_selects (args := #[]) (mvT hZ (hw _ w_30))) (mvT hZ (hw _ w_30)) (mvT hZ (hw _ w_29)) (by decide) (backOf (W := 0) (rmslen l Z a0 hw [] a cz t kt N xs h0 n0 O0 hp0 hp1 hp2 hp3 hp4 hcz) hZ (hw _ w_31) (hw _ w_4) (by decide) (by decide)) q21a q21c (g := (mkF m 3 #[.val (.ref a), .val (.int (0 : Int32)), .unset] [(.ref a)])) rfl (by rw [hml]; rfl) (Steps.refl _) (argsL := []) (rest := []) (lenOf pd___I rfl) rfl (by show 2 * 0 + _ ≤ _; exact Nat.le_of_eq rfl) (hb hby d4_3) (fun _ _ => ⟨rfl, e0, (by decide : 0 + 0 ≤ _), (by decide : 0 + 0 ≤ _)⟩)
        dsimp only [Pt.U, Pt.locs, Pt.cells, Pt.slots] at X21 l21 y21 z21 st21 hQ21
        subst l21 y21 z21
        obtain ⟨rfl, N21q, eh21⟩ := hQ21
        have N21 := Fr.app N0 N21q
        have pre22 : ∀ tg_, Steps p.tables e below (T21.setTop (mkF m 7 #[.val (.ref a), .val (.int (0 : Int32)), .val (.int (own_i N))] [])) tg_ → Steps p.tables e below (s₁.setTop (entryFrame m #[(.ref a)] 3)) tg_ := by
          intro tg_ kt_
          refine pre0 tg_ ?_
          refine XS.iconst X0.here hx rfl (hb hby d4_0) ?_
          refine XS.istoreN X0.here hx rfl (hb hby d4_1) rfl (l' := #[.val (.ref a), .val (.int (0 : Int32)), .unset]) rfl ?_
          refine XS.aloadN X0.here hx rfl (hb hby d4_2) rfl rfl ?_
          show Steps p.tables e below (s₁.setTop (mkF m 3 #[.val (.ref a), .val (.int (0 : Int32)), .unset] [(.ref a)])) _
          refine st21.trans ?_
          refine XS.istoreN X21.here hx rfl (hb hby d4_6) rfl (l' := #[.val (.ref a), .val (.int (0 : Int32)), .val (.int (own_i N))]) rfl ?_
          exact kt_
        exact lp1 _ _ _ T21 _ 0 (Stand.more X21 (by decide) (by decide)) eh21 hS hk hZ hown N21 HC0 (CHr.refl HC0) (Nat.zero_le _) (fun i q => absurd q (Nat.not_lt_zero _)) pre22 rfl
theorem d10_0 : decode method_4_code 0 = .ok (.iload_n 1, 1) := by decide +kernel
theorem d10_1 : decode method_4_code 1 = .ok (.aload_n 0, 1) := by decide +kernel
theorem d10_2 : decode method_4_code 2 = .ok (.arraylength, 1) := by decide +kernel
theorem d10_3 : decode method_4_code 3 = .ok (.if_icmp .ge 16, 3) := by decide +kernel
theorem d10_6 : decode method_4_code 6 = .ok (.aload_n 0, 1) := by decide +kernel
theorem d10_7 : decode method_4_code 7 = .ok (.iload_n 1, 1) := by decide +kernel
theorem d10_8 : decode method_4_code 8 = .ok (.caload, 1) := by decide +kernel
theorem w_100 : (Jvm.Cond.methodLink "com/example/shelfmark/shelfmark/records/TextTrimPinLaw" (42 : Nat) ({ cls := "com/example/shelfmark/shelfmark/records/TextTrimPinLaw", name := "isWs", desc := "(C)Z" } : Jvm.MethodName)) ∈ tables_1 := List.mem_of_getElem? (i := 100) (by decide +kernel)
theorem w_102 : (Jvm.Cond.code ({ cls := "com/example/shelfmark/shelfmark/records/TextTrimPinLaw", name := "isWs", desc := "(C)Z" } : Jvm.MethodName) method_5_code (1 : Nat) (Option.some Jvm.ClassFile.FieldType.boolean)) ∈ tables_1 := List.mem_of_getElem? (i := 102) (by decide +kernel)
theorem w_55 : (Jvm.Cond.initialized "com/example/shelfmark/shelfmark/records/TextTrimPinLaw") ∈ tables_1 := List.mem_of_getElem? (i := 55) (by decide +kernel)
theorem d10_9 : decode method_4_code 9 = .ok (.invokestatic 42, 3) := by decide +kernel
theorem w_101 : (Jvm.Cond.static ({ cls := "com/example/shelfmark/shelfmark/records/TextTrimPinLaw", name := "isWs", desc := "(C)Z" } : Jvm.MethodName)) ∈ tables_1 := List.mem_of_getElem? (i := 101) (by decide +kernel)
theorem d10_12 : decode method_4_code 12 = .ok (.ifCond .eq 7, 3) := by decide +kernel
theorem d10_19 : decode method_4_code 19 = .ok (.iconst 0, 1) := by decide +kernel
theorem d10_20 : decode method_4_code 20 = .ok (.ireturn, 1) := by decide +kernel
theorem d10_15 : decode method_4_code 15 = .ok (.iconst 1, 1) := by decide +kernel
theorem d10_16 : decode method_4_code 16 = .ok (.goto 4, 3) := by decide +kernel
abbrev mN21 : MethodName := ⟨"com/example/shelfmark/shelfmark/records/TextTrimPinLaw", "ws", "([CI)Z"⟩
theorem ef_ws (m : MethodId) (x0 : Addr) (x1 : Int32) : entryFrame m #[(.ref x0), (.int x1)] 2 = mkF m 0 #[.val (.ref x0), .val (.int x1)] [] := by first | (simp [entryFrame, mkF, argsToLocals, Value.category]; done) | rfl
def Qws (Z : State) (b : Addr) (ii : Nat) (kb : ClassId) (N : Nat) (cs : List Int32) (h0 : Heap) (n0 : Nat) (v : Option Value) (h : Heap) (L : List Loc) : Prop := v = some (.int (own_wa N cs ii)) ∧ Fr n0 L ∧ h = h0
set_option maxRecDepth 65536 in
set_option maxHeartbeats 40000000 in
theorem rmws (l : Launch) (Z : State) (a0 : Array Value) (hw : ∀ d ∈ tables_1, d.before a0 Z = true) (ws : List Jvm.Cond) (b : Addr) (ii : Nat) (kb : ClassId) (N : Nat) (cs : List Int32) (h0 : Heap) (n0 : Nat) (O0 : Old Z n0 h0) (hp0 : Arv Z h0 b kb .char (own_i N) (cs.map Value.int) (.int (0 : Int32))) (hN : (N ≤ 4)) (hii : (ii < 4)) :
    MetFree l mN21 (head1 (Jvm.Cond.code mN21 method_4_code 2 (some .boolean) :: ws) ({ frames := 1, cells := 0, slots := 0, locals := 12 } : Room)) (fun as_ U => as_ = #[(.ref b), (.int (own_i ii))] ∧ Z.Warmed39 U.vm ∧ U.heap = h0) (fun _ _ _ _ _ => True) (fun _ U o U' => ∃ v L, o = .returned v ∧ Qws Z b ii kb N cs h0 n0 v U'.heap L ∧ FrameEnd U o U' L ({ frames := 1, cells := 0, slots := 0, locals := 12 } : Room).cells ({ frames := 1, cells := 0, slots := 0, locals := 12 } : Room).slots) := by
  refine MetFree.of_bodySF (plainFor_of_name pn_com_example_shelfmark_shelfmark_records_TextTrimPinLaw) hisR ?_
  intro p e s m args below meth c s₁ Bd hml0 hP hK
  obtain ⟨rfl, hZ, hh⟩ := hP
  have hx := Bd.exec
  have hby := Bd.bytes
  have hml : c.maxLocals = 2 := hml0
  have hown : s.vm.findClass "com/example/shelfmark/shelfmark/records/TextTrimPinLaw" = some m.cls := findClass_of_methodNamed Bd.named
  have hnm := (name_of_methodNamed Bd.named Bd.method).1
  have X0 : Stand p l e ({ frames := 1, cells := 0, slots := 0, locals := 12 } : Room) s m #[(.ref b), (.int (own_i ii))] below meth c s₁ [] 0 0 := Stand.of_body Bd
  have e0 : s₁.heap = h0 := by rw [← hh, Bd.state]; rfl
  have N0 := Fr.nil n0
  have Z0 := own_z0 O0
  have pre0 : ∀ tg_, Steps p.tables e below (s₁.setTop (mkF m 0 #[.val (.ref b), .val (.int (own_i ii))] [])) tg_ → Steps p.tables e below (s₁.setTop (entryFrame m #[(.ref b), (.int (own_i ii))] 2)) tg_ := fun tg_ kt_ => castTop (ef_ws m b (own_i ii)) kt_
  obtain ⟨cl1, Ar1, -, S1, Ng1, -, -⟩ := id hp0
  have pre2 : ∀ tg_, Steps p.tables e below (s₁.setTop (mkF m 3 #[.val (.ref b), .val (.int (own_i ii))] [(.int (own_i N)), (.int (own_i ii))])) tg_ → Steps p.tables e below (s₁.setTop (entryFrame m #[(.ref b), (.int (own_i ii))] 2)) tg_ := by
    intro tg_ kt_
    refine pre0 tg_ ?_
    refine XS.iloadN X0.here hx rfl (hb hby d10_0) rfl ?_
    refine XS.aloadN X0.here hx rfl (hb hby d10_1) rfl rfl ?_
    show Steps p.tables e below (s₁.setTop (mkF m 2 #[.val (.ref b), .val (.int (own_i ii))] [(.ref b), (.int (own_i ii))])) _
    refine X0.arraylength hx (by rw [e0]; exact Ar1.1) (State.isArrayOf_alike hZ.alike Ar1.2.1) (g := (mkF m 2 #[.val (.ref b), .val (.int (own_i ii))] [(.ref b), (.int (own_i ii))])) rfl rfl (hb hby d10_2) _ ?_
    rw [len_of S1 Ng1]
    exact kt_
  by_cases hc3 : (own_i ii) < (own_i N)
  · obtain ⟨cl4, Ar4, -, S4, Ng4, H4, G4⟩ := id hp0
    have hin4 : ¬ ((own_i ii) < 0 ∨ cl4.slots.size ≤ ((own_i ii)).toNatClampNeg) := inb_of S4 ⟨own_inn (by omega), hc3⟩
    have hat4 : cl4.slots[((own_i ii)).toNatClampNeg]? = some (.int (cs.getD ii 0)) := H4.at hin4 (own_gd cs (by omega))
    obtain ⟨_, _, ⟨T5, L5, k5, n5⟩, -, X5, ⟨Lc5, hQ5, l5, y5, z5⟩, st5⟩ := Jvm.LawKit.callS X0 hx (y := mN9) hown (mvT hZ (hw _ w_100)) (mvT hZ (hw _ w_101)) (mvT hZ (hw _ w_55)) (mvT hZ (hw _ w_102)) (by decide) (backOf (W := 0) (rmisWs l Z a0 hw [] (cs.getD ii 0) h0 n0 O0 ) hZ (hw _ w_102) (hw _ w_55) (by decide) (by decide)) (g := (mkF m 9 #[.val (.ref b), .val (.int (own_i ii))] [(.int (cs.getD ii 0))])) rfl (by rw [hml]; rfl) (argsL := [(.int (cs.getD ii 0))]) (rest := []) (lenOf pd__C_Z rfl) rfl (by show 2 * 0 + _ ≤ _; exact Nat.le_of_eq rfl) (hb hby d10_9) (fun _ _ => ⟨rfl, e0, (by decide : 0 + 0 ≤ _), (by decide : 0 + 0 ≤ _)⟩)
    dsimp only [Pt.U, Pt.locs, Pt.cells, Pt.slots] at X5 l5 y5 z5 st5 hQ5
    subst l5 y5 z5
    obtain ⟨rfl, N5q, eh5⟩ := hQ5
    have N5 := Fr.app N0 N5q
    have pre6 : ∀ tg_, Steps p.tables e below (T5.setTop (mkF m 12 #[.val (.ref b), .val (.int (own_i ii))] [(.int (own_w (cs.getD ii 0)))])) tg_ → Steps p.tables e below (s₁.setTop (entryFrame m #[(.ref b), (.int (own_i ii))] 2)) tg_ := by
      intro tg_ kt_
      refine pre2 tg_ ?_
      refine XS.icmpNo X0.here hx rfl (hb hby d10_3) rfl (tlt hc3).2.1 ?_
      refine XS.aloadN X0.here hx rfl (hb hby d10_6) rfl rfl ?_
      refine XS.iloadN X0.here hx rfl (hb hby d10_7) rfl ?_
      show Steps p.tables e below (s₁.setTop (mkF m 8 #[.val (.ref b), .val (.int (own_i ii))] [(.int (own_i ii)), (.ref b)])) _
      refine X0.caload hx (j := (own_i ii)) (v := (.int (cs.getD ii 0))) (by rw [e0]; exact Ar4.1) (State.isArrayOf_alike hZ.alike Ar4.2.1) Ar4.2.2 hin4 hat4 (g := (mkF m 8 #[.val (.ref b), .val (.int (own_i ii))] [(.int (own_i ii)), (.ref b)])) rfl rfl (hb hby d10_8) _ ?_
      show Steps p.tables e below (s₁.setTop (mkF m 9 #[.val (.ref b), .val (.int (own_i ii))] [(.int (cs.getD ii 0))])) _
      refine st5 _ ?_
      exact kt_
    by_cases hc7 : (own_w (cs.getD ii 0)) = (0 : Int32)
    · obtain ⟨fs, hr, hrun, hended, hW, hsame⟩ := X5.leave (v := some (.int (0 : Int32))) (fun h => by rw [Bd.returns] at h; cases h)
      refine ⟨_, _, pre6 _ ?_, hrun, hended, _, _, rfl, ?_, ⟨_, rfl⟩, hW, hsame.mono (by decide) (by decide)⟩
      · refine XS.ifYes X5.here hx rfl (pc0 := 12) (pc' := 19) rfl (hb hby d10_12) rfl ((if0 _ _).trans (teq hc7).1) (by decide) (by decide) ?_
        refine XS.iconst X5.here hx rfl (hb hby d10_19) ?_
        show Steps p.tables e below (T5.setTop (mkF m 20 #[.val (.ref b), .val (.int (own_i ii))] [(.int (0 : Int32))])) _
        exact retN X5 hx (t := .boolean) Bd.returns (by simp) (hb hby d10_20) hr
      · show Qws Z b ii kb N cs h0 n0 _ T5.heap _
        rw [eh5]
        exact ⟨(own_ret (congrArg Value.int (own_wa1 ((own_ilt (by omega) (by omega)).mp hc3) hc7).symm)), N5, rfl⟩
    · obtain ⟨fs, hr, hrun, hended, hW, hsame⟩ := X5.leave (v := some (.int (1 : Int32))) (fun h => by rw [Bd.returns] at h; cases h)
      refine ⟨_, _, pre6 _ ?_, hrun, hended, _, _, rfl, ?_, ⟨_, rfl⟩, hW, hsame.mono (by decide) (by decide)⟩
      · refine XS.ifNo X5.here hx rfl (hb hby d10_12) rfl ((if0 _ _).trans (feq hc7).1) ?_
        refine XS.iconst X5.here hx rfl (hb hby d10_15) ?_
        refine XS.goto X5.here hx rfl (pc0 := 16) (pc' := 20) rfl (hb hby d10_16) (by decide) (by decide) ?_
        show Steps p.tables e below (T5.setTop (mkF m 20 #[.val (.ref b), .val (.int (own_i ii))] [(.int (1 : Int32))])) _
        exact retN X5 hx (t := .boolean) Bd.returns (by simp) (hb hby d10_20) hr
      · show Qws Z b ii kb N cs h0 n0 _ T5.heap _
        rw [eh5]
        exact ⟨(own_ret (congrArg Value.int (own_wa2 ((own_ilt (by omega) (by omega)).mp hc3) hc7).symm)), N5, rfl⟩
  · obtain ⟨fs, hr, hrun, hended, hW, hsame⟩ := X0.leave (v := some (.int (0 : Int32))) (fun h => by rw [Bd.returns] at h; cases h)
    refine ⟨_, _, pre2 _ ?_, hrun, hended, _, _, rfl, ?_, ⟨_, rfl⟩, hW, hsame.mono (by decide) (by decide)⟩
    · refine XS.icmpYes X0.here hx rfl (pc0 := 3) (pc' := 19) rfl (hb hby d10_3) rfl (flt hc3).2.1 (by decide) (by decide) ?_
      refine XS.iconst X0.here hx rfl (hb hby d10_19) ?_
      show Steps p.tables e below (s₁.setTop (mkF m 20 #[.val (.ref b), .val (.int (own_i ii))] [(.int (0 : Int32))])) _
      exact retN X0 hx (t := .boolean) Bd.returns (by simp) (hb hby d10_20) hr
    · show Qws Z b ii kb N cs h0 n0 _ s₁.heap _
      rw [e0]
      exact ⟨(own_ret (congrArg Value.int (own_wa3 fun z => hc3 ((own_ilt (by omega) (by omega)).mpr z)).symm)), N0, rfl⟩
theorem d12_0 : decode method_3_code 0 = .ok (.iload 4, 2) := by decide +kernel
theorem d12_2 : decode method_3_code 2 = .ok (.aload_n 0, 1) := by decide +kernel
theorem d12_3 : decode method_3_code 3 = .ok (.arraylength, 1) := by decide +kernel
theorem d12_4 : decode method_3_code 4 = .ok (.if_icmp .lt 5, 3) := by decide +kernel
theorem d12_9 : decode method_3_code 9 = .ok (.iload 4, 2) := by decide +kernel
theorem d12_11 : decode method_3_code 11 = .ok (.iload_n 2, 1) := by decide +kernel
theorem d12_12 : decode method_3_code 12 = .ok (.if_icmp .lt 32, 3) := by decide +kernel
theorem d12_44 : decode method_3_code 44 = .ok (.aload_n 0, 1) := by decide +kernel
theorem d12_45 : decode method_3_code 45 = .ok (.iload 4, 2) := by decide +kernel
theorem d12_47 : decode method_3_code 47 = .ok (.caload, 1) := by decide +kernel
theorem d12_48 : decode method_3_code 48 = .ok (.invokestatic 42, 3) := by decide +kernel
theorem d12_51 : decode method_3_code 51 = .ok (.ireturn, 1) := by decide +kernel
theorem d12_15 : decode method_3_code 15 = .ok (.iload 4, 2) := by decide +kernel
theorem d12_17 : decode method_3_code 17 = .ok (.iload_n 2, 1) := by decide +kernel
theorem d12_18 : decode method_3_code 18 = .ok (.iload_n 3, 1) := by decide +kernel
theorem d12_19 : decode method_3_code 19 = .ok (.iadd, 1) := by decide +kernel
theorem d12_20 : decode method_3_code 20 = .ok (.if_icmp .ge 24, 3) := by decide +kernel
theorem d12_23 : decode method_3_code 23 = .ok (.aload_n 1, 1) := by decide +kernel
theorem d12_24 : decode method_3_code 24 = .ok (.iload 4, 2) := by decide +kernel
theorem d12_26 : decode method_3_code 26 = .ok (.iload_n 2, 1) := by decide +kernel
theorem d12_27 : decode method_3_code 27 = .ok (.isub, 1) := by decide +kernel
theorem w_103 : (Jvm.Cond.methodLink "com/example/shelfmark/shelfmark/records/TextTrimPinLaw" (39 : Nat) ({ cls := "java/lang/String", name := "charAt", desc := "(I)C" } : Jvm.MethodName)) ∈ tables_1 := List.mem_of_getElem? (i := 103) (by decide +kernel)
theorem d12_28 : decode method_3_code 28 = .ok (.invokevirtual 39, 3) := by decide +kernel
theorem d12_31 : decode method_3_code 31 = .ok (.aload_n 0, 1) := by decide +kernel
theorem d12_32 : decode method_3_code 32 = .ok (.iload 4, 2) := by decide +kernel
theorem d12_34 : decode method_3_code 34 = .ok (.caload, 1) := by decide +kernel
theorem d12_35 : decode method_3_code 35 = .ok (.if_icmp .ne 7, 3) := by decide +kernel
theorem d12_38 : decode method_3_code 38 = .ok (.iconst 1, 1) := by decide +kernel
theorem d12_39 : decode method_3_code 39 = .ok (.goto 4, 3) := by decide +kernel
theorem d12_43 : decode method_3_code 43 = .ok (.ireturn, 1) := by decide +kernel
theorem d12_7 : decode method_3_code 7 = .ok (.iconst 1, 1) := by decide +kernel
theorem d12_8 : decode method_3_code 8 = .ok (.ireturn, 1) := by decide +kernel
abbrev mN22 : MethodName := ⟨"com/example/shelfmark/shelfmark/records/TextTrimPinLaw", "place", "([CLjava/lang/String;III)Z"⟩
theorem ef_place (m : MethodId) (x0 : Addr) (x1 : Addr) (x2 : Int32) (x3 : Int32) (x4 : Int32) : entryFrame m #[(.ref x0), (.ref x1), (.int x2), (.int x3), (.int x4)] 5 = mkF m 0 #[.val (.ref x0), .val (.ref x1), .val (.int x2), .val (.int x3), .val (.int x4)] [] := by first | (simp [entryFrame, mkF, argsToLocals, Value.category]; done) | rfl
def Qplace (Z : State) (b : Addr) (a : Addr) (ii : Nat) (k : Nat) (M : Nat) (cz : Int32) (t : Addr) (kt : ClassId) (us : List Int32) (sf : Value) (kb : ClassId) (N : Nat) (cs : List Int32) (h0 : Heap) (n0 : Nat) (v : Option Value) (h : Heap) (L : List Loc) : Prop := v = some (.int (1 : Int32)) ∧ Fr n0 L ∧ h = h0
set_option maxRecDepth 65536 in
set_option maxHeartbeats 40000000 in
theorem rmplace (l : Launch) (Z : State) (a0 : Array Value) (hw : ∀ d ∈ tables_1, d.before a0 Z = true) (ws : List Jvm.Cond) (b : Addr) (a : Addr) (ii : Nat) (k : Nat) (M : Nat) (cz : Int32) (t : Addr) (kt : ClassId) (us : List Int32) (sf : Value) (kb : ClassId) (N : Nat) (cs : List Int32) (h0 : Heap) (n0 : Nat) (O0 : Old Z n0 h0) (hp0 : Arv Z h0 b kb .char (own_i N) (cs.map Value.int) (.int (0 : Int32))) (hp1 : Exa Z h0 a "java/lang/String") (hp2 : Fld Z h0 a "java/lang/String" "value" "[B" (.ref t)) (hp3 : Fld Z h0 a "java/lang/String" "coder" "B" (.int (0 : Int32))) (hp4 : Arv Z h0 t kt .byte (own_i M) (us.map Value.int) (.int (0 : Int32))) (hp5 : Sta Z Z.heap "java/lang/String" "COMPACT_STRINGS" "Z" (.int cz)) (hcz : (¬ (cz = (0 : Int32)))) (hp7 : Sta Z Z.heap "jdk/internal/util/Preconditions" "SIOOBE_FORMATTER" "Ljava/util/function/BiFunction;" sf) (hsf : (sf.isRef = true)) (hN : (N ≤ 4)) (hii : (ii < 4)) (hkM : (k + M ≤ N)) (hpin : (∀ i, i < N → ¬ i < k → i < k + M → (own_u us (i - k)) = cs.getD i 0)) (hout : (∀ i, i < N → (i < k ∨ ¬ i < k + M) → own_w (cs.getD i 0) = 1)) :
    MetFree l mN22 (head1 (Jvm.Cond.code mN22 method_3_code 5 (some .boolean) :: ws) ({ frames := 4, cells := 0, slots := 0, locals := 53 } : Room)) (fun as_ U => as_ = #[(.ref b), (.ref a), (.int (own_i k)), (.int (own_i M)), (.int (own_i ii))] ∧ Z.Warmed39 U.vm ∧ U.heap = h0) (fun _ _ _ _ _ => True) (fun _ U o U' => ∃ v L, o = .returned v ∧ Qplace Z b a ii k M cz t kt us sf kb N cs h0 n0 v U'.heap L ∧ FrameEnd U o U' L ({ frames := 4, cells := 0, slots := 0, locals := 53 } : Room).cells ({ frames := 4, cells := 0, slots := 0, locals := 53 } : Room).slots) := by
  refine MetFree.of_bodySF (plainFor_of_name pn_com_example_shelfmark_shelfmark_records_TextTrimPinLaw) hisR ?_
  intro p e s m args below meth c s₁ Bd hml0 hP hK
  obtain ⟨rfl, hZ, hh⟩ := hP
  have hx := Bd.exec
  have hby := Bd.bytes
  have hml : c.maxLocals = 5 := hml0
  have hown : s.vm.findClass "com/example/shelfmark/shelfmark/records/TextTrimPinLaw" = some m.cls := findClass_of_methodNamed Bd.named
  have hnm := (name_of_methodNamed Bd.named Bd.method).1
  have X0 : Stand p l e ({ frames := 4, cells := 0, slots := 0, locals := 53 } : Room) s m #[(.ref b), (.ref a), (.int (own_i k)), (.int (own_i M)), (.int (own_i ii))] below meth c s₁ [] 0 0 := Stand.of_body Bd
  have e0 : s₁.heap = h0 := by rw [← hh, Bd.state]; rfl
  have N0 := Fr.nil n0
  have Z0 := own_z0 O0
  have pre0 : ∀ tg_, Steps p.tables e below (s₁.setTop (mkF m 0 #[.val (.ref b), .val (.ref a), .val (.int (own_i k)), .val (.int (own_i M)), .val (.int (own_i ii))] [])) tg_ → Steps p.tables e below (s₁.setTop (entryFrame m #[(.ref b), (.ref a), (.int (own_i k)), (.int (own_i M)), (.int (own_i ii))] 5)) tg_ := fun tg_ kt_ => castTop (ef_place m b a (own_i k) (own_i M) (own_i ii)) kt_
  obtain ⟨cl1, Ar1, -, S1, Ng1, -, -⟩ := id hp0
  have pre2 : ∀ tg_, Steps p.tables e below (s₁.setTop (mkF m 4 #[.val (.ref b), .val (.ref a), .val (.int (own_i k)), .val (.int (own_i M)), .val (.int (own_i ii))] [(.int (own_i N)), (.int (own_i ii))])) tg_ → Steps p.tables e below (s₁.setTop (entryFrame m #[(.ref b), (.ref a), (.int (own_i k)), (.int (own_i M)), (.int (own_i ii))] 5)) tg_ := by
    intro tg_ kt_
    refine pre0 tg_ ?_
    refine XS.iload X0.here hx rfl (hb hby d12_0) rfl ?_
    refine XS.aloadN X0.here hx rfl (hb hby d12_2) rfl rfl ?_
    show Steps p.tables e below (s₁.setTop (mkF m 3 #[.val (.ref b), .val (.ref a), .val (.int (own_i k)), .val (.int (own_i M)), .val (.int (own_i ii))] [(.ref b), (.int (own_i ii))])) _
    refine X0.arraylength hx (by rw [e0]; exact Ar1.1) (State.isArrayOf_alike hZ.alike Ar1.2.1) (g := (mkF m 3 #[.val (.ref b), .val (.ref a), .val (.int (own_i k)), .val (.int (own_i M)), .val (.int (own_i ii))] [(.ref b), (.int (own_i ii))])) rfl rfl (hb hby d12_3) _ ?_
    rw [len_of S1 Ng1]
    exact kt_
  by_cases hc3 : (own_i ii) < (own_i N)
  · have pre4 : ∀ tg_, Steps p.tables e below (s₁.setTop (mkF m 12 #[.val (.ref b), .val (.ref a), .val (.int (own_i k)), .val (.int (own_i M)), .val (.int (own_i ii))] [(.int (own_i k)), (.int (own_i ii))])) tg_ → Steps p.tables e below (s₁.setTop (entryFrame m #[(.ref b), (.ref a), (.int (own_i k)), (.int (own_i M)), (.int (own_i ii))] 5)) tg_ := by
      intro tg_ kt_
      refine pre2 tg_ ?_
      refine XS.icmpYes X0.here hx rfl (pc0 := 4) (pc' := 9) rfl (hb hby d12_4) rfl (tlt hc3).1 (by decide) (by decide) ?_
      refine XS.iload X0.here hx rfl (hb hby d12_9) rfl ?_
      refine XS.iloadN X0.here hx rfl (hb hby d12_11) rfl ?_
      exact kt_
    by_cases hc5 : (own_i ii) < (own_i k)
    · obtain ⟨cl6, Ar6, -, S6, Ng6, H6, G6⟩ := id hp0
      have hin6 : ¬ ((own_i ii) < 0 ∨ cl6.slots.size ≤ ((own_i ii)).toNatClampNeg) := inb_of S6 ⟨own_inn (by omega), hc3⟩
      have hat6 : cl6.slots[((own_i ii)).toNatClampNeg]? = some (.int (cs.getD ii 0)) := H6.at hin6 (own_gd cs (by omega))
      obtain ⟨_, _, ⟨T7, L7, k7, n7⟩, -, X7, ⟨Lc7, hQ7, l7, y7, z7⟩, st7⟩ := Jvm.LawKit.callS X0 hx (y := mN9) hown (mvT hZ (hw _ w_100)) (mvT hZ (hw _ w_101)) (mvT hZ (hw _ w_55)) (mvT hZ (hw _ w_102)) (by decide) (backOf (W := 0) (rmisWs l Z a0 hw [] (cs.getD ii 0) h0 n0 O0 ) hZ (hw _ w_102) (hw _ w_55) (by decide) (by decide)) (g := (mkF m 48 #[.val (.ref b), .val (.ref a), .val (.int (own_i k)), .val (.int (own_i M)), .val (.int (own_i ii))] [(.int (cs.getD ii 0))])) rfl (by rw [hml]; rfl) (argsL := [(.int (cs.getD ii 0))]) (rest := []) (lenOf pd__C_Z rfl) rfl (by show 2 * 0 + _ ≤ _; exact Nat.le_of_eq rfl) (hb hby d12_48) (fun _ _ => ⟨rfl, e0, (by decide : 0 + 0 ≤ _), (by decide : 0 + 0 ≤ _)⟩)
      dsimp only [Pt.U, Pt.locs, Pt.cells, Pt.slots] at X7 l7 y7 z7 st7 hQ7
      subst l7 y7 z7
      obtain ⟨rfl, N7q, eh7⟩ := hQ7
      have N7 := Fr.app N0 N7q
      obtain ⟨fs, hr, hrun, hended, hW, hsame⟩ := X7.leave (v := some (.int (nar .boolean (own_w (cs.getD ii 0))))) (fun h => by rw [Bd.returns] at h; cases h)
      refine ⟨_, _, pre4 _ ?_, hrun, hended, _, _, rfl, ?_, ⟨_, rfl⟩, hW, hsame.mono (by decide) (by decide)⟩
      · show Steps p.tables e below (s₁.setTop (mkF m 12 #[.val (.ref b), .val (.ref a), .val (.int (own_i k)), .val (.int (own_i M)), .val (.int (own_i ii))] [(.int (own_i k)), (.int (own_i ii))])) _
        refine XS.icmpYes X0.here hx rfl (pc0 := 12) (pc' := 44) rfl (hb hby d12_12) rfl (tlt hc5).1 (by decide) (by decide) ?_
        refine XS.aloadN X0.here hx rfl (hb hby d12_44) rfl rfl ?_
        refine XS.iload X0.here hx rfl (hb hby d12_45) rfl ?_
        refine X0.caload hx (j := (own_i ii)) (v := (.int (cs.getD ii 0))) (by rw [e0]; exact Ar6.1) (State.isArrayOf_alike hZ.alike Ar6.2.1) Ar6.2.2 hin6 hat6 (g := (mkF m 47 #[.val (.ref b), .val (.ref a), .val (.int (own_i k)), .val (.int (own_i M)), .val (.int (own_i ii))] [(.int (own_i ii)), (.ref b)])) rfl rfl (hb hby d12_47) _ ?_
        show Steps p.tables e below (s₁.setTop (mkF m 48 #[.val (.ref b), .val (.ref a), .val (.int (own_i k)), .val (.int (own_i M)), .val (.int (own_i ii))] [(.int (cs.getD ii 0))])) _
        refine st7 _ ?_
        show Steps p.tables e below (T7.setTop (mkF m 51 #[.val (.ref b), .val (.ref a), .val (.int (own_i k)), .val (.int (own_i M)), .val (.int (own_i ii))] [(.int (own_w (cs.getD ii 0)))])) _
        exact retN X7 hx (t := .boolean) Bd.returns (by simp) (hb hby d12_51) hr
      · show Qplace Z b a ii k M cz t kt us sf kb N cs h0 n0 _ T7.heap _
        rw [eh7]
        exact ⟨(own_ret (by rw [hout ii ((own_ilt (by omega) (by omega)).mp hc3) (Or.inl ((own_ilt (by omega) (by omega)).mp hc5))]; rfl)), N7, rfl⟩
    · have pre8 : ∀ tg_, Steps p.tables e below (s₁.setTop (mkF m 20 #[.val (.ref b), .val (.ref a), .val (.int (own_i k)), .val (.int (own_i M)), .val (.int (own_i ii))] [(.int ((own_i k) + (own_i M))), (.int (own_i ii))])) tg_ → Steps p.tables e below (s₁.setTop (entryFrame m #[(.ref b), (.ref a), (.int (own_i k)), (.int (own_i M)), (.int (own_i ii))] 5)) tg_ := by
        intro tg_ kt_
        refine pre4 tg_ ?_
        show Steps p.tables e below (s₁.setTop (mkF m 12 #[.val (.ref b), .val (.ref a), .val (.int (own_i k)), .val (.int (own_i M)), .val (.int (own_i ii))] [(.int (own_i k)), (.int (own_i ii))])) _
        refine XS.icmpNo X0.here hx rfl (hb hby d12_12) rfl (flt hc5).1 ?_
        refine XS.iload X0.here hx rfl (hb hby d12_15) rfl ?_
        refine XS.iloadN X0.here hx rfl (hb hby d12_17) rfl ?_
        refine XS.iloadN X0.here hx rfl (hb hby d12_18) rfl ?_
        show Steps p.tables e below (s₁.setTop (mkF m 19 #[.val (.ref b), .val (.ref a), .val (.int (own_i k)), .val (.int (own_i M)), .val (.int (own_i ii))] [(.int (own_i M)), (.int (own_i k)), (.int (own_i ii))])) _
        refine XS.iadd X0.here hx rfl (hb hby d12_19) rfl ?_
        exact kt_
      rw [show ((own_i k) + (own_i M)) = (own_i (k + M)) from own_iadd _ _] at pre8
      by_cases hc9 : (own_i ii) < (own_i (k + M))
      · have pre10 : ∀ tg_, Steps p.tables e below (s₁.setTop (mkF m 28 #[.val (.ref b), .val (.ref a), .val (.int (own_i k)), .val (.int (own_i M)), .val (.int (own_i ii))] [(.int ((own_i ii) - (own_i k))), (.ref a)])) tg_ → Steps p.tables e below (s₁.setTop (entryFrame m #[(.ref b), (.ref a), (.int (own_i k)), (.int (own_i M)), (.int (own_i ii))] 5)) tg_ := by
          intro tg_ kt_
          refine pre8 tg_ ?_
          refine XS.icmpNo X0.here hx rfl (hb hby d12_20) rfl (tlt hc9).2.1 ?_
          refine XS.aloadN X0.here hx rfl (hb hby d12_23) rfl rfl ?_
          refine XS.iload X0.here hx rfl (hb hby d12_24) rfl ?_
          show Steps p.tables e below (s₁.setTop (mkF m 26 #[.val (.ref b), .val (.ref a), .val (.int (own_i k)), .val (.int (own_i M)), .val (.int (own_i ii))] [(.int (own_i ii)), (.ref a)])) _
          refine XS.iloadN X0.here hx rfl (hb hby d12_26) rfl ?_
          refine XS.isub X0.here hx rfl (hb hby d12_27) rfl ?_
          exact kt_
        rw [show ((own_i ii) - (own_i k)) = (own_i (ii - k)) from own_isub (by have q : ¬ ii < k := (fun z => hc5 ((own_ilt (by omega) (by omega)).mpr z)); omega)] at pre10
        obtain ⟨cq11, kq11, q11a, q11b, q11c⟩ := isOf hZ e0 hp1
        obtain ⟨_, _, ⟨T11, L11, k11, n11⟩, -, X11, ⟨Lc11, hQ11, l11, y11, z11⟩, st11⟩ := X0.virtualBack hx (y := mN7) (z := mN7) hown (mvT hZ (hw _ w_103)) (mvT hZ (hw _ w_78)) (notFace_of_selects (args := #[]) (mvT hZ (hw _ w_80))) (mvT hZ (hw _ w_80)) (mvT hZ (hw _ w_79)) (by decide) (backOf (W := 0) (rmschr l Z a0 hw [] a (ii - k) sf cz t kt M us h0 n0 O0 hp1 hp2 hp3 hp4 hp5 hcz hp7 hsf (by have q1 : ¬ ii < k := (fun z => hc5 ((own_ilt (by omega) (by omega)).mpr z)); have q2 := ((own_ilt (by omega) (by omega)).mp hc9); omega) (by omega)) hZ (hw _ w_81) (hw _ w_4) (by decide) (by decide)) q11a q11c (g := (mkF m 28 #[.val (.ref b), .val (.ref a), .val (.int (own_i k)), .val (.int (own_i M)), .val (.int (own_i ii))] [(.int (own_i (ii - k))), (.ref a)])) rfl (by rw [hml]; rfl) (Steps.refl _) (argsL := [(.int (own_i (ii - k)))]) (rest := []) (lenOf pd__I_C rfl) rfl (by show 2 * 0 + _ ≤ _; exact Nat.le_of_eq rfl) (hb hby d12_28) (fun _ _ => ⟨rfl, e0, (by decide : 0 + 0 ≤ _), (by decide : 0 + 0 ≤ _)⟩)
        dsimp only [Pt.U, Pt.locs, Pt.cells, Pt.slots] at X11 l11 y11 z11 st11 hQ11
        subst l11 y11 z11
        obtain ⟨rfl, N11q, eh11⟩ := hQ11
        have N11 := Fr.app N0 N11q
        obtain ⟨cl12, Ar12, -, S12, Ng12, H12, G12⟩ := id hp0
        have hin12 : ¬ ((own_i ii) < 0 ∨ cl12.slots.size ≤ ((own_i ii)).toNatClampNeg) := inb_of S12 ⟨own_inn (by omega), hc3⟩
        have hat12 : cl12.slots[((own_i ii)).toNatClampNeg]? = some (.int (cs.getD ii 0)) := H12.at hin12 (own_gd cs (by omega))
        obtain ⟨fs, hr, hrun, hended, hW, hsame⟩ := X11.leave (v := some (.int (1 : Int32))) (fun h => by rw [Bd.returns] at h; cases h)
        refine ⟨_, _, pre10 _ ?_, hrun, hended, _, _, rfl, ?_, ⟨_, rfl⟩, hW, hsame.mono (by decide) (by decide)⟩
        · show Steps p.tables e below (s₁.setTop (mkF m 28 #[.val (.ref b), .val (.ref a), .val (.int (own_i k)), .val (.int (own_i M)), .val (.int (own_i ii))] [(.int (own_i (ii - k))), (.ref a)])) _
          refine st11.trans ?_
          refine XS.aloadN X11.here hx rfl (hb hby d12_31) rfl rfl ?_
          refine XS.iload X11.here hx rfl (hb hby d12_32) rfl ?_
          refine X11.caload hx (j := (own_i ii)) (v := (.int (cs.getD ii 0))) (by rw [eh11]; exact Ar12.1) (State.isArrayOf_alike hZ.alike Ar12.2.1) Ar12.2.2 hin12 hat12 (g := (mkF m 34 #[.val (.ref b), .val (.ref a), .val (.int (own_i k)), .val (.int (own_i M)), .val (.int (own_i ii))] [(.int (own_i ii)), (.ref b), (.int (own_u us (ii - k)))])) rfl rfl (hb hby d12_34) _ ?_
          show Steps p.tables e below (T11.setTop (mkF m 35 #[.val (.ref b), .val (.ref a), .val (.int (own_i k)), .val (.int (own_i M)), .val (.int (own_i ii))] [(.int (cs.getD ii 0)), (.int (own_u us (ii - k)))])) _
          refine XS.icmpNo X11.here hx rfl (hb hby d12_35) rfl (teq (hpin ii ((own_ilt (by omega) (by omega)).mp hc3) (fun z => hc5 ((own_ilt (by omega) (by omega)).mpr z)) ((own_ilt (by omega) (by omega)).mp hc9) : (own_u us (ii - k)) = (cs.getD ii 0))).2 ?_
          refine XS.iconst X11.here hx rfl (hb hby d12_38) ?_
          refine XS.goto X11.here hx rfl (pc0 := 39) (pc' := 43) rfl (hb hby d12_39) (by decide) (by decide) ?_
          show Steps p.tables e below (T11.setTop (mkF m 43 #[.val (.ref b), .val (.ref a), .val (.int (own_i k)), .val (.int (own_i M)), .val (.int (own_i ii))] [(.int (1 : Int32))])) _
          exact retN X11 hx (t := .boolean) Bd.returns (by simp) (hb hby d12_43) hr
        · show Qplace Z b a ii k M cz t kt us sf kb N cs h0 n0 _ T11.heap _
          rw [eh11]
          exact ⟨rfl, N11, rfl⟩
      · obtain ⟨cl13, Ar13, -, S13, Ng13, H13, G13⟩ := id hp0
        have hin13 : ¬ ((own_i ii) < 0 ∨ cl13.slots.size ≤ ((own_i ii)).toNatClampNeg) := inb_of S13 ⟨own_inn (by omega), hc3⟩
        have hat13 : cl13.slots[((own_i ii)).toNatClampNeg]? = some (.int (cs.getD ii 0)) := H13.at hin13 (own_gd cs (by omega))
        obtain ⟨_, _, ⟨T14, L14, k14, n14⟩, -, X14, ⟨Lc14, hQ14, l14, y14, z14⟩, st14⟩ := Jvm.LawKit.callS X0 hx (y := mN9) hown (mvT hZ (hw _ w_100)) (mvT hZ (hw _ w_101)) (mvT hZ (hw _ w_55)) (mvT hZ (hw _ w_102)) (by decide) (backOf (W := 0) (rmisWs l Z a0 hw [] (cs.getD ii 0) h0 n0 O0 ) hZ (hw _ w_102) (hw _ w_55) (by decide) (by decide)) (g := (mkF m 48 #[.val (.ref b), .val (.ref a), .val (.int (own_i k)), .val (.int (own_i M)), .val (.int (own_i ii))] [(.int (cs.getD ii 0))])) rfl (by rw [hml]; rfl) (argsL := [(.int (cs.getD ii 0))]) (rest := []) (lenOf pd__C_Z rfl) rfl (by show 2 * 0 + _ ≤ _; exact Nat.le_of_eq rfl) (hb hby d12_48) (fun _ _ => ⟨rfl, e0, (by decide : 0 + 0 ≤ _), (by decide : 0 + 0 ≤ _)⟩)
        dsimp only [Pt.U, Pt.locs, Pt.cells, Pt.slots] at X14 l14 y14 z14 st14 hQ14
        subst l14 y14 z14
        obtain ⟨rfl, N14q, eh14⟩ := hQ14
        have N14 := Fr.app N0 N14q
        obtain ⟨fs, hr, hrun, hended, hW, hsame⟩ := X14.leave (v := some (.int (nar .boolean (own_w (cs.getD ii 0))))) (fun h => by rw [Bd.returns] at h; cases h)
        refine ⟨_, _, pre8 _ ?_, hrun, hended, _, _, rfl, ?_, ⟨_, rfl⟩, hW, hsame.mono (by decide) (by decide)⟩
        · refine XS.icmpYes X0.here hx rfl (pc0 := 20) (pc' := 44) rfl (hb hby d12_20) rfl (flt hc9).2.1 (by decide) (by decide) ?_
          refine XS.aloadN X0.here hx rfl (hb hby d12_44) rfl rfl ?_
          refine XS.iload X0.here hx rfl (hb hby d12_45) rfl ?_
          show Steps p.tables e below (s₁.setTop (mkF m 47 #[.val (.ref b), .val (.ref a), .val (.int (own_i k)), .val (.int (own_i M)), .val (.int (own_i ii))] [(.int (own_i ii)), (.ref b)])) _
          refine X0.caload hx (j := (own_i ii)) (v := (.int (cs.getD ii 0))) (by rw [e0]; exact Ar13.1) (State.isArrayOf_alike hZ.alike Ar13.2.1) Ar13.2.2 hin13 hat13 (g := (mkF m 47 #[.val (.ref b), .val (.ref a), .val (.int (own_i k)), .val (.int (own_i M)), .val (.int (own_i ii))] [(.int (own_i ii)), (.ref b)])) rfl rfl (hb hby d12_47) _ ?_
          show Steps p.tables e below (s₁.setTop (mkF m 48 #[.val (.ref b), .val (.ref a), .val (.int (own_i k)), .val (.int (own_i M)), .val (.int (own_i ii))] [(.int (cs.getD ii 0))])) _
          refine st14 _ ?_
          show Steps p.tables e below (T14.setTop (mkF m 51 #[.val (.ref b), .val (.ref a), .val (.int (own_i k)), .val (.int (own_i M)), .val (.int (own_i ii))] [(.int (own_w (cs.getD ii 0)))])) _
          exact retN X14 hx (t := .boolean) Bd.returns (by simp) (hb hby d12_51) hr
        · show Qplace Z b a ii k M cz t kt us sf kb N cs h0 n0 _ T14.heap _
          rw [eh14]
          exact ⟨(own_ret (by rw [hout ii ((own_ilt (by omega) (by omega)).mp hc3) (Or.inr fun z => hc9 ((own_ilt (by omega) (by omega)).mpr z))]; rfl)), N14, rfl⟩
  · obtain ⟨fs, hr, hrun, hended, hW, hsame⟩ := X0.leave (v := some (.int (1 : Int32))) (fun h => by rw [Bd.returns] at h; cases h)
    refine ⟨_, _, pre2 _ ?_, hrun, hended, _, _, rfl, ?_, ⟨_, rfl⟩, hW, hsame.mono (by decide) (by decide)⟩
    · refine XS.icmpNo X0.here hx rfl (hb hby d12_4) rfl (flt hc3).1 ?_
      refine XS.iconst X0.here hx rfl (hb hby d12_7) ?_
      show Steps p.tables e below (s₁.setTop (mkF m 8 #[.val (.ref b), .val (.ref a), .val (.int (own_i k)), .val (.int (own_i M)), .val (.int (own_i ii))] [(.int (1 : Int32))])) _
      exact retN X0 hx (t := .boolean) Bd.returns (by simp) (hb hby d12_8) hr
    · show Qplace Z b a ii k M cz t kt us sf kb N cs h0 n0 _ s₁.heap _
      rw [e0]
      exact ⟨rfl, N0, rfl⟩
theorem d13_0 : decode method_6_code 0 = .ok (.iload_n 0, 1) := by decide +kernel
theorem d13_1 : decode method_6_code 1 = .ok (.sipush 256, 3) := by decide +kernel
theorem d13_4 : decode method_6_code 4 = .ok (.iand, 1) := by decide +kernel
theorem d13_5 : decode method_6_code 5 = .ok (.ifCond .eq 33, 3) := by decide +kernel
theorem d13_38 : decode method_6_code 38 = .ok (.iload_n 0, 1) := by decide +kernel
theorem d13_39 : decode method_6_code 39 = .ok (.sipush 255, 3) := by decide +kernel
theorem d13_42 : decode method_6_code 42 = .ok (.iand, 1) := by decide +kernel
theorem d13_43 : decode method_6_code 43 = .ok (.i2c, 1) := by decide +kernel
theorem d13_44 : decode method_6_code 44 = .ok (.ireturn, 1) := by decide +kernel
theorem d13_8 : decode method_6_code 8 = .ok (.iload_n 0, 1) := by decide +kernel
theorem d13_9 : decode method_6_code 9 = .ok (.iconst 3, 1) := by decide +kernel
theorem d13_10 : decode method_6_code 10 = .ok (.iand, 1) := by decide +kernel
theorem d13_11 : decode method_6_code 11 = .ok (.istore_n 1, 1) := by decide +kernel
theorem d13_12 : decode method_6_code 12 = .ok (.iload_n 1, 1) := by decide +kernel
theorem d13_13 : decode method_6_code 13 = .ok (.ifCond .ne 6, 3) := by decide +kernel
theorem d13_16 : decode method_6_code 16 = .ok (.bipush 32, 2) := by decide +kernel
theorem d13_18 : decode method_6_code 18 = .ok (.ireturn, 1) := by decide +kernel
theorem d13_19 : decode method_6_code 19 = .ok (.iload_n 1, 1) := by decide +kernel
theorem d13_20 : decode method_6_code 20 = .ok (.iconst 1, 1) := by decide +kernel
theorem d13_21 : decode method_6_code 21 = .ok (.if_icmp .ne 6, 3) := by decide +kernel
theorem d13_24 : decode method_6_code 24 = .ok (.bipush 9, 2) := by decide +kernel
theorem d13_26 : decode method_6_code 26 = .ok (.ireturn, 1) := by decide +kernel
theorem d13_27 : decode method_6_code 27 = .ok (.iload_n 1, 1) := by decide +kernel
theorem d13_28 : decode method_6_code 28 = .ok (.iconst 2, 1) := by decide +kernel
theorem d13_29 : decode method_6_code 29 = .ok (.if_icmp .ne 6, 3) := by decide +kernel
theorem d13_32 : decode method_6_code 32 = .ok (.bipush 10, 2) := by decide +kernel
theorem d13_34 : decode method_6_code 34 = .ok (.ireturn, 1) := by decide +kernel
theorem d13_35 : decode method_6_code 35 = .ok (.bipush 13, 2) := by decide +kernel
theorem d13_37 : decode method_6_code 37 = .ok (.ireturn, 1) := by decide +kernel
abbrev mN23 : MethodName := ⟨"com/example/shelfmark/shelfmark/records/TextTrimPinLaw", "ch", "(I)C"⟩
theorem ef_ch (m : MethodId) (x0 : Int32) : entryFrame m #[(.int x0)] 2 = mkF m 0 #[.val (.int x0), .unset] [] := by first | (simp [entryFrame, mkF, argsToLocals, Value.category]; done) | rfl
def Qch (Z : State) (x0 : Int32) (h0 : Heap) (n0 : Nat) (v : Option Value) (h : Heap) (L : List Loc) : Prop := ∃ (q : Int32), v = some (.int q) ∧ Fr n0 L ∧ h = h0 ∧ (¬ q < (0 : Int32) ∧ ¬ (255 : Int32) < q)
set_option maxRecDepth 65536 in
set_option maxHeartbeats 40000000 in
theorem rmch (l : Launch) (Z : State) (a0 : Array Value) (hw : ∀ d ∈ tables_1, d.before a0 Z = true) (ws : List Jvm.Cond) (x0 : Int32) (h0 : Heap) (n0 : Nat) (O0 : Old Z n0 h0)  :
    MetFree l mN23 (head1 (Jvm.Cond.code mN23 method_6_code 2 (some .char) :: ws) ({ frames := 0, cells := 0, slots := 0, locals := 0 } : Room)) (fun as_ U => as_ = #[(.int x0)] ∧ Z.Warmed39 U.vm ∧ U.heap = h0) (fun _ _ _ _ _ => True) (fun _ U o U' => ∃ v L, o = .returned v ∧ Qch Z x0 h0 n0 v U'.heap L ∧ FrameEnd U o U' L ({ frames := 0, cells := 0, slots := 0, locals := 0 } : Room).cells ({ frames := 0, cells := 0, slots := 0, locals := 0 } : Room).slots) := by
  refine MetFree.of_bodySF (plainFor_of_name pn_com_example_shelfmark_shelfmark_records_TextTrimPinLaw) hisR ?_
  intro p e s m args below meth c s₁ Bd hml0 hP hK
  obtain ⟨rfl, hZ, hh⟩ := hP
  have hx := Bd.exec
  have hby := Bd.bytes
  have hml : c.maxLocals = 2 := hml0
  have hown : s.vm.findClass "com/example/shelfmark/shelfmark/records/TextTrimPinLaw" = some m.cls := findClass_of_methodNamed Bd.named
  have hnm := (name_of_methodNamed Bd.named Bd.method).1
  have X0 : Stand p l e ({ frames := 0, cells := 0, slots := 0, locals := 0 } : Room) s m #[(.int x0)] below meth c s₁ [] 0 0 := Stand.of_body Bd
  have e0 : s₁.heap = h0 := by rw [← hh, Bd.state]; rfl
  have N0 := Fr.nil n0
  have Z0 := own_z0 O0
  have pre0 : ∀ tg_, Steps p.tables e below (s₁.setTop (mkF m 0 #[.val (.int x0), .unset] [])) tg_ → Steps p.tables e below (s₁.setTop (entryFrame m #[(.int x0)] 2)) tg_ := fun tg_ kt_ => castTop (ef_ch m x0) kt_
  have pre1 : ∀ tg_, Steps p.tables e below (s₁.setTop (mkF m 5 #[.val (.int x0), .unset] [(.int (x0 &&& (256 : Int32)))])) tg_ → Steps p.tables e below (s₁.setTop (entryFrame m #[(.int x0)] 2)) tg_ := by
    intro tg_ kt_
    refine pre0 tg_ ?_
    refine XS.iloadN X0.here hx rfl (hb hby d13_0) rfl ?_
    refine XS.sipush X0.here hx rfl (hb hby d13_1) ?_
    refine XS.iand X0.here hx rfl (hb hby d13_4) rfl ?_
    exact kt_
  by_cases hc2 : (x0 &&& (256 : Int32)) = (0 : Int32)
  · obtain ⟨fs, hr, hrun, hended, hW, hsame⟩ := X0.leave (v := some (.int (nar .char ((x0 &&& (255 : Int32)).toUInt32.toUInt16.toUInt32.toInt32)))) (fun h => by rw [Bd.returns] at h; cases h)
    refine ⟨_, _, pre1 _ ?_, hrun, hended, _, _, rfl, ?_, ⟨_, rfl⟩, hW, hsame.mono (by decide) (by decide)⟩
    · show Steps p.tables e below (s₁.setTop (mkF m 5 #[.val (.int x0), .unset] [(.int (x0 &&& (256 : Int32)))])) _
      refine XS.ifYes X0.here hx rfl (pc0 := 5) (pc' := 38) rfl (hb hby d13_5) rfl ((if0 _ _).trans (teq hc2).1) (by decide) (by decide) ?_
      refine XS.iloadN X0.here hx rfl (hb hby d13_38) rfl ?_
      refine XS.sipush X0.here hx rfl (hb hby d13_39) ?_
      refine XS.iand X0.here hx rfl (hb hby d13_42) rfl ?_
      show Steps p.tables e below (s₁.setTop (mkF m 43 #[.val (.int x0), .unset] [(.int (x0 &&& (255 : Int32)))])) _
      refine XS.i2c X0.here hx rfl (hb hby d13_43) rfl ?_
      show Steps p.tables e below (s₁.setTop (mkF m 44 #[.val (.int x0), .unset] [(.int ((x0 &&& (255 : Int32)).toUInt32.toUInt16.toUInt32.toInt32))])) _
      exact retN X0 hx (t := .char) Bd.returns (by simp) (hb hby d13_44) hr
    · show Qch Z x0 h0 n0 _ s₁.heap _
      rw [e0]
      exact ⟨(nar .char ((x0 &&& (255 : Int32)).toUInt32.toUInt16.toUInt32.toInt32)), rfl, N0, rfl, (own_m255 x0)⟩
  · have pre3 : ∀ tg_, Steps p.tables e below (s₁.setTop (mkF m 13 #[.val (.int x0), .val (.int (x0 &&& (3 : Int32)))] [(.int (x0 &&& (3 : Int32)))])) tg_ → Steps p.tables e below (s₁.setTop (entryFrame m #[(.int x0)] 2)) tg_ := by
      intro tg_ kt_
      refine pre1 tg_ ?_
      show Steps p.tables e below (s₁.setTop (mkF m 5 #[.val (.int x0), .unset] [(.int (x0 &&& (256 : Int32)))])) _
      refine XS.ifNo X0.here hx rfl (hb hby d13_5) rfl ((if0 _ _).trans (feq hc2).1) ?_
      refine XS.iloadN X0.here hx rfl (hb hby d13_8) rfl ?_
      refine XS.iconst X0.here hx rfl (hb hby d13_9) ?_
      refine XS.iand X0.here hx rfl (hb hby d13_10) rfl ?_
      show Steps p.tables e below (s₁.setTop (mkF m 11 #[.val (.int x0), .unset] [(.int (x0 &&& (3 : Int32)))])) _
      refine XS.istoreN X0.here hx rfl (hb hby d13_11) rfl (l' := #[.val (.int x0), .val (.int (x0 &&& (3 : Int32)))]) rfl ?_
      refine XS.iloadN X0.here hx rfl (hb hby d13_12) rfl ?_
      exact kt_
    by_cases hc4 : (x0 &&& (3 : Int32)) = (0 : Int32)
    · obtain ⟨fs, hr, hrun, hended, hW, hsame⟩ := X0.leave (v := some (.int (32 : Int32))) (fun h => by rw [Bd.returns] at h; cases h)
      refine ⟨_, _, pre3 _ ?_, hrun, hended, _, _, rfl, ?_, ⟨_, rfl⟩, hW, hsame.mono (by decide) (by decide)⟩
      · refine XS.ifNo X0.here hx rfl (hb hby d13_13) rfl ((if0 _ _).trans (teq hc4).2) ?_
        refine XS.bipush X0.here hx rfl (hb hby d13_16) ?_
        show Steps p.tables e below (s₁.setTop (mkF m 18 #[.val (.int x0), .val (.int (x0 &&& (3 : Int32)))] [(.int (32 : Int32))])) _
        exact retN X0 hx (t := .char) Bd.returns (by simp) (hb hby d13_18) hr
      · show Qch Z x0 h0 n0 _ s₁.heap _
        rw [e0]
        exact ⟨(32 : Int32), rfl, N0, rfl, (⟨by decide, by decide⟩)⟩
    · have pre5 : ∀ tg_, Steps p.tables e below (s₁.setTop (mkF m 21 #[.val (.int x0), .val (.int (x0 &&& (3 : Int32)))] [(.int (1 : Int32)), (.int (x0 &&& (3 : Int32)))])) tg_ → Steps p.tables e below (s₁.setTop (entryFrame m #[(.int x0)] 2)) tg_ := by
        intro tg_ kt_
        refine pre3 tg_ ?_
        refine XS.ifYes X0.here hx rfl (pc0 := 13) (pc' := 19) rfl (hb hby d13_13) rfl ((if0 _ _).trans (feq hc4).2) (by decide) (by decide) ?_
        refine XS.iloadN X0.here hx rfl (hb hby d13_19) rfl ?_
        show Steps p.tables e below (s₁.setTop (mkF m 20 #[.val (.int x0), .val (.int (x0 &&& (3 : Int32)))] [(.int (x0 &&& (3 : Int32)))])) _
        refine XS.iconst X0.here hx rfl (hb hby d13_20) ?_
        exact kt_
      by_cases hc6 : (x0 &&& (3 : Int32)) = (1 : Int32)
      · obtain ⟨fs, hr, hrun, hended, hW, hsame⟩ := X0.leave (v := some (.int (9 : Int32))) (fun h => by rw [Bd.returns] at h; cases h)
        refine ⟨_, _, pre5 _ ?_, hrun, hended, _, _, rfl, ?_, ⟨_, rfl⟩, hW, hsame.mono (by decide) (by decide)⟩
        · refine XS.icmpNo X0.here hx rfl (hb hby d13_21) rfl (teq hc6).2 ?_
          refine XS.bipush X0.here hx rfl (hb hby d13_24) ?_
          show Steps p.tables e below (s₁.setTop (mkF m 26 #[.val (.int x0), .val (.int (x0 &&& (3 : Int32)))] [(.int (9 : Int32))])) _
          exact retN X0 hx (t := .char) Bd.returns (by simp) (hb hby d13_26) hr
        · show Qch Z x0 h0 n0 _ s₁.heap _
          rw [e0]
          exact ⟨(9 : Int32), rfl, N0, rfl, (⟨by decide, by decide⟩)⟩
      · have pre7 : ∀ tg_, Steps p.tables e below (s₁.setTop (mkF m 29 #[.val (.int x0), .val (.int (x0 &&& (3 : Int32)))] [(.int (2 : Int32)), (.int (x0 &&& (3 : Int32)))])) tg_ → Steps p.tables e below (s₁.setTop (entryFrame m #[(.int x0)] 2)) tg_ := by
          intro tg_ kt_
          refine pre5 tg_ ?_
          refine XS.icmpYes X0.here hx rfl (pc0 := 21) (pc' := 27) rfl (hb hby d13_21) rfl (feq hc6).2 (by decide) (by decide) ?_
          refine XS.iloadN X0.here hx rfl (hb hby d13_27) rfl ?_
          refine XS.iconst X0.here hx rfl (hb hby d13_28) ?_
          exact kt_
        by_cases hc8 : (x0 &&& (3 : Int32)) = (2 : Int32)
        · obtain ⟨fs, hr, hrun, hended, hW, hsame⟩ := X0.leave (v := some (.int (10 : Int32))) (fun h => by rw [Bd.returns] at h; cases h)
          refine ⟨_, _, pre7 _ ?_, hrun, hended, _, _, rfl, ?_, ⟨_, rfl⟩, hW, hsame.mono (by decide) (by decide)⟩
          · show Steps p.tables e below (s₁.setTop (mkF m 29 #[.val (.int x0), .val (.int (x0 &&& (3 : Int32)))] [(.int (2 : Int32)), (.int (x0 &&& (3 : Int32)))])) _
            refine XS.icmpNo X0.here hx rfl (hb hby d13_29) rfl (teq hc8).2 ?_
            refine XS.bipush X0.here hx rfl (hb hby d13_32) ?_
            show Steps p.tables e below (s₁.setTop (mkF m 34 #[.val (.int x0), .val (.int (x0 &&& (3 : Int32)))] [(.int (10 : Int32))])) _
            exact retN X0 hx (t := .char) Bd.returns (by simp) (hb hby d13_34) hr
          · show Qch Z x0 h0 n0 _ s₁.heap _
            rw [e0]
            exact ⟨(10 : Int32), rfl, N0, rfl, (⟨by decide, by decide⟩)⟩
        · obtain ⟨fs, hr, hrun, hended, hW, hsame⟩ := X0.leave (v := some (.int (13 : Int32))) (fun h => by rw [Bd.returns] at h; cases h)
          refine ⟨_, _, pre7 _ ?_, hrun, hended, _, _, rfl, ?_, ⟨_, rfl⟩, hW, hsame.mono (by decide) (by decide)⟩
          · show Steps p.tables e below (s₁.setTop (mkF m 29 #[.val (.int x0), .val (.int (x0 &&& (3 : Int32)))] [(.int (2 : Int32)), (.int (x0 &&& (3 : Int32)))])) _
            refine XS.icmpYes X0.here hx rfl (pc0 := 29) (pc' := 35) rfl (hb hby d13_29) rfl (feq hc8).2 (by decide) (by decide) ?_
            refine XS.bipush X0.here hx rfl (hb hby d13_35) ?_
            show Steps p.tables e below (s₁.setTop (mkF m 37 #[.val (.int x0), .val (.int (x0 &&& (3 : Int32)))] [(.int (13 : Int32))])) _
            exact retN X0 hx (t := .char) Bd.returns (by simp) (hb hby d13_37) hr
          · show Qch Z x0 h0 n0 _ s₁.heap _
            rw [e0]
            exact ⟨(13 : Int32), rfl, N0, rfl, (⟨by decide, by decide⟩)⟩
theorem w_57 : (Jvm.Cond.methodLink "com/example/shelfmark/shelfmark/records/TextTrimPinLaw" (33 : Nat) ({ cls := "java/lang/Math", name := "min", desc := "(II)I" } : Jvm.MethodName)) ∈ tables_1 := List.mem_of_getElem? (i := 57) (by decide +kernel)
theorem w_61 : (Jvm.Cond.methodLink "com/example/shelfmark/shelfmark/records/TextTrimPinLaw" (46 : Nat) ({ cls := "com/example/shelfmark/shelfmark/records/TextTrimPinLaw", name := "place", desc := "([CLjava/lang/String;III)Z" } : Jvm.MethodName)) ∈ tables_1 := List.mem_of_getElem? (i := 61) (by decide +kernel)
theorem w_63 : (Jvm.Cond.code ({ cls := "com/example/shelfmark/shelfmark/records/TextTrimPinLaw", name := "place", desc := "([CLjava/lang/String;III)Z" } : Jvm.MethodName) method_3_code (5 : Nat) (Option.some Jvm.ClassFile.FieldType.boolean)) ∈ tables_1 := List.mem_of_getElem? (i := 63) (by decide +kernel)
theorem pd__ACLjava_lang_String_III_Z : parseMethodDescriptor "([CLjava/lang/String;III)Z" = some ⟨[(.array .char), (.object "java/lang/String"), .int, .int, .int], some .boolean⟩ := by decide +kernel
theorem w_62 : (Jvm.Cond.static ({ cls := "com/example/shelfmark/shelfmark/records/TextTrimPinLaw", name := "place", desc := "([CLjava/lang/String;III)Z" } : Jvm.MethodName)) ∈ tables_1 := List.mem_of_getElem? (i := 62) (by decide +kernel)
theorem w_52 : (Jvm.Cond.methodLink "com/example/shelfmark/shelfmark/records/TextTrimPinLaw" (25 : Nat) ({ cls := "java/lang/String", name := "length", desc := "()I" } : Jvm.MethodName)) ∈ tables_1 := List.mem_of_getElem? (i := 52) (by decide +kernel)
theorem w_53 : (Jvm.Cond.methodLink "com/example/shelfmark/shelfmark/records/TextTrimPinLaw" (29 : Nat) ({ cls := "com/example/shelfmark/shelfmark/records/TextTrimPinLaw", name := "ws", desc := "([CI)Z" } : Jvm.MethodName)) ∈ tables_1 := List.mem_of_getElem? (i := 53) (by decide +kernel)
theorem w_56 : (Jvm.Cond.code ({ cls := "com/example/shelfmark/shelfmark/records/TextTrimPinLaw", name := "ws", desc := "([CI)Z" } : Jvm.MethodName) method_4_code (2 : Nat) (Option.some Jvm.ClassFile.FieldType.boolean)) ∈ tables_1 := List.mem_of_getElem? (i := 56) (by decide +kernel)
theorem pd__ACI_Z : parseMethodDescriptor "([CI)Z" = some ⟨[(.array .char), .int], some .boolean⟩ := by decide +kernel
theorem w_54 : (Jvm.Cond.static ({ cls := "com/example/shelfmark/shelfmark/records/TextTrimPinLaw", name := "ws", desc := "([CI)Z" } : Jvm.MethodName)) ∈ tables_1 := List.mem_of_getElem? (i := 54) (by decide +kernel)
theorem w_0 : (Jvm.Cond.constant "com/example/shelfmark/shelfmark/records/TextTrimPinLaw" (7 : Nat) (2147483647 : Int32)) ∈ tables_1 := List.mem_of_getElem? (i := 0) (by decide +kernel)
theorem w_1 : (Jvm.Cond.arrayClass Jvm.ClassFile.FieldType.char) ∈ tables_1 := List.mem_of_getElem? (i := 1) (by decide +kernel)
theorem w_2 : (Jvm.Cond.classLink "com/example/shelfmark/shelfmark/records/TextTrimPinLaw" (14 : Nat) "java/lang/String") ∈ tables_1 := List.mem_of_getElem? (i := 2) (by decide +kernel)
theorem w_5 : (Jvm.Cond.methodLink "com/example/shelfmark/shelfmark/records/TextTrimPinLaw" (16 : Nat) ({ cls := "java/lang/String", name := "<init>", desc := "([C)V" } : Jvm.MethodName)) ∈ tables_1 := List.mem_of_getElem? (i := 5) (by decide +kernel)
theorem w_7 : (Jvm.Cond.code ({ cls := "java/lang/String", name := "<init>", desc := "([C)V" } : Jvm.MethodName) jdk_42_method_3_code (2 : Nat) (Option.none : Option Jvm.ClassFile.FieldType)) ∈ tables_1 := List.mem_of_getElem? (i := 7) (by decide +kernel)
theorem pd__AC_V : parseMethodDescriptor "([C)V" = some ⟨[(.array .char)], none⟩ := by decide +kernel
theorem w_6 : (Jvm.Cond.instanceMethod ({ cls := "java/lang/String", name := "<init>", desc := "([C)V" } : Jvm.MethodName)) ∈ tables_1 := List.mem_of_getElem? (i := 6) (by decide +kernel)
theorem w_23 : (Jvm.Cond.methodLink "com/example/shelfmark/shelfmark/records/TextTrimPinLaw" (19 : Nat) ({ cls := "com/example/shelfmark/shelfmark/records/Text", name := "trim", desc := "(Ljava/lang/String;)Ljava/lang/String;" } : Jvm.MethodName)) ∈ tables_1 := List.mem_of_getElem? (i := 23) (by decide +kernel)
theorem w_26 : (Jvm.Cond.code ({ cls := "com/example/shelfmark/shelfmark/records/Text", name := "trim", desc := "(Ljava/lang/String;)Ljava/lang/String;" } : Jvm.MethodName) prog_56_method_4_code (3 : Nat) (Option.some (Jvm.ClassFile.FieldType.object "java/lang/String"))) ∈ tables_1 := List.mem_of_getElem? (i := 26) (by decide +kernel)
theorem pd__Ljava_lang_String__Ljava_lang_String_ : parseMethodDescriptor "(Ljava/lang/String;)Ljava/lang/String;" = some ⟨[(.object "java/lang/String")], some (.object "java/lang/String")⟩ := by decide +kernel
theorem w_24 : (Jvm.Cond.static ({ cls := "com/example/shelfmark/shelfmark/records/Text", name := "trim", desc := "(Ljava/lang/String;)Ljava/lang/String;" } : Jvm.MethodName)) ∈ tables_1 := List.mem_of_getElem? (i := 24) (by decide +kernel)
theorem w_64 : (Jvm.Cond.methodLink "com/example/shelfmark/shelfmark/records/TextTrimPinLaw" (8 : Nat) ({ cls := "com/example/shelfmark/shelfmark/records/TextTrimPinLaw", name := "ch", desc := "(I)C" } : Jvm.MethodName)) ∈ tables_1 := List.mem_of_getElem? (i := 64) (by decide +kernel)
theorem w_66 : (Jvm.Cond.code ({ cls := "com/example/shelfmark/shelfmark/records/TextTrimPinLaw", name := "ch", desc := "(I)C" } : Jvm.MethodName) method_6_code (2 : Nat) (Option.some Jvm.ClassFile.FieldType.char)) ∈ tables_1 := List.mem_of_getElem? (i := 66) (by decide +kernel)
theorem w_65 : (Jvm.Cond.static ({ cls := "com/example/shelfmark/shelfmark/records/TextTrimPinLaw", name := "ch", desc := "(I)C" } : Jvm.MethodName)) ∈ tables_1 := List.mem_of_getElem? (i := 65) (by decide +kernel)
theorem ef_law (m : MethodId) (x0 : Int32) (x1 : Int32) (x2 : Int32) (x3 : Int32) (x4 : Int32) : entryFrame m #[(.int x0), (.int x1), (.int x2), (.int x3), (.int x4)] maxLocals = mkF m 0 #[.val (.int x0), .val (.int x1), .val (.int x2), .val (.int x3), .val (.int x4), .unset, .unset, .unset, .unset, .unset, .unset, .unset, .unset, .unset, .unset] [] := by first | (simp [entryFrame, mkF, argsToLocals, Value.category, maxLocals]; done) | rfl
def Qlaw (Z : State) (i0 : Int32) (i1 : Int32) (i2 : Int32) (i3 : Int32) (i4 : Int32) (cz : Int32) (sf : Value) (h0 : Heap) (n0 : Nat) (v : Option Value) (h : Heap) (L : List Loc) : Prop := v = some (.int (1 : Int32)) ∧ Fr n0 L ∧ Keep h0 h []
set_option maxRecDepth 65536 in
set_option maxHeartbeats 40000000 in
theorem rmlaw (l : Launch) (Z : State) (a0 : Array Value) (hw : ∀ d ∈ tables_1, d.before a0 Z = true) (ws : List Jvm.Cond) (i0 : Int32) (i1 : Int32) (i2 : Int32) (i3 : Int32) (i4 : Int32) (cz : Int32) (sf : Value) (h0 : Heap) (n0 : Nat) (O0 : Old Z n0 h0) (hp0 : Sta Z Z.heap "java/lang/String" "COMPACT_STRINGS" "Z" (.int cz)) (hcz : (¬ (cz = (0 : Int32)))) (hp2 : Sta Z Z.heap "jdk/internal/util/Preconditions" "SIOOBE_FORMATTER" "Ljava/util/function/BiFunction;" sf) (hsf : (sf.isRef = true)) :
    MetFree l x (head1 (Jvm.Cond.code x code maxLocals ret :: ws) room_1) (fun as_ U => as_ = #[(.int i0), (.int i1), (.int i2), (.int i3), (.int i4)] ∧ Z.Warmed39 U.vm ∧ U.heap = h0 ∧ CHv Z own_EL U.vm h0) (fun _ _ _ _ _ => True) (fun _ U o U' => ∃ v L, o = .returned v ∧ Qlaw Z i0 i1 i2 i3 i4 cz sf h0 n0 v U'.heap L ∧ CHr Z own_EL U.vm U.heap U'.vm U'.heap ∧ ReturnedEndW U o U' L room_1.cells room_1.slots) := by
  refine MetFree.of_bodySF (plainFor_of_name pn_com_example_shelfmark_shelfmark_records_TextTrimPinLaw) hisR ?_
  intro p e s m args below meth c s₁ Bd hml0 hP hK
  obtain ⟨rfl, hZ, hh, HC0⟩ := hP
  have hx := Bd.exec
  have hby := Bd.bytes
  have hml : c.maxLocals = 15 := hml0
  have hown : s.vm.findClass "com/example/shelfmark/shelfmark/records/TextTrimPinLaw" = some m.cls := findClass_of_methodNamed Bd.named
  have hnm := (name_of_methodNamed Bd.named Bd.method).1
  have X0 : Stand p l e room_1 (s.setVm s.vm) m #[(.int i0), (.int i1), (.int i2), (.int i3), (.int i4)] below meth c s₁ [] 0 0 := Stand.of_body Bd
  have hS : s.Since s.vm 0 := (State.WarmedH.refl s).since 0
  have hk : 0 ≤ h0.size := Nat.zero_le _
  have hEL := own_EW hw
  have wS := own_wS hw
  have hZ : Z.Warmed39 (s.setVm s.vm).vm := hZ
  have hown : (s.setVm s.vm).vm.findClass "com/example/shelfmark/shelfmark/records/TextTrimPinLaw" = some m.cls := hown
  have e0 : s₁.heap = h0 := by rw [← hh, Bd.state]; rfl
  have N0 := Fr.nil n0
  have Z0 := own_z0 O0
  have pre0 : ∀ tg_, Steps p.tables e below (s₁.setTop (mkF m 0 #[.val (.int i0), .val (.int i1), .val (.int i2), .val (.int i3), .val (.int i4), .unset, .unset, .unset, .unset, .unset, .unset, .unset, .unset, .unset, .unset] [])) tg_ → Steps p.tables e below (s₁.setTop (entryFrame m #[(.int i0), (.int i1), (.int i2), (.int i3), (.int i4)] maxLocals)) tg_ := fun tg_ kt_ => castTop (ef_law m i0 i1 i2 i3 i4) kt_
  refine own_cut (fun G_ => ∀ (vm_ : Vm) (kk_ : Nat) (T_ : State) (h_ : Heap) (L_ : List Loc) (N : Nat) (b : Addr) (kb : ClassId) (cs : List Int32) (a : Addr) (t : Addr) (kt : ClassId) (us : List Int32) (k : Nat) (M : Nat) (y7 : Slot) (pp : Int32) (X_ : Stand p l e room_1 (s.setVm vm_) m #[(.int i0), (.int i1), (.int i2), (.int i3), (.int i4)] below meth c T_ L_ 24 2176) (e_ : T_.heap = h_) (hS : s.Since vm_ kk_) (hk : kk_ ≤ h_.size) (hZ : Z.Warmed39 (s.setVm vm_).vm) (hown : (s.setVm vm_).vm.findClass "com/example/shelfmark/shelfmark/records/TextTrimPinLaw" = some m.cls) (O_ : Old Z n0 h_) (K_ : Keep h0 h_ []) (N_ : Fr n0 L_) (HC_ : CHv Z own_EL vm_ h_) (RC_ : CHr Z own_EL s.vm h0 vm_ h_) (hj0 : Arv Z h_ b kb .char (own_i N) (cs.map Value.int) (.int (0 : Int32))) (hj1 : Exa Z h_ a "java/lang/String") (hj2 : Fld Z h_ a "java/lang/String" "value" "[B" (.ref t)) (hj3 : Fld Z h_ a "java/lang/String" "coder" "B" (.int (0 : Int32))) (hj4 : Arv Z h_ t kt .byte (own_i M) (us.map Value.int) (.int (0 : Int32))) (hN : (N ≤ 4)) (hpf : (own_pf N cs = own_i k)) (hkM : (k + M ≤ N)) (hpin : (∀ i, i < N → ¬ i < k → i < k + M → (own_u us (i - k)) = cs.getD i 0)) (hout : (∀ i, i < N → (i < k ∨ ¬ i < k + M) → own_w (cs.getD i 0) = 1)) (hend : (0 < M → own_w (own_u us 0) = 0 ∧ own_w (own_u us (M - 1)) = 0)) (hpp : (pp = own_i k)) (pre_ : ∀ tg_, Steps p.tables e below (T_.setTop (mkF m 164 #[.val (.int i0), .val (.int i1), .val (.int i2), .val (.int i3), .val (.int i4), .val (.int (own_i N)), .val (.ref b), y7, .val (.ref a), .val (.int (own_i M)), .val (.int (own_wa N cs 0)), .val (.int (own_wa N cs 1)), .val (.int (own_wa N cs 2)), .val (.int (own_wa N cs 3)), .unset] [(.int pp)])) tg_ → Steps p.tables e below (s₁.setTop (entryFrame m #[(.int i0), (.int i1), (.int i2), (.int i3), (.int i4)] maxLocals)) tg_), G_) ?_ ?_
  · intro vm_ kk_ T_ h_ L_ N b kb cs a t kt us k M y7 pp X_ e_ hS hk hZ hown O_ K_ N_ HC_ RC_ hj0 hj1 hj2 hj3 hj4 hN hpf hkM hpin hout hend hpp pre_
    rw [show pp = (own_i k) from hpp] at pre_
    obtain ⟨_, _, ⟨T1, L1, k1, n1⟩, -, X1, ⟨Lc1, hQ1, l1, y1, z1⟩, st1⟩ := Jvm.LawKit.callS X_ hx (y := mN0) hown (mvT hZ (hw _ w_57)) (mvT hZ (hw _ w_58)) (mvT hZ (hw _ w_59)) (mvT hZ (hw _ w_60)) (by decide) (backOf (W := 0) (rmminL l Z a0 hw [] (own_i k) (own_i N) h_ n0 O_ (by rw [own_ilt (by omega) (by omega)]; omega)) hZ (hw _ w_60) (hw _ w_59) (by decide) (by decide)) (g := (mkF m 170 #[.val (.int i0), .val (.int i1), .val (.int i2), .val (.int i3), .val (.int i4), .val (.int (own_i N)), .val (.ref b), y7, .val (.ref a), .val (.int (own_i M)), .val (.int (own_wa N cs 0)), .val (.int (own_wa N cs 1)), .val (.int (own_wa N cs 2)), .val (.int (own_wa N cs 3)), .val (.int (own_i k))] [(.int (own_i N)), (.int (own_i k))])) rfl (by rw [hml]; rfl) (argsL := [(.int (own_i k)), (.int (own_i N))]) (rest := []) (lenOf pd__II_I rfl) rfl (by show 2 * 0 + _ ≤ _; exact Nat.le_of_eq rfl) (hb hby at_170) (fun _ _ => ⟨rfl, e_, (by decide : 24 + 0 ≤ _), (by decide : 2176 + 0 ≤ _)⟩)
    dsimp only [Pt.U, Pt.locs, Pt.cells, Pt.slots] at X1 l1 y1 z1 st1 hQ1
    subst l1 y1 z1
    obtain ⟨rfl, N1q, eh1⟩ := hQ1
    have N1 := Fr.app N_ N1q
    have pre2 : ∀ tg_, Steps p.tables e below (T1.setTop (mkF m 180 #[.val (.int i0), .val (.int i1), .val (.int i2), .val (.int i3), .val (.int i4), .val (.int (own_i N)), .val (.ref b), y7, .val (.ref a), .val (.int (own_i M)), .val (.int (own_wa N cs 0)), .val (.int (own_wa N cs 1)), .val (.int (own_wa N cs 2)), .val (.int (own_wa N cs 3)), .val (.int (own_i k))] [(.int ((own_i k) + (own_i M)))])) tg_ → Steps p.tables e below (s₁.setTop (entryFrame m #[(.int i0), (.int i1), (.int i2), (.int i3), (.int i4)] maxLocals)) tg_ := by
      intro tg_ kt_
      refine pre_ tg_ ?_
      refine XS.istore X_.here hx rfl (hb hby at_164) rfl (l' := #[.val (.int i0), .val (.int i1), .val (.int i2), .val (.int i3), .val (.int i4), .val (.int (own_i N)), .val (.ref b), y7, .val (.ref a), .val (.int (own_i M)), .val (.int (own_wa N cs 0)), .val (.int (own_wa N cs 1)), .val (.int (own_wa N cs 2)), .val (.int (own_wa N cs 3)), .val (.int (own_i k))]) rfl ?_
      refine XS.iload X_.here hx rfl (hb hby at_166) rfl ?_
      refine XS.iload X_.here hx rfl (hb hby at_168) rfl ?_
      show Steps p.tables e below (T_.setTop (mkF m 170 #[.val (.int i0), .val (.int i1), .val (.int i2), .val (.int i3), .val (.int i4), .val (.int (own_i N)), .val (.ref b), y7, .val (.ref a), .val (.int (own_i M)), .val (.int (own_wa N cs 0)), .val (.int (own_wa N cs 1)), .val (.int (own_wa N cs 2)), .val (.int (own_wa N cs 3)), .val (.int (own_i k))] [(.int (own_i N)), (.int (own_i k))])) _
      refine st1 _ ?_
      refine XS.istore X1.here hx rfl (hb hby at_173) rfl (l' := #[.val (.int i0), .val (.int i1), .val (.int i2), .val (.int i3), .val (.int i4), .val (.int (own_i N)), .val (.ref b), y7, .val (.ref a), .val (.int (own_i M)), .val (.int (own_wa N cs 0)), .val (.int (own_wa N cs 1)), .val (.int (own_wa N cs 2)), .val (.int (own_wa N cs 3)), .val (.int (own_i k))]) rfl ?_
      refine XS.iload X1.here hx rfl (hb hby at_175) rfl ?_
      refine XS.iload X1.here hx rfl (hb hby at_177) rfl ?_
      show Steps p.tables e below (T1.setTop (mkF m 179 #[.val (.int i0), .val (.int i1), .val (.int i2), .val (.int i3), .val (.int i4), .val (.int (own_i N)), .val (.ref b), y7, .val (.ref a), .val (.int (own_i M)), .val (.int (own_wa N cs 0)), .val (.int (own_wa N cs 1)), .val (.int (own_wa N cs 2)), .val (.int (own_wa N cs 3)), .val (.int (own_i k))] [(.int (own_i M)), (.int (own_i k))])) _
      refine XS.iadd X1.here hx rfl (hb hby at_179) rfl ?_
      exact kt_
    rw [show ((own_i k) + (own_i M)) = (own_i (k + M)) from own_iadd _ _] at pre2
    have pre3 : ∀ tg_, Steps p.tables e below (T1.setTop (mkF m 189 #[.val (.int i0), .val (.int i1), .val (.int i2), .val (.int i3), .val (.int i4), .val (.int (own_i N)), .val (.ref b), y7, .val (.ref a), .val (.int (own_i M)), .val (.int (own_wa N cs 0)), .val (.int (own_wa N cs 1)), .val (.int (own_wa N cs 2)), .val (.int (own_wa N cs 3)), .val (.int (own_i k))] [(.int (own_i M))])) tg_ → Steps p.tables e below (s₁.setTop (entryFrame m #[(.int i0), (.int i1), (.int i2), (.int i3), (.int i4)] maxLocals)) tg_ := by
      intro tg_ kt_
      refine pre2 tg_ ?_
      refine XS.iload X1.here hx rfl (hb hby at_180) rfl ?_
      refine XS.icmpYes X1.here hx rfl (pc0 := 182) (pc' := 187) rfl (hb hby at_182) rfl (flt (by rw [own_ilt (by omega) (by omega)]; omega : ¬ ((own_i N) < (own_i (k + M))))).2.2.2 (by decide) (by decide) ?_
      refine XS.iload X1.here hx rfl (hb hby at_187) rfl ?_
      exact kt_
    by_cases hc4 : (0 : Int32) < (own_i M)
    · obtain ⟨cq5, kq5, q5a, q5b, q5c⟩ := isOf hZ eh1 hj1
      obtain ⟨_, _, ⟨T5, L5, k5, n5⟩, -, X5, ⟨Lc5, hQ5, l5, y5, z5⟩, st5⟩ := X1.virtualBack hx (y := mN7) (z := mN7) hown (mvT hZ (hw _ w_103)) (mvT hZ (hw _ w_78)) (notFace_of_selects (args := #[]) (mvT hZ (hw _ w_80))) (mvT hZ (hw _ w_80)) (mvT hZ (hw _ w_79)) (by decide) (backOf (W := 0) (rmschr l Z a0 hw [] a 0 sf cz t kt M us h_ n0 O_ hj1 hj2 hj3 hj4 hp0 hcz hp2 hsf (by have q := ((own_ilt (a := 0) (by decide) (by omega)).mp hc4); omega) (by omega)) hZ (hw _ w_81) (hw _ w_4) (by decide) (by decide)) q5a q5c (g := (mkF m 195 #[.val (.int i0), .val (.int i1), .val (.int i2), .val (.int i3), .val (.int i4), .val (.int (own_i N)), .val (.ref b), y7, .val (.ref a), .val (.int (own_i M)), .val (.int (own_wa N cs 0)), .val (.int (own_wa N cs 1)), .val (.int (own_wa N cs 2)), .val (.int (own_wa N cs 3)), .val (.int (own_i k))] [(.int (0 : Int32)), (.ref a)])) rfl (by rw [hml]; rfl) (Steps.refl _) (argsL := [(.int (0 : Int32))]) (rest := []) (lenOf pd__I_C rfl) rfl (by show 2 * 0 + _ ≤ _; exact Nat.le_of_eq rfl) (hb hby at_195) (fun _ _ => ⟨rfl, eh1, (by decide : 24 + 0 ≤ _), (by decide : 2176 + 0 ≤ _)⟩)
      dsimp only [Pt.U, Pt.locs, Pt.cells, Pt.slots] at X5 l5 y5 z5 st5 hQ5
      subst l5 y5 z5
      obtain ⟨rfl, N5q, eh5⟩ := hQ5
      have N5 := Fr.app N1 N5q
      obtain ⟨_, _, ⟨T6, L6, k6, n6⟩, -, X6, ⟨Lc6, hQ6, l6, y6, z6⟩, st6⟩ := Jvm.LawKit.callS X5 hx (y := mN9) hown (mvT hZ (hw _ w_100)) (mvT hZ (hw _ w_101)) (mvT hZ (hw _ w_55)) (mvT hZ (hw _ w_102)) (by decide) (backOf (W := 0) (rmisWs l Z a0 hw [] (own_u us 0) h_ n0 O_ ) hZ (hw _ w_102) (hw _ w_55) (by decide) (by decide)) (g := (mkF m 198 #[.val (.int i0), .val (.int i1), .val (.int i2), .val (.int i3), .val (.int i4), .val (.int (own_i N)), .val (.ref b), y7, .val (.ref a), .val (.int (own_i M)), .val (.int (own_wa N cs 0)), .val (.int (own_wa N cs 1)), .val (.int (own_wa N cs 2)), .val (.int (own_wa N cs 3)), .val (.int (own_i k))] [(.int (own_u us 0))])) rfl (by rw [hml]; rfl) (argsL := [(.int (own_u us 0))]) (rest := []) (lenOf pd__C_Z rfl) rfl (by show 2 * 0 + _ ≤ _; exact Nat.le_of_eq rfl) (hb hby at_198) (fun _ _ => ⟨rfl, eh5, (by decide : 24 + 0 ≤ _), (by decide : 2176 + 0 ≤ _)⟩)
      dsimp only [Pt.U, Pt.locs, Pt.cells, Pt.slots] at X6 l6 y6 z6 st6 hQ6
      subst l6 y6 z6
      obtain ⟨rfl, N6q, eh6⟩ := hQ6
      have N6 := Fr.app N5 N6q
      have pre7 : ∀ tg_, Steps p.tables e below (T6.setTop (mkF m 210 #[.val (.int i0), .val (.int i1), .val (.int i2), .val (.int i3), .val (.int i4), .val (.int (own_i N)), .val (.ref b), y7, .val (.ref a), .val (.int (own_i M)), .val (.int (own_wa N cs 0)), .val (.int (own_wa N cs 1)), .val (.int (own_wa N cs 2)), .val (.int (own_wa N cs 3)), .val (.int (own_i k))] [(.int ((own_i M) - (1 : Int32))), (.ref a)])) tg_ → Steps p.tables e below (s₁.setTop (entryFrame m #[(.int i0), (.int i1), (.int i2), (.int i3), (.int i4)] maxLocals)) tg_ := by
        intro tg_ kt_
        refine pre3 tg_ ?_
        show Steps p.tables e below (T1.setTop (mkF m 189 #[.val (.int i0), .val (.int i1), .val (.int i2), .val (.int i3), .val (.int i4), .val (.int (own_i N)), .val (.ref b), y7, .val (.ref a), .val (.int (own_i M)), .val (.int (own_wa N cs 0)), .val (.int (own_wa N cs 1)), .val (.int (own_wa N cs 2)), .val (.int (own_wa N cs 3)), .val (.int (own_i k))] [(.int (own_i M))])) _
        refine XS.ifNo X1.here hx rfl (hb hby at_189) rfl ((if0 _ _).trans (tlt hc4).2.2.2) ?_
        refine XS.aload X1.here hx rfl (hb hby at_192) rfl rfl ?_
        refine XS.iconst X1.here hx rfl (hb hby at_194) ?_
        show Steps p.tables e below (T1.setTop (mkF m 195 #[.val (.int i0), .val (.int i1), .val (.int i2), .val (.int i3), .val (.int i4), .val (.int (own_i N)), .val (.ref b), y7, .val (.ref a), .val (.int (own_i M)), .val (.int (own_wa N cs 0)), .val (.int (own_wa N cs 1)), .val (.int (own_wa N cs 2)), .val (.int (own_wa N cs 3)), .val (.int (own_i k))] [(.int (0 : Int32)), (.ref a)])) _
        refine st5.trans ?_
        show Steps p.tables e below (T5.setTop (mkF m 198 #[.val (.int i0), .val (.int i1), .val (.int i2), .val (.int i3), .val (.int i4), .val (.int (own_i N)), .val (.ref b), y7, .val (.ref a), .val (.int (own_i M)), .val (.int (own_wa N cs 0)), .val (.int (own_wa N cs 1)), .val (.int (own_wa N cs 2)), .val (.int (own_wa N cs 3)), .val (.int (own_i k))] [(.int (own_u us 0))])) _
        refine st6 _ ?_
        refine XS.ifNo X6.here hx rfl (hb hby at_201) rfl ((if0 _ _).trans (teq ((hend ((own_ilt (a := 0) (by decide) (by omega)).mp hc4)).1 : (own_w (own_u us 0)) = (0 : Int32))).2) ?_
        refine XS.aload X6.here hx rfl (hb hby at_204) rfl rfl ?_
        refine XS.iload X6.here hx rfl (hb hby at_206) rfl ?_
        show Steps p.tables e below (T6.setTop (mkF m 208 #[.val (.int i0), .val (.int i1), .val (.int i2), .val (.int i3), .val (.int i4), .val (.int (own_i N)), .val (.ref b), y7, .val (.ref a), .val (.int (own_i M)), .val (.int (own_wa N cs 0)), .val (.int (own_wa N cs 1)), .val (.int (own_wa N cs 2)), .val (.int (own_wa N cs 3)), .val (.int (own_i k))] [(.int (own_i M)), (.ref a)])) _
        refine XS.iconst X6.here hx rfl (hb hby at_208) ?_
        refine XS.isub X6.here hx rfl (hb hby at_209) rfl ?_
        exact kt_
      rw [show ((own_i M) - (1 : Int32)) = (own_i (M - 1)) from own_isub (b := 1) ((own_ilt (a := 0) (by decide) (by omega)).mp hc4)] at pre7
      obtain ⟨cq8, kq8, q8a, q8b, q8c⟩ := isOf hZ eh6 hj1
      obtain ⟨_, _, ⟨T8, L8, k8, n8⟩, -, X8, ⟨Lc8, hQ8, l8, y8, z8⟩, st8⟩ := X6.virtualBack hx (y := mN7) (z := mN7) hown (mvT hZ (hw _ w_103)) (mvT hZ (hw _ w_78)) (notFace_of_selects (args := #[]) (mvT hZ (hw _ w_80))) (mvT hZ (hw _ w_80)) (mvT hZ (hw _ w_79)) (by decide) (backOf (W := 0) (rmschr l Z a0 hw [] a (M - 1) sf cz t kt M us h_ n0 O_ hj1 hj2 hj3 hj4 hp0 hcz hp2 hsf (by have q := ((own_ilt (a := 0) (by decide) (by omega)).mp hc4); omega) (by omega)) hZ (hw _ w_81) (hw _ w_4) (by decide) (by decide)) q8a q8c (g := (mkF m 210 #[.val (.int i0), .val (.int i1), .val (.int i2), .val (.int i3), .val (.int i4), .val (.int (own_i N)), .val (.ref b), y7, .val (.ref a), .val (.int (own_i M)), .val (.int (own_wa N cs 0)), .val (.int (own_wa N cs 1)), .val (.int (own_wa N cs 2)), .val (.int (own_wa N cs 3)), .val (.int (own_i k))] [(.int (own_i (M - 1))), (.ref a)])) rfl (by rw [hml]; rfl) (Steps.refl _) (argsL := [(.int (own_i (M - 1)))]) (rest := []) (lenOf pd__I_C rfl) rfl (by show 2 * 0 + _ ≤ _; exact Nat.le_of_eq rfl) (hb hby at_210) (fun _ _ => ⟨rfl, eh6, (by decide : 24 + 0 ≤ _), (by decide : 2176 + 0 ≤ _)⟩)
      dsimp only [Pt.U, Pt.locs, Pt.cells, Pt.slots] at X8 l8 y8 z8 st8 hQ8
      subst l8 y8 z8
      obtain ⟨rfl, N8q, eh8⟩ := hQ8
      have N8 := Fr.app N6 N8q
      obtain ⟨_, _, ⟨T9, L9, k9, n9⟩, -, X9, ⟨Lc9, hQ9, l9, y9, z9⟩, st9⟩ := Jvm.LawKit.callS X8 hx (y := mN9) hown (mvT hZ (hw _ w_100)) (mvT hZ (hw _ w_101)) (mvT hZ (hw _ w_55)) (mvT hZ (hw _ w_102)) (by decide) (backOf (W := 0) (rmisWs l Z a0 hw [] (own_u us (M - 1)) h_ n0 O_ ) hZ (hw _ w_102) (hw _ w_55) (by decide) (by decide)) (g := (mkF m 213 #[.val (.int i0), .val (.int i1), .val (.int i2), .val (.int i3), .val (.int i4), .val (.int (own_i N)), .val (.ref b), y7, .val (.ref a), .val (.int (own_i M)), .val (.int (own_wa N cs 0)), .val (.int (own_wa N cs 1)), .val (.int (own_wa N cs 2)), .val (.int (own_wa N cs 3)), .val (.int (own_i k))] [(.int (own_u us (M - 1)))])) rfl (by rw [hml]; rfl) (argsL := [(.int (own_u us (M - 1)))]) (rest := []) (lenOf pd__C_Z rfl) rfl (by show 2 * 0 + _ ≤ _; exact Nat.le_of_eq rfl) (hb hby at_213) (fun _ _ => ⟨rfl, eh8, (by decide : 24 + 0 ≤ _), (by decide : 2176 + 0 ≤ _)⟩)
      dsimp only [Pt.U, Pt.locs, Pt.cells, Pt.slots] at X9 l9 y9 z9 st9 hQ9
      subst l9 y9 z9
      obtain ⟨rfl, N9q, eh9⟩ := hQ9
      have N9 := Fr.app N8 N9q
      obtain ⟨_, _, ⟨T10, L10, k10, n10⟩, -, X10, ⟨Lc10, hQ10, l10, y10, z10⟩, st10⟩ := Jvm.LawKit.callS X9 hx (y := mN22) hown (mvT hZ (hw _ w_61)) (mvT hZ (hw _ w_62)) (mvT hZ (hw _ w_55)) (mvT hZ (hw _ w_63)) (by decide) (backOf (W := 0) (rmplace l Z a0 hw [] b a 0 k M cz t kt us sf kb N cs h_ n0 O_ hj0 hj1 hj2 hj3 hj4 hp0 hcz hp2 hsf hN (by decide) hkM hpin hout) hZ (hw _ w_63) (hw _ w_55) (by decide) (by decide)) (g := (mkF m 230 #[.val (.int i0), .val (.int i1), .val (.int i2), .val (.int i3), .val (.int i4), .val (.int (own_i N)), .val (.ref b), y7, .val (.ref a), .val (.int (own_i M)), .val (.int (own_wa N cs 0)), .val (.int (own_wa N cs 1)), .val (.int (own_wa N cs 2)), .val (.int (own_wa N cs 3)), .val (.int (own_i k))] [(.int (0 : Int32)), (.int (own_i M)), (.int (own_i k)), (.ref a), (.ref b)])) rfl (by rw [hml]; rfl) (argsL := [(.ref b), (.ref a), (.int (own_i k)), (.int (own_i M)), (.int (0 : Int32))]) (rest := []) (lenOf pd__ACLjava_lang_String_III_Z rfl) rfl (by show 2 * 0 + _ ≤ _; exact Nat.le_of_eq rfl) (hb hby at_230) (fun _ _ => ⟨rfl, eh9, (by decide : 24 + 0 ≤ _), (by decide : 2176 + 0 ≤ _)⟩)
      dsimp only [Pt.U, Pt.locs, Pt.cells, Pt.slots] at X10 l10 y10 z10 st10 hQ10
      subst l10 y10 z10
      obtain ⟨rfl, N10q, eh10⟩ := hQ10
      have N10 := Fr.app N9 N10q
      obtain ⟨_, _, ⟨T11, L11, k11, n11⟩, -, X11, ⟨Lc11, hQ11, l11, y11, z11⟩, st11⟩ := Jvm.LawKit.callS X10 hx (y := mN22) hown (mvT hZ (hw _ w_61)) (mvT hZ (hw _ w_62)) (mvT hZ (hw _ w_55)) (mvT hZ (hw _ w_63)) (by decide) (backOf (W := 0) (rmplace l Z a0 hw [] b a 1 k M cz t kt us sf kb N cs h_ n0 O_ hj0 hj1 hj2 hj3 hj4 hp0 hcz hp2 hsf hN (by decide) hkM hpin hout) hZ (hw _ w_63) (hw _ w_55) (by decide) (by decide)) (g := (mkF m 245 #[.val (.int i0), .val (.int i1), .val (.int i2), .val (.int i3), .val (.int i4), .val (.int (own_i N)), .val (.ref b), y7, .val (.ref a), .val (.int (own_i M)), .val (.int (own_wa N cs 0)), .val (.int (own_wa N cs 1)), .val (.int (own_wa N cs 2)), .val (.int (own_wa N cs 3)), .val (.int (own_i k))] [(.int (1 : Int32)), (.int (own_i M)), (.int (own_i k)), (.ref a), (.ref b)])) rfl (by rw [hml]; rfl) (argsL := [(.ref b), (.ref a), (.int (own_i k)), (.int (own_i M)), (.int (1 : Int32))]) (rest := []) (lenOf pd__ACLjava_lang_String_III_Z rfl) rfl (by show 2 * 0 + _ ≤ _; exact Nat.le_of_eq rfl) (hb hby at_245) (fun _ _ => ⟨rfl, eh10, (by decide : 24 + 0 ≤ _), (by decide : 2176 + 0 ≤ _)⟩)
      dsimp only [Pt.U, Pt.locs, Pt.cells, Pt.slots] at X11 l11 y11 z11 st11 hQ11
      subst l11 y11 z11
      obtain ⟨rfl, N11q, eh11⟩ := hQ11
      have N11 := Fr.app N10 N11q
      obtain ⟨_, _, ⟨T12, L12, k12, n12⟩, -, X12, ⟨Lc12, hQ12, l12, y12, z12⟩, st12⟩ := Jvm.LawKit.callS X11 hx (y := mN22) hown (mvT hZ (hw _ w_61)) (mvT hZ (hw _ w_62)) (mvT hZ (hw _ w_55)) (mvT hZ (hw _ w_63)) (by decide) (backOf (W := 0) (rmplace l Z a0 hw [] b a 2 k M cz t kt us sf kb N cs h_ n0 O_ hj0 hj1 hj2 hj3 hj4 hp0 hcz hp2 hsf hN (by decide) hkM hpin hout) hZ (hw _ w_63) (hw _ w_55) (by decide) (by decide)) (g := (mkF m 260 #[.val (.int i0), .val (.int i1), .val (.int i2), .val (.int i3), .val (.int i4), .val (.int (own_i N)), .val (.ref b), y7, .val (.ref a), .val (.int (own_i M)), .val (.int (own_wa N cs 0)), .val (.int (own_wa N cs 1)), .val (.int (own_wa N cs 2)), .val (.int (own_wa N cs 3)), .val (.int (own_i k))] [(.int (2 : Int32)), (.int (own_i M)), (.int (own_i k)), (.ref a), (.ref b)])) rfl (by rw [hml]; rfl) (argsL := [(.ref b), (.ref a), (.int (own_i k)), (.int (own_i M)), (.int (2 : Int32))]) (rest := []) (lenOf pd__ACLjava_lang_String_III_Z rfl) rfl (by show 2 * 0 + _ ≤ _; exact Nat.le_of_eq rfl) (hb hby at_260) (fun _ _ => ⟨rfl, eh11, (by decide : 24 + 0 ≤ _), (by decide : 2176 + 0 ≤ _)⟩)
      dsimp only [Pt.U, Pt.locs, Pt.cells, Pt.slots] at X12 l12 y12 z12 st12 hQ12
      subst l12 y12 z12
      obtain ⟨rfl, N12q, eh12⟩ := hQ12
      have N12 := Fr.app N11 N12q
      obtain ⟨_, _, ⟨T13, L13, k13, n13⟩, -, X13, ⟨Lc13, hQ13, l13, y13, z13⟩, st13⟩ := Jvm.LawKit.callS X12 hx (y := mN22) hown (mvT hZ (hw _ w_61)) (mvT hZ (hw _ w_62)) (mvT hZ (hw _ w_55)) (mvT hZ (hw _ w_63)) (by decide) (backOf (W := 0) (rmplace l Z a0 hw [] b a 3 k M cz t kt us sf kb N cs h_ n0 O_ hj0 hj1 hj2 hj3 hj4 hp0 hcz hp2 hsf hN (by decide) hkM hpin hout) hZ (hw _ w_63) (hw _ w_55) (by decide) (by decide)) (g := (mkF m 275 #[.val (.int i0), .val (.int i1), .val (.int i2), .val (.int i3), .val (.int i4), .val (.int (own_i N)), .val (.ref b), y7, .val (.ref a), .val (.int (own_i M)), .val (.int (own_wa N cs 0)), .val (.int (own_wa N cs 1)), .val (.int (own_wa N cs 2)), .val (.int (own_wa N cs 3)), .val (.int (own_i k))] [(.int (3 : Int32)), (.int (own_i M)), (.int (own_i k)), (.ref a), (.ref b)])) rfl (by rw [hml]; rfl) (argsL := [(.ref b), (.ref a), (.int (own_i k)), (.int (own_i M)), (.int (3 : Int32))]) (rest := []) (lenOf pd__ACLjava_lang_String_III_Z rfl) rfl (by show 2 * 0 + _ ≤ _; exact Nat.le_of_eq rfl) (hb hby at_275) (fun _ _ => ⟨rfl, eh12, (by decide : 24 + 0 ≤ _), (by decide : 2176 + 0 ≤ _)⟩)
      dsimp only [Pt.U, Pt.locs, Pt.cells, Pt.slots] at X13 l13 y13 z13 st13 hQ13
      subst l13 y13 z13
      obtain ⟨rfl, N13q, eh13⟩ := hQ13
      have N13 := Fr.app N12 N13q
      obtain ⟨fs, hr, hrun, hended, hRE⟩ := X13.leaveW hS (show _ ≤ T13.heap.size by rw [eh13]; exact hk) (v := some (.int (1 : Int32))) (fun h => by rw [Bd.returns] at h; cases h)
      refine ⟨_, _, pre7 _ ?_, hrun, hended, _, _, rfl, ?_, ?_, ⟨hRE.1, hRE.2.1, hRE.2.2.1, hRE.2.2.2.mono (by decide) (by decide)⟩⟩
      · show Steps p.tables e below (T6.setTop (mkF m 210 #[.val (.int i0), .val (.int i1), .val (.int i2), .val (.int i3), .val (.int i4), .val (.int (own_i N)), .val (.ref b), y7, .val (.ref a), .val (.int (own_i M)), .val (.int (own_wa N cs 0)), .val (.int (own_wa N cs 1)), .val (.int (own_wa N cs 2)), .val (.int (own_wa N cs 3)), .val (.int (own_i k))] [(.int (own_i (M - 1))), (.ref a)])) _
        refine st8.trans ?_
        show Steps p.tables e below (T8.setTop (mkF m 213 #[.val (.int i0), .val (.int i1), .val (.int i2), .val (.int i3), .val (.int i4), .val (.int (own_i N)), .val (.ref b), y7, .val (.ref a), .val (.int (own_i M)), .val (.int (own_wa N cs 0)), .val (.int (own_wa N cs 1)), .val (.int (own_wa N cs 2)), .val (.int (own_wa N cs 3)), .val (.int (own_i k))] [(.int (own_u us (M - 1)))])) _
        refine st9 _ ?_
        refine XS.ifYes X9.here hx rfl (pc0 := 216) (pc' := 221) rfl (hb hby at_216) rfl ((if0 _ _).trans (teq ((hend ((own_ilt (a := 0) (by decide) (by omega)).mp hc4)).2 : (own_w (own_u us (M - 1))) = (0 : Int32))).1) (by decide) (by decide) ?_
        refine XS.aload X9.here hx rfl (hb hby at_221) rfl rfl ?_
        refine XS.aload X9.here hx rfl (hb hby at_223) rfl rfl ?_
        show Steps p.tables e below (T9.setTop (mkF m 225 #[.val (.int i0), .val (.int i1), .val (.int i2), .val (.int i3), .val (.int i4), .val (.int (own_i N)), .val (.ref b), y7, .val (.ref a), .val (.int (own_i M)), .val (.int (own_wa N cs 0)), .val (.int (own_wa N cs 1)), .val (.int (own_wa N cs 2)), .val (.int (own_wa N cs 3)), .val (.int (own_i k))] [(.ref a), (.ref b)])) _
        refine XS.iload X9.here hx rfl (hb hby at_225) rfl ?_
        refine XS.iload X9.here hx rfl (hb hby at_227) rfl ?_
        refine XS.iconst X9.here hx rfl (hb hby at_229) ?_
        show Steps p.tables e below (T9.setTop (mkF m 230 #[.val (.int i0), .val (.int i1), .val (.int i2), .val (.int i3), .val (.int i4), .val (.int (own_i N)), .val (.ref b), y7, .val (.ref a), .val (.int (own_i M)), .val (.int (own_wa N cs 0)), .val (.int (own_wa N cs 1)), .val (.int (own_wa N cs 2)), .val (.int (own_wa N cs 3)), .val (.int (own_i k))] [(.int (0 : Int32)), (.int (own_i M)), (.int (own_i k)), (.ref a), (.ref b)])) _
        refine st10 _ ?_
        refine XS.ifNo X10.here hx rfl (hb hby at_233) rfl ((if0 _ _).trans (feq (by decide : ¬ ((1 : Int32) = (0 : Int32)))).1) ?_
        refine XS.aload X10.here hx rfl (hb hby at_236) rfl rfl ?_
        refine XS.aload X10.here hx rfl (hb hby at_238) rfl rfl ?_
        show Steps p.tables e below (T10.setTop (mkF m 240 #[.val (.int i0), .val (.int i1), .val (.int i2), .val (.int i3), .val (.int i4), .val (.int (own_i N)), .val (.ref b), y7, .val (.ref a), .val (.int (own_i M)), .val (.int (own_wa N cs 0)), .val (.int (own_wa N cs 1)), .val (.int (own_wa N cs 2)), .val (.int (own_wa N cs 3)), .val (.int (own_i k))] [(.ref a), (.ref b)])) _
        refine XS.iload X10.here hx rfl (hb hby at_240) rfl ?_
        refine XS.iload X10.here hx rfl (hb hby at_242) rfl ?_
        refine XS.iconst X10.here hx rfl (hb hby at_244) ?_
        show Steps p.tables e below (T10.setTop (mkF m 245 #[.val (.int i0), .val (.int i1), .val (.int i2), .val (.int i3), .val (.int i4), .val (.int (own_i N)), .val (.ref b), y7, .val (.ref a), .val (.int (own_i M)), .val (.int (own_wa N cs 0)), .val (.int (own_wa N cs 1)), .val (.int (own_wa N cs 2)), .val (.int (own_wa N cs 3)), .val (.int (own_i k))] [(.int (1 : Int32)), (.int (own_i M)), (.int (own_i k)), (.ref a), (.ref b)])) _
        refine st11 _ ?_
        refine XS.ifNo X11.here hx rfl (hb hby at_248) rfl ((if0 _ _).trans (feq (by decide : ¬ ((1 : Int32) = (0 : Int32)))).1) ?_
        refine XS.aload X11.here hx rfl (hb hby at_251) rfl rfl ?_
        refine XS.aload X11.here hx rfl (hb hby at_253) rfl rfl ?_
        show Steps p.tables e below (T11.setTop (mkF m 255 #[.val (.int i0), .val (.int i1), .val (.int i2), .val (.int i3), .val (.int i4), .val (.int (own_i N)), .val (.ref b), y7, .val (.ref a), .val (.int (own_i M)), .val (.int (own_wa N cs 0)), .val (.int (own_wa N cs 1)), .val (.int (own_wa N cs 2)), .val (.int (own_wa N cs 3)), .val (.int (own_i k))] [(.ref a), (.ref b)])) _
        refine XS.iload X11.here hx rfl (hb hby at_255) rfl ?_
        refine XS.iload X11.here hx rfl (hb hby at_257) rfl ?_
        refine XS.iconst X11.here hx rfl (hb hby at_259) ?_
        show Steps p.tables e below (T11.setTop (mkF m 260 #[.val (.int i0), .val (.int i1), .val (.int i2), .val (.int i3), .val (.int i4), .val (.int (own_i N)), .val (.ref b), y7, .val (.ref a), .val (.int (own_i M)), .val (.int (own_wa N cs 0)), .val (.int (own_wa N cs 1)), .val (.int (own_wa N cs 2)), .val (.int (own_wa N cs 3)), .val (.int (own_i k))] [(.int (2 : Int32)), (.int (own_i M)), (.int (own_i k)), (.ref a), (.ref b)])) _
        refine st12 _ ?_
        refine XS.ifNo X12.here hx rfl (hb hby at_263) rfl ((if0 _ _).trans (feq (by decide : ¬ ((1 : Int32) = (0 : Int32)))).1) ?_
        refine XS.aload X12.here hx rfl (hb hby at_266) rfl rfl ?_
        refine XS.aload X12.here hx rfl (hb hby at_268) rfl rfl ?_
        show Steps p.tables e below (T12.setTop (mkF m 270 #[.val (.int i0), .val (.int i1), .val (.int i2), .val (.int i3), .val (.int i4), .val (.int (own_i N)), .val (.ref b), y7, .val (.ref a), .val (.int (own_i M)), .val (.int (own_wa N cs 0)), .val (.int (own_wa N cs 1)), .val (.int (own_wa N cs 2)), .val (.int (own_wa N cs 3)), .val (.int (own_i k))] [(.ref a), (.ref b)])) _
        refine XS.iload X12.here hx rfl (hb hby at_270) rfl ?_
        refine XS.iload X12.here hx rfl (hb hby at_272) rfl ?_
        refine XS.iconst X12.here hx rfl (hb hby at_274) ?_
        show Steps p.tables e below (T12.setTop (mkF m 275 #[.val (.int i0), .val (.int i1), .val (.int i2), .val (.int i3), .val (.int i4), .val (.int (own_i N)), .val (.ref b), y7, .val (.ref a), .val (.int (own_i M)), .val (.int (own_wa N cs 0)), .val (.int (own_wa N cs 1)), .val (.int (own_wa N cs 2)), .val (.int (own_wa N cs 3)), .val (.int (own_i k))] [(.int (3 : Int32)), (.int (own_i M)), (.int (own_i k)), (.ref a), (.ref b)])) _
        refine st13 _ ?_
        refine XS.ifNo X13.here hx rfl (hb hby at_278) rfl ((if0 _ _).trans (feq (by decide : ¬ ((1 : Int32) = (0 : Int32)))).1) ?_
        refine XS.iconst X13.here hx rfl (hb hby at_281) ?_
        refine XS.goto X13.here hx rfl (pc0 := 282) (pc' := 286) rfl (hb hby at_282) (by decide) (by decide) ?_
        show Steps p.tables e below (T13.setTop (mkF m 286 #[.val (.int i0), .val (.int i1), .val (.int i2), .val (.int i3), .val (.int i4), .val (.int (own_i N)), .val (.ref b), y7, .val (.ref a), .val (.int (own_i M)), .val (.int (own_wa N cs 0)), .val (.int (own_wa N cs 1)), .val (.int (own_wa N cs 2)), .val (.int (own_wa N cs 3)), .val (.int (own_i k))] [(.int (1 : Int32))])) _
        exact retN X13 hx (t := .boolean) Bd.returns (by simp) (hb hby at_286) hr
      · show Qlaw Z i0 i1 i2 i3 i4 cz sf h0 n0 _ T13.heap _
        rw [eh13]
        exact ⟨rfl, N13, K_⟩
      · rw [hh]
        show CHr Z own_EL s.vm h0 T13.vm T13.heap
        rw [eh13]
        exact RC_.trans (CHv.at X13 hZ hEL HC_)
    · obtain ⟨_, _, ⟨T14, L14, k14, n14⟩, -, X14, ⟨Lc14, hQ14, l14, y14, z14⟩, st14⟩ := Jvm.LawKit.callS X1 hx (y := mN22) hown (mvT hZ (hw _ w_61)) (mvT hZ (hw _ w_62)) (mvT hZ (hw _ w_55)) (mvT hZ (hw _ w_63)) (by decide) (backOf (W := 0) (rmplace l Z a0 hw [] b a 0 k M cz t kt us sf kb N cs h_ n0 O_ hj0 hj1 hj2 hj3 hj4 hp0 hcz hp2 hsf hN (by decide) hkM hpin hout) hZ (hw _ w_63) (hw _ w_55) (by decide) (by decide)) (g := (mkF m 230 #[.val (.int i0), .val (.int i1), .val (.int i2), .val (.int i3), .val (.int i4), .val (.int (own_i N)), .val (.ref b), y7, .val (.ref a), .val (.int (own_i M)), .val (.int (own_wa N cs 0)), .val (.int (own_wa N cs 1)), .val (.int (own_wa N cs 2)), .val (.int (own_wa N cs 3)), .val (.int (own_i k))] [(.int (0 : Int32)), (.int (own_i M)), (.int (own_i k)), (.ref a), (.ref b)])) rfl (by rw [hml]; rfl) (argsL := [(.ref b), (.ref a), (.int (own_i k)), (.int (own_i M)), (.int (0 : Int32))]) (rest := []) (lenOf pd__ACLjava_lang_String_III_Z rfl) rfl (by show 2 * 0 + _ ≤ _; exact Nat.le_of_eq rfl) (hb hby at_230) (fun _ _ => ⟨rfl, eh1, (by decide : 24 + 0 ≤ _), (by decide : 2176 + 0 ≤ _)⟩)
      dsimp only [Pt.U, Pt.locs, Pt.cells, Pt.slots] at X14 l14 y14 z14 st14 hQ14
      subst l14 y14 z14
      obtain ⟨rfl, N14q, eh14⟩ := hQ14
      have N14 := Fr.app N1 N14q
      obtain ⟨_, _, ⟨T15, L15, k15, n15⟩, -, X15, ⟨Lc15, hQ15, l15, y15, z15⟩, st15⟩ := Jvm.LawKit.callS X14 hx (y := mN22) hown (mvT hZ (hw _ w_61)) (mvT hZ (hw _ w_62)) (mvT hZ (hw _ w_55)) (mvT hZ (hw _ w_63)) (by decide) (backOf (W := 0) (rmplace l Z a0 hw [] b a 1 k M cz t kt us sf kb N cs h_ n0 O_ hj0 hj1 hj2 hj3 hj4 hp0 hcz hp2 hsf hN (by decide) hkM hpin hout) hZ (hw _ w_63) (hw _ w_55) (by decide) (by decide)) (g := (mkF m 245 #[.val (.int i0), .val (.int i1), .val (.int i2), .val (.int i3), .val (.int i4), .val (.int (own_i N)), .val (.ref b), y7, .val (.ref a), .val (.int (own_i M)), .val (.int (own_wa N cs 0)), .val (.int (own_wa N cs 1)), .val (.int (own_wa N cs 2)), .val (.int (own_wa N cs 3)), .val (.int (own_i k))] [(.int (1 : Int32)), (.int (own_i M)), (.int (own_i k)), (.ref a), (.ref b)])) rfl (by rw [hml]; rfl) (argsL := [(.ref b), (.ref a), (.int (own_i k)), (.int (own_i M)), (.int (1 : Int32))]) (rest := []) (lenOf pd__ACLjava_lang_String_III_Z rfl) rfl (by show 2 * 0 + _ ≤ _; exact Nat.le_of_eq rfl) (hb hby at_245) (fun _ _ => ⟨rfl, eh14, (by decide : 24 + 0 ≤ _), (by decide : 2176 + 0 ≤ _)⟩)
      dsimp only [Pt.U, Pt.locs, Pt.cells, Pt.slots] at X15 l15 y15 z15 st15 hQ15
      subst l15 y15 z15
      obtain ⟨rfl, N15q, eh15⟩ := hQ15
      have N15 := Fr.app N14 N15q
      obtain ⟨_, _, ⟨T16, L16, k16, n16⟩, -, X16, ⟨Lc16, hQ16, l16, y16, z16⟩, st16⟩ := Jvm.LawKit.callS X15 hx (y := mN22) hown (mvT hZ (hw _ w_61)) (mvT hZ (hw _ w_62)) (mvT hZ (hw _ w_55)) (mvT hZ (hw _ w_63)) (by decide) (backOf (W := 0) (rmplace l Z a0 hw [] b a 2 k M cz t kt us sf kb N cs h_ n0 O_ hj0 hj1 hj2 hj3 hj4 hp0 hcz hp2 hsf hN (by decide) hkM hpin hout) hZ (hw _ w_63) (hw _ w_55) (by decide) (by decide)) (g := (mkF m 260 #[.val (.int i0), .val (.int i1), .val (.int i2), .val (.int i3), .val (.int i4), .val (.int (own_i N)), .val (.ref b), y7, .val (.ref a), .val (.int (own_i M)), .val (.int (own_wa N cs 0)), .val (.int (own_wa N cs 1)), .val (.int (own_wa N cs 2)), .val (.int (own_wa N cs 3)), .val (.int (own_i k))] [(.int (2 : Int32)), (.int (own_i M)), (.int (own_i k)), (.ref a), (.ref b)])) rfl (by rw [hml]; rfl) (argsL := [(.ref b), (.ref a), (.int (own_i k)), (.int (own_i M)), (.int (2 : Int32))]) (rest := []) (lenOf pd__ACLjava_lang_String_III_Z rfl) rfl (by show 2 * 0 + _ ≤ _; exact Nat.le_of_eq rfl) (hb hby at_260) (fun _ _ => ⟨rfl, eh15, (by decide : 24 + 0 ≤ _), (by decide : 2176 + 0 ≤ _)⟩)
      dsimp only [Pt.U, Pt.locs, Pt.cells, Pt.slots] at X16 l16 y16 z16 st16 hQ16
      subst l16 y16 z16
      obtain ⟨rfl, N16q, eh16⟩ := hQ16
      have N16 := Fr.app N15 N16q
      obtain ⟨_, _, ⟨T17, L17, k17, n17⟩, -, X17, ⟨Lc17, hQ17, l17, y17, z17⟩, st17⟩ := Jvm.LawKit.callS X16 hx (y := mN22) hown (mvT hZ (hw _ w_61)) (mvT hZ (hw _ w_62)) (mvT hZ (hw _ w_55)) (mvT hZ (hw _ w_63)) (by decide) (backOf (W := 0) (rmplace l Z a0 hw [] b a 3 k M cz t kt us sf kb N cs h_ n0 O_ hj0 hj1 hj2 hj3 hj4 hp0 hcz hp2 hsf hN (by decide) hkM hpin hout) hZ (hw _ w_63) (hw _ w_55) (by decide) (by decide)) (g := (mkF m 275 #[.val (.int i0), .val (.int i1), .val (.int i2), .val (.int i3), .val (.int i4), .val (.int (own_i N)), .val (.ref b), y7, .val (.ref a), .val (.int (own_i M)), .val (.int (own_wa N cs 0)), .val (.int (own_wa N cs 1)), .val (.int (own_wa N cs 2)), .val (.int (own_wa N cs 3)), .val (.int (own_i k))] [(.int (3 : Int32)), (.int (own_i M)), (.int (own_i k)), (.ref a), (.ref b)])) rfl (by rw [hml]; rfl) (argsL := [(.ref b), (.ref a), (.int (own_i k)), (.int (own_i M)), (.int (3 : Int32))]) (rest := []) (lenOf pd__ACLjava_lang_String_III_Z rfl) rfl (by show 2 * 0 + _ ≤ _; exact Nat.le_of_eq rfl) (hb hby at_275) (fun _ _ => ⟨rfl, eh16, (by decide : 24 + 0 ≤ _), (by decide : 2176 + 0 ≤ _)⟩)
      dsimp only [Pt.U, Pt.locs, Pt.cells, Pt.slots] at X17 l17 y17 z17 st17 hQ17
      subst l17 y17 z17
      obtain ⟨rfl, N17q, eh17⟩ := hQ17
      have N17 := Fr.app N16 N17q
      obtain ⟨fs, hr, hrun, hended, hRE⟩ := X17.leaveW hS (show _ ≤ T17.heap.size by rw [eh17]; exact hk) (v := some (.int (1 : Int32))) (fun h => by rw [Bd.returns] at h; cases h)
      refine ⟨_, _, pre3 _ ?_, hrun, hended, _, _, rfl, ?_, ?_, ⟨hRE.1, hRE.2.1, hRE.2.2.1, hRE.2.2.2.mono (by decide) (by decide)⟩⟩
      · show Steps p.tables e below (T1.setTop (mkF m 189 #[.val (.int i0), .val (.int i1), .val (.int i2), .val (.int i3), .val (.int i4), .val (.int (own_i N)), .val (.ref b), y7, .val (.ref a), .val (.int (own_i M)), .val (.int (own_wa N cs 0)), .val (.int (own_wa N cs 1)), .val (.int (own_wa N cs 2)), .val (.int (own_wa N cs 3)), .val (.int (own_i k))] [(.int (own_i M))])) _
        refine XS.ifYes X1.here hx rfl (pc0 := 189) (pc' := 221) rfl (hb hby at_189) rfl ((if0 _ _).trans (flt hc4).2.2.2) (by decide) (by decide) ?_
        refine XS.aload X1.here hx rfl (hb hby at_221) rfl rfl ?_
        refine XS.aload X1.here hx rfl (hb hby at_223) rfl rfl ?_
        refine XS.iload X1.here hx rfl (hb hby at_225) rfl ?_
        show Steps p.tables e below (T1.setTop (mkF m 227 #[.val (.int i0), .val (.int i1), .val (.int i2), .val (.int i3), .val (.int i4), .val (.int (own_i N)), .val (.ref b), y7, .val (.ref a), .val (.int (own_i M)), .val (.int (own_wa N cs 0)), .val (.int (own_wa N cs 1)), .val (.int (own_wa N cs 2)), .val (.int (own_wa N cs 3)), .val (.int (own_i k))] [(.int (own_i k)), (.ref a), (.ref b)])) _
        refine XS.iload X1.here hx rfl (hb hby at_227) rfl ?_
        refine XS.iconst X1.here hx rfl (hb hby at_229) ?_
        show Steps p.tables e below (T1.setTop (mkF m 230 #[.val (.int i0), .val (.int i1), .val (.int i2), .val (.int i3), .val (.int i4), .val (.int (own_i N)), .val (.ref b), y7, .val (.ref a), .val (.int (own_i M)), .val (.int (own_wa N cs 0)), .val (.int (own_wa N cs 1)), .val (.int (own_wa N cs 2)), .val (.int (own_wa N cs 3)), .val (.int (own_i k))] [(.int (0 : Int32)), (.int (own_i M)), (.int (own_i k)), (.ref a), (.ref b)])) _
        refine st14 _ ?_
        refine XS.ifNo X14.here hx rfl (hb hby at_233) rfl ((if0 _ _).trans (feq (by decide : ¬ ((1 : Int32) = (0 : Int32)))).1) ?_
        refine XS.aload X14.here hx rfl (hb hby at_236) rfl rfl ?_
        refine XS.aload X14.here hx rfl (hb hby at_238) rfl rfl ?_
        show Steps p.tables e below (T14.setTop (mkF m 240 #[.val (.int i0), .val (.int i1), .val (.int i2), .val (.int i3), .val (.int i4), .val (.int (own_i N)), .val (.ref b), y7, .val (.ref a), .val (.int (own_i M)), .val (.int (own_wa N cs 0)), .val (.int (own_wa N cs 1)), .val (.int (own_wa N cs 2)), .val (.int (own_wa N cs 3)), .val (.int (own_i k))] [(.ref a), (.ref b)])) _
        refine XS.iload X14.here hx rfl (hb hby at_240) rfl ?_
        refine XS.iload X14.here hx rfl (hb hby at_242) rfl ?_
        refine XS.iconst X14.here hx rfl (hb hby at_244) ?_
        show Steps p.tables e below (T14.setTop (mkF m 245 #[.val (.int i0), .val (.int i1), .val (.int i2), .val (.int i3), .val (.int i4), .val (.int (own_i N)), .val (.ref b), y7, .val (.ref a), .val (.int (own_i M)), .val (.int (own_wa N cs 0)), .val (.int (own_wa N cs 1)), .val (.int (own_wa N cs 2)), .val (.int (own_wa N cs 3)), .val (.int (own_i k))] [(.int (1 : Int32)), (.int (own_i M)), (.int (own_i k)), (.ref a), (.ref b)])) _
        refine st15 _ ?_
        refine XS.ifNo X15.here hx rfl (hb hby at_248) rfl ((if0 _ _).trans (feq (by decide : ¬ ((1 : Int32) = (0 : Int32)))).1) ?_
        refine XS.aload X15.here hx rfl (hb hby at_251) rfl rfl ?_
        refine XS.aload X15.here hx rfl (hb hby at_253) rfl rfl ?_
        show Steps p.tables e below (T15.setTop (mkF m 255 #[.val (.int i0), .val (.int i1), .val (.int i2), .val (.int i3), .val (.int i4), .val (.int (own_i N)), .val (.ref b), y7, .val (.ref a), .val (.int (own_i M)), .val (.int (own_wa N cs 0)), .val (.int (own_wa N cs 1)), .val (.int (own_wa N cs 2)), .val (.int (own_wa N cs 3)), .val (.int (own_i k))] [(.ref a), (.ref b)])) _
        refine XS.iload X15.here hx rfl (hb hby at_255) rfl ?_
        refine XS.iload X15.here hx rfl (hb hby at_257) rfl ?_
        refine XS.iconst X15.here hx rfl (hb hby at_259) ?_
        show Steps p.tables e below (T15.setTop (mkF m 260 #[.val (.int i0), .val (.int i1), .val (.int i2), .val (.int i3), .val (.int i4), .val (.int (own_i N)), .val (.ref b), y7, .val (.ref a), .val (.int (own_i M)), .val (.int (own_wa N cs 0)), .val (.int (own_wa N cs 1)), .val (.int (own_wa N cs 2)), .val (.int (own_wa N cs 3)), .val (.int (own_i k))] [(.int (2 : Int32)), (.int (own_i M)), (.int (own_i k)), (.ref a), (.ref b)])) _
        refine st16 _ ?_
        refine XS.ifNo X16.here hx rfl (hb hby at_263) rfl ((if0 _ _).trans (feq (by decide : ¬ ((1 : Int32) = (0 : Int32)))).1) ?_
        refine XS.aload X16.here hx rfl (hb hby at_266) rfl rfl ?_
        refine XS.aload X16.here hx rfl (hb hby at_268) rfl rfl ?_
        show Steps p.tables e below (T16.setTop (mkF m 270 #[.val (.int i0), .val (.int i1), .val (.int i2), .val (.int i3), .val (.int i4), .val (.int (own_i N)), .val (.ref b), y7, .val (.ref a), .val (.int (own_i M)), .val (.int (own_wa N cs 0)), .val (.int (own_wa N cs 1)), .val (.int (own_wa N cs 2)), .val (.int (own_wa N cs 3)), .val (.int (own_i k))] [(.ref a), (.ref b)])) _
        refine XS.iload X16.here hx rfl (hb hby at_270) rfl ?_
        refine XS.iload X16.here hx rfl (hb hby at_272) rfl ?_
        refine XS.iconst X16.here hx rfl (hb hby at_274) ?_
        show Steps p.tables e below (T16.setTop (mkF m 275 #[.val (.int i0), .val (.int i1), .val (.int i2), .val (.int i3), .val (.int i4), .val (.int (own_i N)), .val (.ref b), y7, .val (.ref a), .val (.int (own_i M)), .val (.int (own_wa N cs 0)), .val (.int (own_wa N cs 1)), .val (.int (own_wa N cs 2)), .val (.int (own_wa N cs 3)), .val (.int (own_i k))] [(.int (3 : Int32)), (.int (own_i M)), (.int (own_i k)), (.ref a), (.ref b)])) _
        refine st17 _ ?_
        refine XS.ifNo X17.here hx rfl (hb hby at_278) rfl ((if0 _ _).trans (feq (by decide : ¬ ((1 : Int32) = (0 : Int32)))).1) ?_
        refine XS.iconst X17.here hx rfl (hb hby at_281) ?_
        refine XS.goto X17.here hx rfl (pc0 := 282) (pc' := 286) rfl (hb hby at_282) (by decide) (by decide) ?_
        show Steps p.tables e below (T17.setTop (mkF m 286 #[.val (.int i0), .val (.int i1), .val (.int i2), .val (.int i3), .val (.int i4), .val (.int (own_i N)), .val (.ref b), y7, .val (.ref a), .val (.int (own_i M)), .val (.int (own_wa N cs 0)), .val (.int (own_wa N cs 1)), .val (.int (own_wa N cs 2)), .val (.int (own_wa N cs 3)), .val (.int (own_i k))] [(.int (1 : Int32))])) _
        exact retN X17 hx (t := .boolean) Bd.returns (by simp) (hb hby at_286) hr
      · show Qlaw Z i0 i1 i2 i3 i4 cz sf h0 n0 _ T17.heap _
        rw [eh17]
        exact ⟨rfl, N17, K_⟩
      · rw [hh]
        show CHr Z own_EL s.vm h0 T17.vm T17.heap
        rw [eh17]
        exact RC_.trans (CHv.at X17 hZ hEL HC_)
  · intro atMin
    refine own_cut (fun G_ => ∀ (vm_ : Vm) (kk_ : Nat) (T_ : State) (h_ : Heap) (L_ : List Loc) (N : Nat) (b : Addr) (kb : ClassId) (cs : List Int32) (a : Addr) (t : Addr) (kt : ClassId) (us : List Int32) (k : Nat) (M : Nat) (y7 : Slot) (X_ : Stand p l e room_1 (s.setVm vm_) m #[(.int i0), (.int i1), (.int i2), (.int i3), (.int i4)] below meth c T_ L_ 24 2176) (e_ : T_.heap = h_) (hS : s.Since vm_ kk_) (hk : kk_ ≤ h_.size) (hZ : Z.Warmed39 (s.setVm vm_).vm) (hown : (s.setVm vm_).vm.findClass "com/example/shelfmark/shelfmark/records/TextTrimPinLaw" = some m.cls) (O_ : Old Z n0 h_) (K_ : Keep h0 h_ []) (N_ : Fr n0 L_) (HC_ : CHv Z own_EL vm_ h_) (RC_ : CHr Z own_EL s.vm h0 vm_ h_) (hj0 : Arv Z h_ b kb .char (own_i N) (cs.map Value.int) (.int (0 : Int32))) (hj1 : Exa Z h_ a "java/lang/String") (hj2 : Fld Z h_ a "java/lang/String" "value" "[B" (.ref t)) (hj3 : Fld Z h_ a "java/lang/String" "coder" "B" (.int (0 : Int32))) (hj4 : Arv Z h_ t kt .byte (own_i M) (us.map Value.int) (.int (0 : Int32))) (hN : (N ≤ 4)) (hpf : (own_pf N cs = own_i k)) (hkM : (k + M ≤ N)) (hpin : (∀ i, i < N → ¬ i < k → i < k + M → (own_u us (i - k)) = cs.getD i 0)) (hout : (∀ i, i < N → (i < k ∨ ¬ i < k + M) → own_w (cs.getD i 0) = 1)) (hend : (0 < M → own_w (own_u us 0) = 0 ∧ own_w (own_u us (M - 1)) = 0)) (pre_ : ∀ tg_, Steps p.tables e below (T_.setTop (mkF m 88 #[.val (.int i0), .val (.int i1), .val (.int i2), .val (.int i3), .val (.int i4), .val (.int (own_i N)), .val (.ref b), y7, .val (.ref a), .unset, .unset, .unset, .unset, .unset, .unset] [])) tg_ → Steps p.tables e below (s₁.setTop (entryFrame m #[(.int i0), (.int i1), (.int i2), (.int i3), (.int i4)] maxLocals)) tg_), G_) ?_ ?_
    · intro vm_ kk_ T_ h_ L_ N b kb cs a t kt us k M y7 X_ e_ hS hk hZ hown O_ K_ N_ HC_ RC_ hj0 hj1 hj2 hj3 hj4 hN hpf hkM hpin hout hend pre_
      obtain ⟨cq18, kq18, q18a, q18b, q18c⟩ := isOf hZ e_ hj1
      obtain ⟨_, _, ⟨T18, L18, k18, n18⟩, -, X18, ⟨Lc18, hQ18, l18, y18, z18⟩, st18⟩ := X_.virtualBack hx (y := mN2) (z := mN2) hown (mvT hZ (hw _ w_52)) (mvT hZ (hw _ w_28)) (notFace_of_selects (args := #[]) (mvT hZ (hw _ w_30))) (mvT hZ (hw _ w_30)) (mvT hZ (hw _ w_29)) (by decide) (backOf (W := 0) (rmslen l Z a0 hw [] a cz t kt M us h_ n0 O_ hj1 hj2 hj3 hj4 hp0 hcz) hZ (hw _ w_31) (hw _ w_4) (by decide) (by decide)) q18a q18c (g := (mkF m 90 #[.val (.int i0), .val (.int i1), .val (.int i2), .val (.int i3), .val (.int i4), .val (.int (own_i N)), .val (.ref b), y7, .val (.ref a), .unset, .unset, .unset, .unset, .unset, .unset] [(.ref a)])) rfl (by rw [hml]; rfl) (Steps.refl _) (argsL := []) (rest := []) (lenOf pd___I rfl) rfl (by show 2 * 0 + _ ≤ _; exact Nat.le_of_eq rfl) (hb hby at_90) (fun _ _ => ⟨rfl, e_, (by decide : 24 + 0 ≤ _), (by decide : 2176 + 0 ≤ _)⟩)
      dsimp only [Pt.U, Pt.locs, Pt.cells, Pt.slots] at X18 l18 y18 z18 st18 hQ18
      subst l18 y18 z18
      obtain ⟨rfl, N18q, eh18⟩ := hQ18
      have N18 := Fr.app N_ N18q
      obtain ⟨_, _, ⟨T19, L19, k19, n19⟩, -, X19, ⟨Lc19, hQ19, l19, y19, z19⟩, st19⟩ := Jvm.LawKit.callS X18 hx (y := mN21) hown (mvT hZ (hw _ w_53)) (mvT hZ (hw _ w_54)) (mvT hZ (hw _ w_55)) (mvT hZ (hw _ w_56)) (by decide) (backOf (W := 0) (rmws l Z a0 hw [] b 0 kb N cs h_ n0 O_ hj0 hN (by decide)) hZ (hw _ w_56) (hw _ w_55) (by decide) (by decide)) (g := (mkF m 98 #[.val (.int i0), .val (.int i1), .val (.int i2), .val (.int i3), .val (.int i4), .val (.int (own_i N)), .val (.ref b), y7, .val (.ref a), .val (.int (own_i M)), .unset, .unset, .unset, .unset, .unset] [(.int (0 : Int32)), (.ref b)])) rfl (by rw [hml]; rfl) (argsL := [(.ref b), (.int (0 : Int32))]) (rest := []) (lenOf pd__ACI_Z rfl) rfl (by show 2 * 0 + _ ≤ _; exact Nat.le_of_eq rfl) (hb hby at_98) (fun _ _ => ⟨rfl, eh18, (by decide : 24 + 0 ≤ _), (by decide : 2176 + 0 ≤ _)⟩)
      dsimp only [Pt.U, Pt.locs, Pt.cells, Pt.slots] at X19 l19 y19 z19 st19 hQ19
      subst l19 y19 z19
      obtain ⟨rfl, N19q, eh19⟩ := hQ19
      have N19 := Fr.app N18 N19q
      obtain ⟨_, _, ⟨T20, L20, k20, n20⟩, -, X20, ⟨Lc20, hQ20, l20, y20, z20⟩, st20⟩ := Jvm.LawKit.callS X19 hx (y := mN21) hown (mvT hZ (hw _ w_53)) (mvT hZ (hw _ w_54)) (mvT hZ (hw _ w_55)) (mvT hZ (hw _ w_56)) (by decide) (backOf (W := 0) (rmws l Z a0 hw [] b 1 kb N cs h_ n0 O_ hj0 hN (by decide)) hZ (hw _ w_56) (hw _ w_55) (by decide) (by decide)) (g := (mkF m 106 #[.val (.int i0), .val (.int i1), .val (.int i2), .val (.int i3), .val (.int i4), .val (.int (own_i N)), .val (.ref b), y7, .val (.ref a), .val (.int (own_i M)), .val (.int (own_wa N cs 0)), .unset, .unset, .unset, .unset] [(.int (1 : Int32)), (.ref b)])) rfl (by rw [hml]; rfl) (argsL := [(.ref b), (.int (1 : Int32))]) (rest := []) (lenOf pd__ACI_Z rfl) rfl (by show 2 * 0 + _ ≤ _; exact Nat.le_of_eq rfl) (hb hby at_106) (fun _ _ => ⟨rfl, eh19, (by decide : 24 + 0 ≤ _), (by decide : 2176 + 0 ≤ _)⟩)
      dsimp only [Pt.U, Pt.locs, Pt.cells, Pt.slots] at X20 l20 y20 z20 st20 hQ20
      subst l20 y20 z20
      obtain ⟨rfl, N20q, eh20⟩ := hQ20
      have N20 := Fr.app N19 N20q
      obtain ⟨_, _, ⟨T21, L21, k21, n21⟩, -, X21, ⟨Lc21, hQ21, l21, y21, z21⟩, st21⟩ := Jvm.LawKit.callS X20 hx (y := mN21) hown (mvT hZ (hw _ w_53)) (mvT hZ (hw _ w_54)) (mvT hZ (hw _ w_55)) (mvT hZ (hw _ w_56)) (by decide) (backOf (W := 0) (rmws l Z a0 hw [] b 2 kb N cs h_ n0 O_ hj0 hN (by decide)) hZ (hw _ w_56) (hw _ w_55) (by decide) (by decide)) (g := (mkF m 114 #[.val (.int i0), .val (.int i1), .val (.int i2), .val (.int i3), .val (.int i4), .val (.int (own_i N)), .val (.ref b), y7, .val (.ref a), .val (.int (own_i M)), .val (.int (own_wa N cs 0)), .val (.int (own_wa N cs 1)), .unset, .unset, .unset] [(.int (2 : Int32)), (.ref b)])) rfl (by rw [hml]; rfl) (argsL := [(.ref b), (.int (2 : Int32))]) (rest := []) (lenOf pd__ACI_Z rfl) rfl (by show 2 * 0 + _ ≤ _; exact Nat.le_of_eq rfl) (hb hby at_114) (fun _ _ => ⟨rfl, eh20, (by decide : 24 + 0 ≤ _), (by decide : 2176 + 0 ≤ _)⟩)
      dsimp only [Pt.U, Pt.locs, Pt.cells, Pt.slots] at X21 l21 y21 z21 st21 hQ21
      subst l21 y21 z21
      obtain ⟨rfl, N21q, eh21⟩ := hQ21
      have N21 := Fr.app N20 N21q
      obtain ⟨_, _, ⟨T22, L22, k22, n22⟩, -, X22, ⟨Lc22, hQ22, l22, y22, z22⟩, st22⟩ := Jvm.LawKit.callS X21 hx (y := mN21) hown (mvT hZ (hw _ w_53)) (mvT hZ (hw _ w_54)) (mvT hZ (hw _ w_55)) (mvT hZ (hw _ w_56)) (by decide) (backOf (W := 0) (rmws l Z a0 hw [] b 3 kb N cs h_ n0 O_ hj0 hN (by decide)) hZ (hw _ w_56) (hw _ w_55) (by decide) (by decide)) (g := (mkF m 122 #[.val (.int i0), .val (.int i1), .val (.int i2), .val (.int i3), .val (.int i4), .val (.int (own_i N)), .val (.ref b), y7, .val (.ref a), .val (.int (own_i M)), .val (.int (own_wa N cs 0)), .val (.int (own_wa N cs 1)), .val (.int (own_wa N cs 2)), .unset, .unset] [(.int (3 : Int32)), (.ref b)])) rfl (by rw [hml]; rfl) (argsL := [(.ref b), (.int (3 : Int32))]) (rest := []) (lenOf pd__ACI_Z rfl) rfl (by show 2 * 0 + _ ≤ _; exact Nat.le_of_eq rfl) (hb hby at_122) (fun _ _ => ⟨rfl, eh21, (by decide : 24 + 0 ≤ _), (by decide : 2176 + 0 ≤ _)⟩)
      dsimp only [Pt.U, Pt.locs, Pt.cells, Pt.slots] at X22 l22 y22 z22 st22 hQ22
      subst l22 y22 z22
      obtain ⟨rfl, N22q, eh22⟩ := hQ22
      have N22 := Fr.app N21 N22q
      have pre23 : ∀ tg_, Steps p.tables e below (T22.setTop (mkF m 129 #[.val (.int i0), .val (.int i1), .val (.int i2), .val (.int i3), .val (.int i4), .val (.int (own_i N)), .val (.ref b), y7, .val (.ref a), .val (.int (own_i M)), .val (.int (own_wa N cs 0)), .val (.int (own_wa N cs 1)), .val (.int (own_wa N cs 2)), .val (.int (own_wa N cs 3)), .unset] [(.int (own_wa N cs 0))])) tg_ → Steps p.tables e below (s₁.setTop (entryFrame m #[(.int i0), (.int i1), (.int i2), (.int i3), (.int i4)] maxLocals)) tg_ := by
        intro tg_ kt_
        refine pre_ tg_ ?_
        refine XS.aload X_.here hx rfl (hb hby at_88) rfl rfl ?_
        show Steps p.tables e below (T_.setTop (mkF m 90 #[.val (.int i0), .val (.int i1), .val (.int i2), .val (.int i3), .val (.int i4), .val (.int (own_i N)), .val (.ref b), y7, .val (.ref a), .unset, .unset, .unset, .unset, .unset, .unset] [(.ref a)])) _
        refine st18.trans ?_
        refine XS.istore X18.here hx rfl (hb hby at_93) rfl (l' := #[.val (.int i0), .val (.int i1), .val (.int i2), .val (.int i3), .val (.int i4), .val (.int (own_i N)), .val (.ref b), y7, .val (.ref a), .val (.int (own_i M)), .unset, .unset, .unset, .unset, .unset]) rfl ?_
        refine XS.aload X18.here hx rfl (hb hby at_95) rfl rfl ?_
        refine XS.iconst X18.here hx rfl (hb hby at_97) ?_
        show Steps p.tables e below (T18.setTop (mkF m 98 #[.val (.int i0), .val (.int i1), .val (.int i2), .val (.int i3), .val (.int i4), .val (.int (own_i N)), .val (.ref b), y7, .val (.ref a), .val (.int (own_i M)), .unset, .unset, .unset, .unset, .unset] [(.int (0 : Int32)), (.ref b)])) _
        refine st19 _ ?_
        refine XS.istore X19.here hx rfl (hb hby at_101) rfl (l' := #[.val (.int i0), .val (.int i1), .val (.int i2), .val (.int i3), .val (.int i4), .val (.int (own_i N)), .val (.ref b), y7, .val (.ref a), .val (.int (own_i M)), .val (.int (own_wa N cs 0)), .unset, .unset, .unset, .unset]) rfl ?_
        refine XS.aload X19.here hx rfl (hb hby at_103) rfl rfl ?_
        refine XS.iconst X19.here hx rfl (hb hby at_105) ?_
        show Steps p.tables e below (T19.setTop (mkF m 106 #[.val (.int i0), .val (.int i1), .val (.int i2), .val (.int i3), .val (.int i4), .val (.int (own_i N)), .val (.ref b), y7, .val (.ref a), .val (.int (own_i M)), .val (.int (own_wa N cs 0)), .unset, .unset, .unset, .unset] [(.int (1 : Int32)), (.ref b)])) _
        refine st20 _ ?_
        refine XS.istore X20.here hx rfl (hb hby at_109) rfl (l' := #[.val (.int i0), .val (.int i1), .val (.int i2), .val (.int i3), .val (.int i4), .val (.int (own_i N)), .val (.ref b), y7, .val (.ref a), .val (.int (own_i M)), .val (.int (own_wa N cs 0)), .val (.int (own_wa N cs 1)), .unset, .unset, .unset]) rfl ?_
        refine XS.aload X20.here hx rfl (hb hby at_111) rfl rfl ?_
        refine XS.iconst X20.here hx rfl (hb hby at_113) ?_
        show Steps p.tables e below (T20.setTop (mkF m 114 #[.val (.int i0), .val (.int i1), .val (.int i2), .val (.int i3), .val (.int i4), .val (.int (own_i N)), .val (.ref b), y7, .val (.ref a), .val (.int (own_i M)), .val (.int (own_wa N cs 0)), .val (.int (own_wa N cs 1)), .unset, .unset, .unset] [(.int (2 : Int32)), (.ref b)])) _
        refine st21 _ ?_
        refine XS.istore X21.here hx rfl (hb hby at_117) rfl (l' := #[.val (.int i0), .val (.int i1), .val (.int i2), .val (.int i3), .val (.int i4), .val (.int (own_i N)), .val (.ref b), y7, .val (.ref a), .val (.int (own_i M)), .val (.int (own_wa N cs 0)), .val (.int (own_wa N cs 1)), .val (.int (own_wa N cs 2)), .unset, .unset]) rfl ?_
        refine XS.aload X21.here hx rfl (hb hby at_119) rfl rfl ?_
        refine XS.iconst X21.here hx rfl (hb hby at_121) ?_
        show Steps p.tables e below (T21.setTop (mkF m 122 #[.val (.int i0), .val (.int i1), .val (.int i2), .val (.int i3), .val (.int i4), .val (.int (own_i N)), .val (.ref b), y7, .val (.ref a), .val (.int (own_i M)), .val (.int (own_wa N cs 0)), .val (.int (own_wa N cs 1)), .val (.int (own_wa N cs 2)), .unset, .unset] [(.int (3 : Int32)), (.ref b)])) _
        refine st22 _ ?_
        refine XS.istore X22.here hx rfl (hb hby at_125) rfl (l' := #[.val (.int i0), .val (.int i1), .val (.int i2), .val (.int i3), .val (.int i4), .val (.int (own_i N)), .val (.ref b), y7, .val (.ref a), .val (.int (own_i M)), .val (.int (own_wa N cs 0)), .val (.int (own_wa N cs 1)), .val (.int (own_wa N cs 2)), .val (.int (own_wa N cs 3)), .unset]) rfl ?_
        refine XS.iload X22.here hx rfl (hb hby at_127) rfl ?_
        exact kt_
      by_cases hc24 : (own_wa N cs 0) = (0 : Int32)
      · have pre25 : ∀ tg_, Steps p.tables e below (T22.setTop (mkF m 164 #[.val (.int i0), .val (.int i1), .val (.int i2), .val (.int i3), .val (.int i4), .val (.int (own_i N)), .val (.ref b), y7, .val (.ref a), .val (.int (own_i M)), .val (.int (own_wa N cs 0)), .val (.int (own_wa N cs 1)), .val (.int (own_wa N cs 2)), .val (.int (own_wa N cs 3)), .unset] [(.int (0 : Int32))])) tg_ → Steps p.tables e below (s₁.setTop (entryFrame m #[(.int i0), (.int i1), (.int i2), (.int i3), (.int i4)] maxLocals)) tg_ := by
          intro tg_ kt_
          refine pre23 tg_ ?_
          refine XS.ifNo X22.here hx rfl (hb hby at_129) rfl ((if0 _ _).trans (teq hc24).2) ?_
          show Steps p.tables e below (T22.setTop (mkF m 132 #[.val (.int i0), .val (.int i1), .val (.int i2), .val (.int i3), .val (.int i4), .val (.int (own_i N)), .val (.ref b), y7, .val (.ref a), .val (.int (own_i M)), .val (.int (own_wa N cs 0)), .val (.int (own_wa N cs 1)), .val (.int (own_wa N cs 2)), .val (.int (own_wa N cs 3)), .unset] [])) _
          refine XS.iconst X22.here hx rfl (hb hby at_132) ?_
          refine XS.goto X22.here hx rfl (pc0 := 133) (pc' := 164) rfl (hb hby at_133) (by decide) (by decide) ?_
          exact kt_
        exact atMin _ _ T22 h_ _ N b kb cs a t kt us k M (y7) (0 : Int32) (Stand.more X22 (by decide) (by decide)) eh22 hS hk hZ hown O_ K_ N22 HC_ RC_ hj0 hj1 hj2 hj3 hj4 hN hpf hkM hpin hout hend (by rw [← hpf]; simp [own_pf, hc24]) pre25
      · have pre26 : ∀ tg_, Steps p.tables e below (T22.setTop (mkF m 138 #[.val (.int i0), .val (.int i1), .val (.int i2), .val (.int i3), .val (.int i4), .val (.int (own_i N)), .val (.ref b), y7, .val (.ref a), .val (.int (own_i M)), .val (.int (own_wa N cs 0)), .val (.int (own_wa N cs 1)), .val (.int (own_wa N cs 2)), .val (.int (own_wa N cs 3)), .unset] [(.int (own_wa N cs 1))])) tg_ → Steps p.tables e below (s₁.setTop (entryFrame m #[(.int i0), (.int i1), (.int i2), (.int i3), (.int i4)] maxLocals)) tg_ := by
          intro tg_ kt_
          refine pre23 tg_ ?_
          refine XS.ifYes X22.here hx rfl (pc0 := 129) (pc' := 136) rfl (hb hby at_129) rfl ((if0 _ _).trans (feq hc24).2) (by decide) (by decide) ?_
          show Steps p.tables e below (T22.setTop (mkF m 136 #[.val (.int i0), .val (.int i1), .val (.int i2), .val (.int i3), .val (.int i4), .val (.int (own_i N)), .val (.ref b), y7, .val (.ref a), .val (.int (own_i M)), .val (.int (own_wa N cs 0)), .val (.int (own_wa N cs 1)), .val (.int (own_wa N cs 2)), .val (.int (own_wa N cs 3)), .unset] [])) _
          refine XS.iload X22.here hx rfl (hb hby at_136) rfl ?_
          exact kt_
        by_cases hc27 : (own_wa N cs 1) = (0 : Int32)
        · have pre28 : ∀ tg_, Steps p.tables e below (T22.setTop (mkF m 164 #[.val (.int i0), .val (.int i1), .val (.int i2), .val (.int i3), .val (.int i4), .val (.int (own_i N)), .val (.ref b), y7, .val (.ref a), .val (.int (own_i M)), .val (.int (own_wa N cs 0)), .val (.int (own_wa N cs 1)), .val (.int (own_wa N cs 2)), .val (.int (own_wa N cs 3)), .unset] [(.int (1 : Int32))])) tg_ → Steps p.tables e below (s₁.setTop (entryFrame m #[(.int i0), (.int i1), (.int i2), (.int i3), (.int i4)] maxLocals)) tg_ := by
            intro tg_ kt_
            refine pre26 tg_ ?_
            refine XS.ifNo X22.here hx rfl (hb hby at_138) rfl ((if0 _ _).trans (teq hc27).2) ?_
            refine XS.iconst X22.here hx rfl (hb hby at_141) ?_
            refine XS.goto X22.here hx rfl (pc0 := 142) (pc' := 164) rfl (hb hby at_142) (by decide) (by decide) ?_
            exact kt_
          exact atMin _ _ T22 h_ _ N b kb cs a t kt us k M (y7) (1 : Int32) (Stand.more X22 (by decide) (by decide)) eh22 hS hk hZ hown O_ K_ N22 HC_ RC_ hj0 hj1 hj2 hj3 hj4 hN hpf hkM hpin hout hend (by rw [← hpf]; simp [own_pf, hc24, hc27]) pre28
        · have pre29 : ∀ tg_, Steps p.tables e below (T22.setTop (mkF m 147 #[.val (.int i0), .val (.int i1), .val (.int i2), .val (.int i3), .val (.int i4), .val (.int (own_i N)), .val (.ref b), y7, .val (.ref a), .val (.int (own_i M)), .val (.int (own_wa N cs 0)), .val (.int (own_wa N cs 1)), .val (.int (own_wa N cs 2)), .val (.int (own_wa N cs 3)), .unset] [(.int (own_wa N cs 2))])) tg_ → Steps p.tables e below (s₁.setTop (entryFrame m #[(.int i0), (.int i1), (.int i2), (.int i3), (.int i4)] maxLocals)) tg_ := by
            intro tg_ kt_
            refine pre26 tg_ ?_
            refine XS.ifYes X22.here hx rfl (pc0 := 138) (pc' := 145) rfl (hb hby at_138) rfl ((if0 _ _).trans (feq hc27).2) (by decide) (by decide) ?_
            refine XS.iload X22.here hx rfl (hb hby at_145) rfl ?_
            exact kt_
          by_cases hc30 : (own_wa N cs 2) = (0 : Int32)
          · have pre31 : ∀ tg_, Steps p.tables e below (T22.setTop (mkF m 164 #[.val (.int i0), .val (.int i1), .val (.int i2), .val (.int i3), .val (.int i4), .val (.int (own_i N)), .val (.ref b), y7, .val (.ref a), .val (.int (own_i M)), .val (.int (own_wa N cs 0)), .val (.int (own_wa N cs 1)), .val (.int (own_wa N cs 2)), .val (.int (own_wa N cs 3)), .unset] [(.int (2 : Int32))])) tg_ → Steps p.tables e below (s₁.setTop (entryFrame m #[(.int i0), (.int i1), (.int i2), (.int i3), (.int i4)] maxLocals)) tg_ := by
              intro tg_ kt_
              refine pre29 tg_ ?_
              refine XS.ifNo X22.here hx rfl (hb hby at_147) rfl ((if0 _ _).trans (teq hc30).2) ?_
              show Steps p.tables e below (T22.setTop (mkF m 150 #[.val (.int i0), .val (.int i1), .val (.int i2), .val (.int i3), .val (.int i4), .val (.int (own_i N)), .val (.ref b), y7, .val (.ref a), .val (.int (own_i M)), .val (.int (own_wa N cs 0)), .val (.int (own_wa N cs 1)), .val (.int (own_wa N cs 2)), .val (.int (own_wa N cs 3)), .unset] [])) _
              refine XS.iconst X22.here hx rfl (hb hby at_150) ?_
              refine XS.goto X22.here hx rfl (pc0 := 151) (pc' := 164) rfl (hb hby at_151) (by decide) (by decide) ?_
              exact kt_
            exact atMin _ _ T22 h_ _ N b kb cs a t kt us k M (y7) (2 : Int32) (Stand.more X22 (by decide) (by decide)) eh22 hS hk hZ hown O_ K_ N22 HC_ RC_ hj0 hj1 hj2 hj3 hj4 hN hpf hkM hpin hout hend (by rw [← hpf]; simp [own_pf, hc24, hc27, hc30]) pre31
          · have pre32 : ∀ tg_, Steps p.tables e below (T22.setTop (mkF m 156 #[.val (.int i0), .val (.int i1), .val (.int i2), .val (.int i3), .val (.int i4), .val (.int (own_i N)), .val (.ref b), y7, .val (.ref a), .val (.int (own_i M)), .val (.int (own_wa N cs 0)), .val (.int (own_wa N cs 1)), .val (.int (own_wa N cs 2)), .val (.int (own_wa N cs 3)), .unset] [(.int (own_wa N cs 3))])) tg_ → Steps p.tables e below (s₁.setTop (entryFrame m #[(.int i0), (.int i1), (.int i2), (.int i3), (.int i4)] maxLocals)) tg_ := by
              intro tg_ kt_
              refine pre29 tg_ ?_
              refine XS.ifYes X22.here hx rfl (pc0 := 147) (pc' := 154) rfl (hb hby at_147) rfl ((if0 _ _).trans (feq hc30).2) (by decide) (by decide) ?_
              show Steps p.tables e below (T22.setTop (mkF m 154 #[.val (.int i0), .val (.int i1), .val (.int i2), .val (.int i3), .val (.int i4), .val (.int (own_i N)), .val (.ref b), y7, .val (.ref a), .val (.int (own_i M)), .val (.int (own_wa N cs 0)), .val (.int (own_wa N cs 1)), .val (.int (own_wa N cs 2)), .val (.int (own_wa N cs 3)), .unset] [])) _
              refine XS.iload X22.here hx rfl (hb hby at_154) rfl ?_
              exact kt_
            by_cases hc33 : (own_wa N cs 3) = (0 : Int32)
            · have pre34 : ∀ tg_, Steps p.tables e below (T22.setTop (mkF m 164 #[.val (.int i0), .val (.int i1), .val (.int i2), .val (.int i3), .val (.int i4), .val (.int (own_i N)), .val (.ref b), y7, .val (.ref a), .val (.int (own_i M)), .val (.int (own_wa N cs 0)), .val (.int (own_wa N cs 1)), .val (.int (own_wa N cs 2)), .val (.int (own_wa N cs 3)), .unset] [(.int (3 : Int32))])) tg_ → Steps p.tables e below (s₁.setTop (entryFrame m #[(.int i0), (.int i1), (.int i2), (.int i3), (.int i4)] maxLocals)) tg_ := by
                intro tg_ kt_
                refine pre32 tg_ ?_
                refine XS.ifNo X22.here hx rfl (hb hby at_156) rfl ((if0 _ _).trans (teq hc33).2) ?_
                refine XS.iconst X22.here hx rfl (hb hby at_159) ?_
                refine XS.goto X22.here hx rfl (pc0 := 160) (pc' := 164) rfl (hb hby at_160) (by decide) (by decide) ?_
                exact kt_
              exact atMin _ _ T22 h_ _ N b kb cs a t kt us k M (y7) (3 : Int32) (Stand.more X22 (by decide) (by decide)) eh22 hS hk hZ hown O_ K_ N22 HC_ RC_ hj0 hj1 hj2 hj3 hj4 hN hpf hkM hpin hout hend (by rw [← hpf]; simp [own_pf, hc24, hc27, hc30, hc33]) pre34
            · have pre35 : ∀ tg_, Steps p.tables e below (T22.setTop (mkF m 164 #[.val (.int i0), .val (.int i1), .val (.int i2), .val (.int i3), .val (.int i4), .val (.int (own_i N)), .val (.ref b), y7, .val (.ref a), .val (.int (own_i M)), .val (.int (own_wa N cs 0)), .val (.int (own_wa N cs 1)), .val (.int (own_wa N cs 2)), .val (.int (own_wa N cs 3)), .unset] [(.int (4 : Int32))])) tg_ → Steps p.tables e below (s₁.setTop (entryFrame m #[(.int i0), (.int i1), (.int i2), (.int i3), (.int i4)] maxLocals)) tg_ := by
                intro tg_ kt_
                refine pre32 tg_ ?_
                refine XS.ifYes X22.here hx rfl (pc0 := 156) (pc' := 163) rfl (hb hby at_156) rfl ((if0 _ _).trans (feq hc33).2) (by decide) (by decide) ?_
                refine XS.iconst X22.here hx rfl (hb hby at_163) ?_
                exact kt_
              exact atMin _ _ T22 h_ _ N b kb cs a t kt us k M (y7) (4 : Int32) (Stand.more X22 (by decide) (by decide)) eh22 hS hk hZ hown O_ K_ N22 HC_ RC_ hj0 hj1 hj2 hj3 hj4 hN hpf hkM hpin hout hend (by rw [← hpf]; simp [own_pf, hc24, hc27, hc30, hc33]) pre35
    · intro afterTrim
      have pre36 : ∀ tg_, Steps p.tables e below (s₁.setTop (mkF m 6 #[.val (.int i0), .val (.int i1), .val (.int i2), .val (.int i3), .val (.int i4), .unset, .unset, .unset, .unset, .unset, .unset, .unset, .unset, .unset, .unset] [(.int ((i0 &&& (2147483647 : Int32)) - (i0 &&& (2147483647 : Int32)) / (5 : Int32) * (5 : Int32)))])) tg_ → Steps p.tables e below (s₁.setTop (entryFrame m #[(.int i0), (.int i1), (.int i2), (.int i3), (.int i4)] maxLocals)) tg_ := by
        intro tg_ kt_
        refine pre0 tg_ ?_
        refine XS.iloadN X0.here hx rfl (hb hby at_0) rfl ?_
        refine X0.ldcInt hx hown (mvT hZ (hw _ w_0)) (g := (mkF m 1 #[.val (.int i0), .val (.int i1), .val (.int i2), .val (.int i3), .val (.int i4), .unset, .unset, .unset, .unset, .unset, .unset, .unset, .unset, .unset, .unset] [(.int i0)])) rfl (hb hby at_1) _ ?_
        refine XS.iand X0.here hx rfl (hb hby at_3) rfl ?_
        show Steps p.tables e below (s₁.setTop (mkF m 4 #[.val (.int i0), .val (.int i1), .val (.int i2), .val (.int i3), .val (.int i4), .unset, .unset, .unset, .unset, .unset, .unset, .unset, .unset, .unset, .unset] [(.int (i0 &&& (2147483647 : Int32)))])) _
        refine XS.iconst X0.here hx rfl (hb hby at_4) ?_
        refine XS.irem X0.here hx rfl (hb hby at_5) rfl (by decide) ?_
        exact kt_
      obtain ⟨nn, hg_nn⟩ : ∃ z, z = ((i0 &&& (2147483647 : Int32)) - (i0 &&& (2147483647 : Int32)) / (5 : Int32) * (5 : Int32)) := ⟨_, rfl⟩
      rw [← hg_nn] at pre36
      rcases (hg_nn ▸ own_n5 i0 : nn = 0 ∨ nn = 1 ∨ nn = 2 ∨ nn = 3 ∨ nn = 4) with rfl | rfl | rfl | rfl | rfl
      · obtain ⟨T37, h37, k37, X37, e37, E37, A37, st37⟩ := newP X0 hx hZ (hw (Jvm.Cond.arrayClass (newarray.typeOf .char)) w_1) e0 (g := (mkF m 10 #[.val (.int i0), .val (.int i1), .val (.int i2), .val (.int i3), .val (.int i4), .val (.int (0 : Int32)), .unset, .unset, .unset, .unset, .unset, .unset, .unset, .unset, .unset] [(.int (0 : Int32))])) rfl (hb hby at_10) rfl (by decide) (cap := 0) (by decide) (by decide) (by decide) (by decide)
        obtain ⟨b37, g37⟩ : ∃ z, z = h0.size := ⟨_, rfl⟩
        rw [← g37] at A37 st37
        have sz37 : h0.size ≤ b37 := Nat.le_trans (Keep.refl h0 []).1 (Nat.le_of_eq g37.symm)
        have gn37 : n0 ≤ b37 := Nat.le_trans Z0 sz37
        have O37 : Old Z n0 h37 := O0.ext E37
        have K37 : Keep h0 h37 [] := (Keep.refl h0 []).ext E37
        have hk := Nat.le_trans hk E37.1
        have HC37 := CHv.ext E37 HC0
        have RC37 := (CHr.refl HC0).trans (CHr.ext E37 HC0)
        have V37 : Arv Z h37 b37 k37 .char (0 : Int32) [] (.int (0 : Int32)) := (Arv.new A37 (by decide)).pad (pad_rep [] (.int (0 : Int32)) 0)
        obtain ⟨T39, h39, X39, e39, E39, A39, D39, U39, st39⟩ := newO X37 hx hZ hown (hw _ w_2) (hw _ w_3) (hw _ w_4) e37 (g := (mkF m 70 #[.val (.int i0), .val (.int i1), .val (.int i2), .val (.int i3), .val (.int i4), .val (.int (0 : Int32)), .val (.ref b37), .unset, .unset, .unset, .unset, .unset, .unset, .unset, .unset] [])) rfl (hb hby at_70) (by decide) (by decide)
        obtain ⟨b39, g39⟩ : ∃ z, z = h37.size := ⟨_, rfl⟩
        rw [← g39] at A39 D39 U39 st39
        have Un39 : Unt h39 b39 := U39
        have sz39 : h0.size ≤ b39 := Nat.le_trans K37.1 (Nat.le_of_eq g39.symm)
        have gn39 : n0 ≤ b39 := Nat.le_trans Z0 sz39
        have O39 : Old Z n0 h39 := O37.ext E39
        have K39 : Keep h0 h39 [] := K37.ext E39
        have hk := Nat.le_trans hk E39.1
        have HC39 := CHv.ext E39 HC37
        have RC39 := RC37.trans (CHr.ext E39 HC37)
        have F39_17 : Fld Z h39 b39 "java/lang/String" "value" "[B" .null := D39 (Or.inr (hw _ w_17)) (ty := (.array .byte)) (by decide)
        have F39_18 : Fld Z h39 b39 "java/lang/String" "coder" "B" (.int (0 : Int32)) := D39 (Or.inr (hw _ w_18)) (ty := .byte) (by decide)
        obtain ⟨_, _, ⟨T41, L41, k41, n41⟩, -, Xh41, Sh41, gh41, ⟨Lc41, hQ41, l41, y41, z41, R41⟩, st41⟩ := X39.specialBackS hx (y := mN19) rfl hown (mvT hZ (hw _ w_5)) (mvT hZ (hw _ w_6)) (mvT hZ (hw _ w_7)) (by decide) (backOfSH (s := s) (W := 1) (rmstrE1 l Z a0 hw [] b39 b37 (.int (0 : Int32)) k37 h39 n0 O39 A39 gn39 F39_17 F39_18 (V37.ext E39)) hZ (hw _ w_7) (hw _ w_4) (by decide) (by decide) hEL HC39) (g := (mkF m 76 #[.val (.int i0), .val (.int i1), .val (.int i2), .val (.int i3), .val (.int i4), .val (.int (0 : Int32)), .val (.ref b37), .unset, .unset, .unset, .unset, .unset, .unset, .unset, .unset] [(.ref b37), (.ref b39), (.ref b39)])) rfl (by rw [hml]; rfl) (Steps.refl _) (a := b39) (argsL := [(.ref b37)]) (rest := [(.ref b39)]) (lenOf pd__AC_V rfl) rfl (by show 2 * 0 + _ ≤ _; exact Nat.le_of_eq rfl) (hb hby at_76) (fun _ _ => ⟨rfl, e39, (by decide : 2 + 4 ≤ _), (by decide : 4 + 8 ≤ _)⟩)
        dsimp only [Pt.U, Pt.locs, Pt.cells, Pt.slots] at Xh41 Sh41 gh41 l41 y41 z41 R41 st41 hQ41
        subst l41 y41 z41
        obtain ⟨X41, hS, hZ, hown⟩ := rebS hS (show _ ≤ T39.heap.size by rw [e39]; exact hk) Xh41 Sh41 gh41 hZ hown
        have hk := Nat.le_refl T41.heap.size
        obtain ⟨t_41, kt_41, rfl, N41q, Kc41, r41_1, r41_2, r41_3, r41_4⟩ := hQ41
        have N41 := Fr.app N0 N41q
        have O41 : Old Z n0 T41.heap := O39.keep Kc41 (allS gn39 all0)
        have K41 : Keep h0 T41.heap [] := K39.trans Kc41 (allS (Or.inr sz39) all0)
        have HC41 := R41.1
        have RC41 := RC39.trans R41
        obtain ⟨_, _, ⟨T42, L42, k42, n42⟩, -, Xh42, Sh42, gh42, ⟨Lc42, hQ42, l42, y42, z42, R42⟩, st42⟩ := callSS X41 hx (y := mN20) hown (mvT hZ (hw _ w_23)) (mvT hZ (hw _ w_24)) (mvT hZ (hw _ w_25)) (mvT hZ (hw _ w_26)) (by decide) (backOfSH (s := s) (W := 0) (rmtrim l Z a0 hw [] b39 sf cz t_41 kt_41 0 ([] : List Int32) T41.heap n0 O41 r41_1 r41_2 r41_3 r41_4 hp0 hcz hp2 hsf (by decide) rfl) hZ (hw _ w_26) (hw _ w_25) (by decide) (by decide) hEL HC41) (g := (mkF m 83 #[.val (.int i0), .val (.int i1), .val (.int i2), .val (.int i3), .val (.int i4), .val (.int (0 : Int32)), .val (.ref b37), .val (.ref b39), .unset, .unset, .unset, .unset, .unset, .unset, .unset] [(.ref b39)])) rfl (by rw [hml]; rfl) (argsL := [(.ref b39)]) (rest := []) (lenOf pd__Ljava_lang_String__Ljava_lang_String_ rfl) rfl (by show 2 * 0 + _ ≤ _; exact Nat.le_of_eq rfl) (hb hby at_83) (fun _ _ => ⟨rfl, rfl, (by decide : 6 + 2 ≤ _), (by decide : 12 + 8 ≤ _)⟩)
        dsimp only [Pt.U, Pt.locs, Pt.cells, Pt.slots] at Xh42 Sh42 gh42 l42 y42 z42 R42 st42 hQ42
        subst l42 y42 z42
        obtain ⟨X42, hS, hZ, hown⟩ := rebS hS hk Xh42 Sh42 gh42 hZ hown
        have hk := Nat.le_refl T42.heap.size
        obtain ⟨r_42, t2_42, kt2_42, k_42, j_42, rfl, N42q, Kc42, r42_1, r42_2, r42_3, r42_4, r42_5⟩ := hQ42
        have N42 := Fr.app N41 N42q
        have O42 : Old Z n0 T42.heap := O41.keep Kc42 all0
        have K42 : Keep h0 T42.heap [] := K41.trans Kc42 all0
        have HC42 := R42.1
        have RC42 := RC41.trans R42
        have pre43 : ∀ tg_, Steps p.tables e below (T42.setTop (mkF m 88 #[.val (.int i0), .val (.int i1), .val (.int i2), .val (.int i3), .val (.int i4), .val (.int (0 : Int32)), .val (.ref b37), .val (.ref b39), .val (.ref r_42), .unset, .unset, .unset, .unset, .unset, .unset] [])) tg_ → Steps p.tables e below (s₁.setTop (entryFrame m #[(.int i0), (.int i1), (.int i2), (.int i3), (.int i4)] maxLocals)) tg_ := by
          intro tg_ kt_
          refine pre36 tg_ ?_
          refine XS.istore X0.here hx rfl (hb hby at_6) rfl (l' := #[.val (.int i0), .val (.int i1), .val (.int i2), .val (.int i3), .val (.int i4), .val (.int (0 : Int32)), .unset, .unset, .unset, .unset, .unset, .unset, .unset, .unset, .unset]) rfl ?_
          refine XS.iload X0.here hx rfl (hb hby at_8) rfl ?_
          show Steps p.tables e below (s₁.setTop (mkF m 10 #[.val (.int i0), .val (.int i1), .val (.int i2), .val (.int i3), .val (.int i4), .val (.int (0 : Int32)), .unset, .unset, .unset, .unset, .unset, .unset, .unset, .unset, .unset] [(.int (0 : Int32))])) _
          refine st37 _ ?_
          refine XS.astore X37.here hx rfl (hb hby at_12) rfl rfl (l' := #[.val (.int i0), .val (.int i1), .val (.int i2), .val (.int i3), .val (.int i4), .val (.int (0 : Int32)), .val (.ref b37), .unset, .unset, .unset, .unset, .unset, .unset, .unset, .unset]) rfl ?_
          refine XS.iload X37.here hx rfl (hb hby at_14) rfl ?_
          refine XS.ifYes X37.here hx rfl (pc0 := 16) (pc' := 27) rfl (hb hby at_16) rfl ((if0 _ _).trans (flt (by decide : ¬ ((0 : Int32) < (0 : Int32)))).2.2.2) (by decide) (by decide) ?_
          show Steps p.tables e below (T37.setTop (mkF m 27 #[.val (.int i0), .val (.int i1), .val (.int i2), .val (.int i3), .val (.int i4), .val (.int (0 : Int32)), .val (.ref b37), .unset, .unset, .unset, .unset, .unset, .unset, .unset, .unset] [])) _
          refine XS.iload X37.here hx rfl (hb hby at_27) rfl ?_
          refine XS.iconst X37.here hx rfl (hb hby at_29) ?_
          refine XS.icmpYes X37.here hx rfl (pc0 := 30) (pc' := 41) rfl (hb hby at_30) rfl (flt (by decide : ¬ ((1 : Int32) < (0 : Int32)))).2.2.2 (by decide) (by decide) ?_
          refine XS.iload X37.here hx rfl (hb hby at_41) rfl ?_
          show Steps p.tables e below (T37.setTop (mkF m 43 #[.val (.int i0), .val (.int i1), .val (.int i2), .val (.int i3), .val (.int i4), .val (.int (0 : Int32)), .val (.ref b37), .unset, .unset, .unset, .unset, .unset, .unset, .unset, .unset] [(.int (0 : Int32))])) _
          refine XS.iconst X37.here hx rfl (hb hby at_43) ?_
          refine XS.icmpYes X37.here hx rfl (pc0 := 44) (pc' := 55) rfl (hb hby at_44) rfl (flt (by decide : ¬ ((2 : Int32) < (0 : Int32)))).2.2.2 (by decide) (by decide) ?_
          refine XS.iload X37.here hx rfl (hb hby at_55) rfl ?_
          refine XS.iconst X37.here hx rfl (hb hby at_57) ?_
          show Steps p.tables e below (T37.setTop (mkF m 58 #[.val (.int i0), .val (.int i1), .val (.int i2), .val (.int i3), .val (.int i4), .val (.int (0 : Int32)), .val (.ref b37), .unset, .unset, .unset, .unset, .unset, .unset, .unset, .unset] [(.int (3 : Int32)), (.int (0 : Int32))])) _
          refine XS.icmpYes X37.here hx rfl (pc0 := 58) (pc' := 70) rfl (hb hby at_58) rfl (flt (by decide : ¬ ((3 : Int32) < (0 : Int32)))).2.2.2 (by decide) (by decide) ?_
          show Steps p.tables e below (T37.setTop (mkF m 70 #[.val (.int i0), .val (.int i1), .val (.int i2), .val (.int i3), .val (.int i4), .val (.int (0 : Int32)), .val (.ref b37), .unset, .unset, .unset, .unset, .unset, .unset, .unset, .unset] [])) _
          refine st39 _ ?_
          refine XS.dup X39.here hx rfl (hb hby at_73) rfl rfl ?_
          refine XS.aload X39.here hx rfl (hb hby at_74) rfl rfl ?_
          show Steps p.tables e below (T39.setTop (mkF m 76 #[.val (.int i0), .val (.int i1), .val (.int i2), .val (.int i3), .val (.int i4), .val (.int (0 : Int32)), .val (.ref b37), .unset, .unset, .unset, .unset, .unset, .unset, .unset, .unset] [(.ref b37), (.ref b39), (.ref b39)])) _
          refine st41.trans ?_
          refine XS.astore X41.here hx rfl (hb hby at_79) rfl rfl (l' := #[.val (.int i0), .val (.int i1), .val (.int i2), .val (.int i3), .val (.int i4), .val (.int (0 : Int32)), .val (.ref b37), .val (.ref b39), .unset, .unset, .unset, .unset, .unset, .unset, .unset]) rfl ?_
          refine XS.aload X41.here hx rfl (hb hby at_81) rfl rfl ?_
          show Steps p.tables e below (T41.setTop (mkF m 83 #[.val (.int i0), .val (.int i1), .val (.int i2), .val (.int i3), .val (.int i4), .val (.int (0 : Int32)), .val (.ref b37), .val (.ref b39), .unset, .unset, .unset, .unset, .unset, .unset, .unset] [(.ref b39)])) _
          refine st42.trans ?_
          refine XS.astore X42.here hx rfl (hb hby at_86) rfl rfl (l' := #[.val (.int i0), .val (.int i1), .val (.int i2), .val (.int i3), .val (.int i4), .val (.int (0 : Int32)), .val (.ref b37), .val (.ref b39), .val (.ref r_42), .unset, .unset, .unset, .unset, .unset, .unset]) rfl ?_
          exact kt_
        exact afterTrim _ _ T42 T42.heap _ 0 b37 k37 ([] : List Int32) r_42 t2_42 kt2_42 ((([] : List Int32).drop k_42).take (j_42 - k_42)) k_42 (j_42 - k_42) (.val (.ref b39)) (Stand.more X42 (by decide) (by decide)) rfl hS hk hZ hown O42 K42 N42 HC42 RC42 (((V37.ext E39).keep Kc41 (ninS (Nat.ne_of_lt (Nat.lt_of_lt_of_le V37.lt (Nat.le_of_eq g39.symm))) nin0)).keep Kc42 nin0) r42_1 r42_2 r42_3 r42_4 (by decide) ((own_all (N := 0) (cs := ([] : List Int32)) (by decide) rfl (fun c_ hc_ => absurd hc_ List.not_mem_nil) r42_5).1) ((own_all (N := 0) (cs := ([] : List Int32)) (by decide) rfl (fun c_ hc_ => absurd hc_ List.not_mem_nil) r42_5).2.1) ((own_all (N := 0) (cs := ([] : List Int32)) (by decide) rfl (fun c_ hc_ => absurd hc_ List.not_mem_nil) r42_5).2.2.1) ((own_all (N := 0) (cs := ([] : List Int32)) (by decide) rfl (fun c_ hc_ => absurd hc_ List.not_mem_nil) r42_5).2.2.2.1) ((own_all (N := 0) (cs := ([] : List Int32)) (by decide) rfl (fun c_ hc_ => absurd hc_ List.not_mem_nil) r42_5).2.2.2.2) pre43
      · obtain ⟨T44, h44, k44, X44, e44, E44, A44, st44⟩ := newP X0 hx hZ (hw (Jvm.Cond.arrayClass (newarray.typeOf .char)) w_1) e0 (g := (mkF m 10 #[.val (.int i0), .val (.int i1), .val (.int i2), .val (.int i3), .val (.int i4), .val (.int (1 : Int32)), .unset, .unset, .unset, .unset, .unset, .unset, .unset, .unset, .unset] [(.int (1 : Int32))])) rfl (hb hby at_10) rfl (by decide) (cap := 1) (by decide) (by decide) (by decide) (by decide)
        obtain ⟨b44, g44⟩ : ∃ z, z = h0.size := ⟨_, rfl⟩
        rw [← g44] at A44 st44
        have sz44 : h0.size ≤ b44 := Nat.le_trans (Keep.refl h0 []).1 (Nat.le_of_eq g44.symm)
        have gn44 : n0 ≤ b44 := Nat.le_trans Z0 sz44
        have O44 : Old Z n0 h44 := O0.ext E44
        have K44 : Keep h0 h44 [] := (Keep.refl h0 []).ext E44
        have hk := Nat.le_trans hk E44.1
        have HC44 := CHv.ext E44 HC0
        have RC44 := (CHr.refl HC0).trans (CHr.ext E44 HC0)
        have V44 : Arv Z h44 b44 k44 .char (1 : Int32) [(.int (0 : Int32))] (.int (0 : Int32)) := (Arv.new A44 (by decide)).pad (pad_rep [] (.int (0 : Int32)) 1)
        obtain ⟨_, _, ⟨T46, L46, k46, n46⟩, -, X46, ⟨Lc46, hQ46, l46, y46, z46⟩, st46⟩ := Jvm.LawKit.callS X44 hx (y := mN23) hown (mvT hZ (hw _ w_64)) (mvT hZ (hw _ w_65)) (mvT hZ (hw _ w_55)) (mvT hZ (hw _ w_66)) (by decide) (backOf (W := 2) (rmch l Z a0 hw [] i1 h44 n0 O44 ) hZ (hw _ w_66) (hw _ w_55) (by decide) (by decide)) (g := (mkF m 23 #[.val (.int i0), .val (.int i1), .val (.int i2), .val (.int i3), .val (.int i4), .val (.int (1 : Int32)), .val (.ref b44), .unset, .unset, .unset, .unset, .unset, .unset, .unset, .unset] [(.int i1), (.int (0 : Int32)), (.ref b44)])) rfl (by rw [hml]; rfl) (argsL := [(.int i1)]) (rest := [(.int (0 : Int32)), (.ref b44)]) (lenOf pd__I_C rfl) rfl (by show 2 * 0 + _ ≤ _; exact Nat.le_of_eq rfl) (hb hby at_23) (fun _ _ => ⟨rfl, e44, (by decide : 1 + 0 ≤ _), (by decide : 1 + 0 ≤ _)⟩)
        dsimp only [Pt.U, Pt.locs, Pt.cells, Pt.slots] at X46 l46 y46 z46 st46 hQ46
        subst l46 y46 z46
        obtain ⟨q_46, rfl, N46q, eh46, r46_0⟩ := hQ46
        have N46 := Fr.app N0 N46q
        obtain ⟨cl47, Ar47, q47, S47, Ng47, H47, G47⟩ := id V44
        have hin47 : ¬ ((0 : Int32) < 0 ∨ cl47.slots.size ≤ ((0 : Int32)).toNatClampNeg) := inb_of S47 ⟨by decide, by decide⟩
        obtain ⟨T47, h47, X47, e47, W47, st47⟩ := stC X46 hx hZ eh46 Ar47 (j := (0 : Int32)) hin47 (g := (mkF m 26 #[.val (.int i0), .val (.int i1), .val (.int i2), .val (.int i3), .val (.int i4), .val (.int (1 : Int32)), .val (.ref b44), .unset, .unset, .unset, .unset, .unset, .unset, .unset, .unset] [(.int q_46), (.int (0 : Int32)), (.ref b44)])) rfl rfl (hb hby at_26)
        have V47 : Arv Z h47 b44 k44 .char (1 : Int32) [(.int (nar .char q_46))] (.int (0 : Int32)) := Arv.set Ar47 q47 S47 Ng47 H47 G47 (fits_nar_char _) W47 0 rfl (Nat.le_of_ble_eq_true rfl)
        have N47 := Fr.snoc X47 N46 gn44
        have O47 : Old Z n0 h47 := O44.wr W47 gn44
        have K47 : Keep h0 h47 [] := K44.wr W47 (Or.inr sz44)
        have hk := Nat.le_trans hk (Keep.of_wr W47).1
        have HC47 := CHv.wr W47 (Safe.ext E44 HC0 (Safe.new (Z := Z) (EL := own_EL) (vm := _) (Nat.le_of_eq g44.symm))) HC44
        have RC47 := RC44.trans (CHr.wr W47 (Safe.ext E44 HC0 (Safe.new (Z := Z) (EL := own_EL) (vm := _) (Nat.le_of_eq g44.symm))) HC44)
        obtain ⟨T48, h48, X48, e48, E48, A48, D48, U48, st48⟩ := newO X47 hx hZ hown (hw _ w_2) (hw _ w_3) (hw _ w_4) e47 (g := (mkF m 70 #[.val (.int i0), .val (.int i1), .val (.int i2), .val (.int i3), .val (.int i4), .val (.int (1 : Int32)), .val (.ref b44), .unset, .unset, .unset, .unset, .unset, .unset, .unset, .unset] [])) rfl (hb hby at_70) (by decide) (by decide)
        obtain ⟨b48, g48⟩ : ∃ z, z = h47.size := ⟨_, rfl⟩
        rw [← g48] at A48 D48 U48 st48
        have Un48 : Unt h48 b48 := U48
        have sz48 : h0.size ≤ b48 := Nat.le_trans K47.1 (Nat.le_of_eq g48.symm)
        have gn48 : n0 ≤ b48 := Nat.le_trans Z0 sz48
        have O48 : Old Z n0 h48 := O47.ext E48
        have K48 : Keep h0 h48 [] := K47.ext E48
        have hk := Nat.le_trans hk E48.1
        have HC48 := CHv.ext E48 HC47
        have RC48 := RC47.trans (CHr.ext E48 HC47)
        have F48_17 : Fld Z h48 b48 "java/lang/String" "value" "[B" .null := D48 (Or.inr (hw _ w_17)) (ty := (.array .byte)) (by decide)
        have F48_18 : Fld Z h48 b48 "java/lang/String" "coder" "B" (.int (0 : Int32)) := D48 (Or.inr (hw _ w_18)) (ty := .byte) (by decide)
        obtain ⟨_, _, ⟨T50, L50, k50, n50⟩, -, X50, ⟨Lc50, hQ50, l50, y50, z50⟩, st50⟩ := X48.specialBack hx (y := mN19) rfl hown (mvT hZ (hw _ w_5)) (mvT hZ (hw _ w_6)) (mvT hZ (hw _ w_7)) (by decide) (StrChars.Road.backV (W := 1) hZ (own_sw hw) (kI := 4) (hw _ w_3) (cs := [(nar .char q_46)]) (bs := [((nar .char q_46)).toInt8.toInt32]) (n := 1) gn48 (own_z0 O48) A48 F48_17 F48_18 (V47.ext E48) (hp0.ext O48.2) hcz rfl rfl (by decide) (by decide) (fun c_ hc_ => by rw [List.mem_singleton.mp hc_]; exact own_lat r46_0) rfl (by decide) (by decide)) (g := (mkF m 76 #[.val (.int i0), .val (.int i1), .val (.int i2), .val (.int i3), .val (.int i4), .val (.int (1 : Int32)), .val (.ref b44), .unset, .unset, .unset, .unset, .unset, .unset, .unset, .unset] [(.ref b44), (.ref b48), (.ref b48)])) rfl (by rw [hml]; rfl) (Steps.refl _) (a := b48) (argsL := [(.ref b44)]) (rest := [(.ref b48)]) (lenOf pd__AC_V rfl) rfl (by show 2 * 0 + _ ≤ _; exact Nat.le_of_eq rfl) (hb hby at_76) (fun _ _ => ⟨rfl, e48, (by decide : 2 + 1 ≤ _), (by decide : 5 + 1 ≤ _)⟩)
        dsimp only [Pt.U, Pt.locs, Pt.cells, Pt.slots] at X50 l50 y50 z50 st50 hQ50
        subst l50 y50 z50
        obtain ⟨rfl, N50q, Kc50, Ec50, Fc50, t50, kt50, gt50, zt50, nt50, Fv50, Vt50⟩ := hQ50
        have N50 := Fr.app N47 N50q
        have sz51 : h0.size ≤ t50 := Nat.le_trans K48.1 zt50
        have gn51 : n0 ≤ t50 := Nat.le_trans Z0 sz51
        have O50 : Old Z n0 T50.heap := O48.keep Kc50 (allS gn48 all0)
        have K50 : Keep h0 T50.heap [] := K48.trans Kc50 (allS (Or.inr sz48) all0)
        have hk := Nat.le_trans hk Kc50.1
        have HC50 := CHv.keep Kc50 (allS (Safe.ext E48 HC47 (Safe.new (Z := Z) (EL := own_EL) (vm := _) (Nat.le_of_eq g48.symm))) all0) HC48
        have RC50 := RC48.trans (CHr.keep Kc50 (allS (Safe.ext E48 HC47 (Safe.new (Z := Z) (EL := own_EL) (vm := _) (Nat.le_of_eq g48.symm))) all0) HC48)
        obtain ⟨_, _, ⟨T53, L53, k53, n53⟩, -, Xh53, Sh53, gh53, ⟨Lc53, hQ53, l53, y53, z53, R53⟩, st53⟩ := callSS X50 hx (y := mN20) hown (mvT hZ (hw _ w_23)) (mvT hZ (hw _ w_24)) (mvT hZ (hw _ w_25)) (mvT hZ (hw _ w_26)) (by decide) (backOfSH (s := s) (W := 0) (rmtrim l Z a0 hw [] b48 sf cz t50 kt50 1 [((nar .char q_46)).toInt8.toInt32] T50.heap n0 O50 Ec50 Fv50 Fc50 Vt50 hp0 hcz hp2 hsf (by decide) rfl) hZ (hw _ w_26) (hw _ w_25) (by decide) (by decide) hEL HC50) (g := (mkF m 83 #[.val (.int i0), .val (.int i1), .val (.int i2), .val (.int i3), .val (.int i4), .val (.int (1 : Int32)), .val (.ref b44), .val (.ref b48), .unset, .unset, .unset, .unset, .unset, .unset, .unset] [(.ref b48)])) rfl (by rw [hml]; rfl) (argsL := [(.ref b48)]) (rest := []) (lenOf pd__Ljava_lang_String__Ljava_lang_String_ rfl) rfl (by show 2 * 0 + _ ≤ _; exact Nat.le_of_eq rfl) (hb hby at_83) (fun _ _ => ⟨rfl, rfl, (by decide : 3 + 2 ≤ _), (by decide : 6 + 8 ≤ _)⟩)
        dsimp only [Pt.U, Pt.locs, Pt.cells, Pt.slots] at Xh53 Sh53 gh53 l53 y53 z53 R53 st53 hQ53
        subst l53 y53 z53
        obtain ⟨X53, hS, hZ, hown⟩ := rebS hS hk Xh53 Sh53 gh53 hZ hown
        have hk := Nat.le_refl T53.heap.size
        obtain ⟨r_53, t2_53, kt2_53, k_53, j_53, rfl, N53q, Kc53, r53_1, r53_2, r53_3, r53_4, r53_5⟩ := hQ53
        have N53 := Fr.app N50 N53q
        have O53 : Old Z n0 T53.heap := O50.keep Kc53 all0
        have K53 : Keep h0 T53.heap [] := K50.trans Kc53 all0
        have HC53 := R53.1
        have RC53 := RC50.trans R53
        have pre54 : ∀ tg_, Steps p.tables e below (T53.setTop (mkF m 88 #[.val (.int i0), .val (.int i1), .val (.int i2), .val (.int i3), .val (.int i4), .val (.int (1 : Int32)), .val (.ref b44), .val (.ref b48), .val (.ref r_53), .unset, .unset, .unset, .unset, .unset, .unset] [])) tg_ → Steps p.tables e below (s₁.setTop (entryFrame m #[(.int i0), (.int i1), (.int i2), (.int i3), (.int i4)] maxLocals)) tg_ := by
          intro tg_ kt_
          refine pre36 tg_ ?_
          refine XS.istore X0.here hx rfl (hb hby at_6) rfl (l' := #[.val (.int i0), .val (.int i1), .val (.int i2), .val (.int i3), .val (.int i4), .val (.int (1 : Int32)), .unset, .unset, .unset, .unset, .unset, .unset, .unset, .unset, .unset]) rfl ?_
          refine XS.iload X0.here hx rfl (hb hby at_8) rfl ?_
          show Steps p.tables e below (s₁.setTop (mkF m 10 #[.val (.int i0), .val (.int i1), .val (.int i2), .val (.int i3), .val (.int i4), .val (.int (1 : Int32)), .unset, .unset, .unset, .unset, .unset, .unset, .unset, .unset, .unset] [(.int (1 : Int32))])) _
          refine st44 _ ?_
          refine XS.astore X44.here hx rfl (hb hby at_12) rfl rfl (l' := #[.val (.int i0), .val (.int i1), .val (.int i2), .val (.int i3), .val (.int i4), .val (.int (1 : Int32)), .val (.ref b44), .unset, .unset, .unset, .unset, .unset, .unset, .unset, .unset]) rfl ?_
          refine XS.iload X44.here hx rfl (hb hby at_14) rfl ?_
          refine XS.ifNo X44.here hx rfl (hb hby at_16) rfl ((if0 _ _).trans (tlt (by decide : (0 : Int32) < (1 : Int32))).2.2.2) ?_
          show Steps p.tables e below (T44.setTop (mkF m 19 #[.val (.int i0), .val (.int i1), .val (.int i2), .val (.int i3), .val (.int i4), .val (.int (1 : Int32)), .val (.ref b44), .unset, .unset, .unset, .unset, .unset, .unset, .unset, .unset] [])) _
          refine XS.aload X44.here hx rfl (hb hby at_19) rfl rfl ?_
          refine XS.iconst X44.here hx rfl (hb hby at_21) ?_
          refine XS.iloadN X44.here hx rfl (hb hby at_22) rfl ?_
          show Steps p.tables e below (T44.setTop (mkF m 23 #[.val (.int i0), .val (.int i1), .val (.int i2), .val (.int i3), .val (.int i4), .val (.int (1 : Int32)), .val (.ref b44), .unset, .unset, .unset, .unset, .unset, .unset, .unset, .unset] [(.int i1), (.int (0 : Int32)), (.ref b44)])) _
          refine st46 _ ?_
          show Steps p.tables e below (T46.setTop (mkF m 26 #[.val (.int i0), .val (.int i1), .val (.int i2), .val (.int i3), .val (.int i4), .val (.int (1 : Int32)), .val (.ref b44), .unset, .unset, .unset, .unset, .unset, .unset, .unset, .unset] [(.int q_46), (.int (0 : Int32)), (.ref b44)])) _
          refine st47 _ ?_
          refine XS.iload X47.here hx rfl (hb hby at_27) rfl ?_
          refine XS.iconst X47.here hx rfl (hb hby at_29) ?_
          refine XS.icmpYes X47.here hx rfl (pc0 := 30) (pc' := 41) rfl (hb hby at_30) rfl (flt (by decide : ¬ ((1 : Int32) < (1 : Int32)))).2.2.2 (by decide) (by decide) ?_
          show Steps p.tables e below (T47.setTop (mkF m 41 #[.val (.int i0), .val (.int i1), .val (.int i2), .val (.int i3), .val (.int i4), .val (.int (1 : Int32)), .val (.ref b44), .unset, .unset, .unset, .unset, .unset, .unset, .unset, .unset] [])) _
          refine XS.iload X47.here hx rfl (hb hby at_41) rfl ?_
          refine XS.iconst X47.here hx rfl (hb hby at_43) ?_
          refine XS.icmpYes X47.here hx rfl (pc0 := 44) (pc' := 55) rfl (hb hby at_44) rfl (flt (by decide : ¬ ((2 : Int32) < (1 : Int32)))).2.2.2 (by decide) (by decide) ?_
          refine XS.iload X47.here hx rfl (hb hby at_55) rfl ?_
          show Steps p.tables e below (T47.setTop (mkF m 57 #[.val (.int i0), .val (.int i1), .val (.int i2), .val (.int i3), .val (.int i4), .val (.int (1 : Int32)), .val (.ref b44), .unset, .unset, .unset, .unset, .unset, .unset, .unset, .unset] [(.int (1 : Int32))])) _
          refine XS.iconst X47.here hx rfl (hb hby at_57) ?_
          refine XS.icmpYes X47.here hx rfl (pc0 := 58) (pc' := 70) rfl (hb hby at_58) rfl (flt (by decide : ¬ ((3 : Int32) < (1 : Int32)))).2.2.2 (by decide) (by decide) ?_
          show Steps p.tables e below (T47.setTop (mkF m 70 #[.val (.int i0), .val (.int i1), .val (.int i2), .val (.int i3), .val (.int i4), .val (.int (1 : Int32)), .val (.ref b44), .unset, .unset, .unset, .unset, .unset, .unset, .unset, .unset] [])) _
          refine st48 _ ?_
          refine XS.dup X48.here hx rfl (hb hby at_73) rfl rfl ?_
          refine XS.aload X48.here hx rfl (hb hby at_74) rfl rfl ?_
          show Steps p.tables e below (T48.setTop (mkF m 76 #[.val (.int i0), .val (.int i1), .val (.int i2), .val (.int i3), .val (.int i4), .val (.int (1 : Int32)), .val (.ref b44), .unset, .unset, .unset, .unset, .unset, .unset, .unset, .unset] [(.ref b44), (.ref b48), (.ref b48)])) _
          refine st50.trans ?_
          refine XS.astore X50.here hx rfl (hb hby at_79) rfl rfl (l' := #[.val (.int i0), .val (.int i1), .val (.int i2), .val (.int i3), .val (.int i4), .val (.int (1 : Int32)), .val (.ref b44), .val (.ref b48), .unset, .unset, .unset, .unset, .unset, .unset, .unset]) rfl ?_
          refine XS.aload X50.here hx rfl (hb hby at_81) rfl rfl ?_
          show Steps p.tables e below (T50.setTop (mkF m 83 #[.val (.int i0), .val (.int i1), .val (.int i2), .val (.int i3), .val (.int i4), .val (.int (1 : Int32)), .val (.ref b44), .val (.ref b48), .unset, .unset, .unset, .unset, .unset, .unset, .unset] [(.ref b48)])) _
          refine st53.trans ?_
          refine XS.astore X53.here hx rfl (hb hby at_86) rfl rfl (l' := #[.val (.int i0), .val (.int i1), .val (.int i2), .val (.int i3), .val (.int i4), .val (.int (1 : Int32)), .val (.ref b44), .val (.ref b48), .val (.ref r_53), .unset, .unset, .unset, .unset, .unset, .unset]) rfl ?_
          exact kt_
        exact afterTrim _ _ T53 T53.heap _ 1 b44 k44 [(nar .char q_46)] r_53 t2_53 kt2_53 (([((nar .char q_46)).toInt8.toInt32].drop k_53).take (j_53 - k_53)) k_53 (j_53 - k_53) (.val (.ref b48)) (Stand.more X53 (by decide) (by decide)) rfl hS hk hZ hown O53 K53 N53 HC53 RC53 (((V47.ext E48).keep Kc50 (ninS (Nat.ne_of_lt (Nat.lt_of_lt_of_le V47.lt (Nat.le_of_eq g48.symm))) nin0)).keep Kc53 nin0) r53_1 r53_2 r53_3 r53_4 (by decide) ((own_all (N := 1) (cs := [(nar .char q_46)]) (by decide) rfl (fun c_ hc_ => by rw [List.mem_singleton.mp hc_]; exact own_lat r46_0) r53_5).1) ((own_all (N := 1) (cs := [(nar .char q_46)]) (by decide) rfl (fun c_ hc_ => by rw [List.mem_singleton.mp hc_]; exact own_lat r46_0) r53_5).2.1) ((own_all (N := 1) (cs := [(nar .char q_46)]) (by decide) rfl (fun c_ hc_ => by rw [List.mem_singleton.mp hc_]; exact own_lat r46_0) r53_5).2.2.1) ((own_all (N := 1) (cs := [(nar .char q_46)]) (by decide) rfl (fun c_ hc_ => by rw [List.mem_singleton.mp hc_]; exact own_lat r46_0) r53_5).2.2.2.1) ((own_all (N := 1) (cs := [(nar .char q_46)]) (by decide) rfl (fun c_ hc_ => by rw [List.mem_singleton.mp hc_]; exact own_lat r46_0) r53_5).2.2.2.2) pre54
      · obtain ⟨T55, h55, k55, X55, e55, E55, A55, st55⟩ := newP X0 hx hZ (hw (Jvm.Cond.arrayClass (newarray.typeOf .char)) w_1) e0 (g := (mkF m 10 #[.val (.int i0), .val (.int i1), .val (.int i2), .val (.int i3), .val (.int i4), .val (.int (2 : Int32)), .unset, .unset, .unset, .unset, .unset, .unset, .unset, .unset, .unset] [(.int (2 : Int32))])) rfl (hb hby at_10) rfl (by decide) (cap := 2) (by decide) (by decide) (by decide) (by decide)
        obtain ⟨b55, g55⟩ : ∃ z, z = h0.size := ⟨_, rfl⟩
        rw [← g55] at A55 st55
        have sz55 : h0.size ≤ b55 := Nat.le_trans (Keep.refl h0 []).1 (Nat.le_of_eq g55.symm)
        have gn55 : n0 ≤ b55 := Nat.le_trans Z0 sz55
        have O55 : Old Z n0 h55 := O0.ext E55
        have K55 : Keep h0 h55 [] := (Keep.refl h0 []).ext E55
        have hk := Nat.le_trans hk E55.1
        have HC55 := CHv.ext E55 HC0
        have RC55 := (CHr.refl HC0).trans (CHr.ext E55 HC0)
        have V55 : Arv Z h55 b55 k55 .char (2 : Int32) [(.int (0 : Int32)), (.int (0 : Int32))] (.int (0 : Int32)) := (Arv.new A55 (by decide)).pad (pad_rep [] (.int (0 : Int32)) 2)
        obtain ⟨_, _, ⟨T57, L57, k57, n57⟩, -, X57, ⟨Lc57, hQ57, l57, y57, z57⟩, st57⟩ := Jvm.LawKit.callS X55 hx (y := mN23) hown (mvT hZ (hw _ w_64)) (mvT hZ (hw _ w_65)) (mvT hZ (hw _ w_55)) (mvT hZ (hw _ w_66)) (by decide) (backOf (W := 2) (rmch l Z a0 hw [] i1 h55 n0 O55 ) hZ (hw _ w_66) (hw _ w_55) (by decide) (by decide)) (g := (mkF m 23 #[.val (.int i0), .val (.int i1), .val (.int i2), .val (.int i3), .val (.int i4), .val (.int (2 : Int32)), .val (.ref b55), .unset, .unset, .unset, .unset, .unset, .unset, .unset, .unset] [(.int i1), (.int (0 : Int32)), (.ref b55)])) rfl (by rw [hml]; rfl) (argsL := [(.int i1)]) (rest := [(.int (0 : Int32)), (.ref b55)]) (lenOf pd__I_C rfl) rfl (by show 2 * 0 + _ ≤ _; exact Nat.le_of_eq rfl) (hb hby at_23) (fun _ _ => ⟨rfl, e55, (by decide : 1 + 0 ≤ _), (by decide : 2 + 0 ≤ _)⟩)
        dsimp only [Pt.U, Pt.locs, Pt.cells, Pt.slots] at X57 l57 y57 z57 st57 hQ57
        subst l57 y57 z57
        obtain ⟨q_57, rfl, N57q, eh57, r57_0⟩ := hQ57
        have N57 := Fr.app N0 N57q
        obtain ⟨cl58, Ar58, q58, S58, Ng58, H58, G58⟩ := id V55
        have hin58 : ¬ ((0 : Int32) < 0 ∨ cl58.slots.size ≤ ((0 : Int32)).toNatClampNeg) := inb_of S58 ⟨by decide, by decide⟩
        obtain ⟨T58, h58, X58, e58, W58, st58⟩ := stC X57 hx hZ eh57 Ar58 (j := (0 : Int32)) hin58 (g := (mkF m 26 #[.val (.int i0), .val (.int i1), .val (.int i2), .val (.int i3), .val (.int i4), .val (.int (2 : Int32)), .val (.ref b55), .unset, .unset, .unset, .unset, .unset, .unset, .unset, .unset] [(.int q_57), (.int (0 : Int32)), (.ref b55)])) rfl rfl (hb hby at_26)
        have V58 : Arv Z h58 b55 k55 .char (2 : Int32) [(.int (nar .char q_57)), (.int (0 : Int32))] (.int (0 : Int32)) := Arv.set Ar58 q58 S58 Ng58 H58 G58 (fits_nar_char _) W58 0 rfl (Nat.le_of_ble_eq_true rfl)
        have N58 := Fr.snoc X58 N57 gn55
        have O58 : Old Z n0 h58 := O55.wr W58 gn55
        have K58 : Keep h0 h58 [] := K55.wr W58 (Or.inr sz55)
        have hk := Nat.le_trans hk (Keep.of_wr W58).1
        have HC58 := CHv.wr W58 (Safe.ext E55 HC0 (Safe.new (Z := Z) (EL := own_EL) (vm := _) (Nat.le_of_eq g55.symm))) HC55
        have RC58 := RC55.trans (CHr.wr W58 (Safe.ext E55 HC0 (Safe.new (Z := Z) (EL := own_EL) (vm := _) (Nat.le_of_eq g55.symm))) HC55)
        obtain ⟨_, _, ⟨T59, L59, k59, n59⟩, -, X59, ⟨Lc59, hQ59, l59, y59, z59⟩, st59⟩ := Jvm.LawKit.callS X58 hx (y := mN23) hown (mvT hZ (hw _ w_64)) (mvT hZ (hw _ w_65)) (mvT hZ (hw _ w_55)) (mvT hZ (hw _ w_66)) (by decide) (backOf (W := 2) (rmch l Z a0 hw [] i2 h58 n0 O58 ) hZ (hw _ w_66) (hw _ w_55) (by decide) (by decide)) (g := (mkF m 37 #[.val (.int i0), .val (.int i1), .val (.int i2), .val (.int i3), .val (.int i4), .val (.int (2 : Int32)), .val (.ref b55), .unset, .unset, .unset, .unset, .unset, .unset, .unset, .unset] [(.int i2), (.int (1 : Int32)), (.ref b55)])) rfl (by rw [hml]; rfl) (argsL := [(.int i2)]) (rest := [(.int (1 : Int32)), (.ref b55)]) (lenOf pd__I_C rfl) rfl (by show 2 * 0 + _ ≤ _; exact Nat.le_of_eq rfl) (hb hby at_37) (fun _ _ => ⟨rfl, e58, (by decide : 1 + 0 ≤ _), (by decide : 2 + 0 ≤ _)⟩)
        dsimp only [Pt.U, Pt.locs, Pt.cells, Pt.slots] at X59 l59 y59 z59 st59 hQ59
        subst l59 y59 z59
        obtain ⟨q_59, rfl, N59q, eh59, r59_0⟩ := hQ59
        have N59 := Fr.app N58 N59q
        obtain ⟨cl60, Ar60, q60, S60, Ng60, H60, G60⟩ := id V58
        have hin60 : ¬ ((1 : Int32) < 0 ∨ cl60.slots.size ≤ ((1 : Int32)).toNatClampNeg) := inb_of S60 ⟨by decide, by decide⟩
        obtain ⟨T60, h60, X60, e60, W60, st60⟩ := stC X59 hx hZ eh59 Ar60 (j := (1 : Int32)) hin60 (g := (mkF m 40 #[.val (.int i0), .val (.int i1), .val (.int i2), .val (.int i3), .val (.int i4), .val (.int (2 : Int32)), .val (.ref b55), .unset, .unset, .unset, .unset, .unset, .unset, .unset, .unset] [(.int q_59), (.int (1 : Int32)), (.ref b55)])) rfl rfl (hb hby at_40)
        have V60 : Arv Z h60 b55 k55 .char (2 : Int32) [(.int (nar .char q_57)), (.int (nar .char q_59))] (.int (0 : Int32)) := Arv.set Ar60 q60 S60 Ng60 H60 G60 (fits_nar_char _) W60 1 rfl (Nat.le_of_ble_eq_true rfl)
        have N60 := Fr.snoc X60 N59 gn55
        have O60 : Old Z n0 h60 := O58.wr W60 gn55
        have K60 : Keep h0 h60 [] := K58.wr W60 (Or.inr sz55)
        have hk := Nat.le_trans hk (Keep.of_wr W60).1
        have HC60 := CHv.wr W60 (Safe.wr W58 (Safe.ext E55 HC0 (Safe.new (Z := Z) (EL := own_EL) (vm := _) (Nat.le_of_eq g55.symm))) HC55 (Safe.ext E55 HC0 (Safe.new (Z := Z) (EL := own_EL) (vm := _) (Nat.le_of_eq g55.symm)))) HC58
        have RC60 := RC58.trans (CHr.wr W60 (Safe.wr W58 (Safe.ext E55 HC0 (Safe.new (Z := Z) (EL := own_EL) (vm := _) (Nat.le_of_eq g55.symm))) HC55 (Safe.ext E55 HC0 (Safe.new (Z := Z) (EL := own_EL) (vm := _) (Nat.le_of_eq g55.symm)))) HC58)
        obtain ⟨T61, h61, X61, e61, E61, A61, D61, U61, st61⟩ := newO X60 hx hZ hown (hw _ w_2) (hw _ w_3) (hw _ w_4) e60 (g := (mkF m 70 #[.val (.int i0), .val (.int i1), .val (.int i2), .val (.int i3), .val (.int i4), .val (.int (2 : Int32)), .val (.ref b55), .unset, .unset, .unset, .unset, .unset, .unset, .unset, .unset] [])) rfl (hb hby at_70) (by decide) (by decide)
        obtain ⟨b61, g61⟩ : ∃ z, z = h60.size := ⟨_, rfl⟩
        rw [← g61] at A61 D61 U61 st61
        have Un61 : Unt h61 b61 := U61
        have sz61 : h0.size ≤ b61 := Nat.le_trans K60.1 (Nat.le_of_eq g61.symm)
        have gn61 : n0 ≤ b61 := Nat.le_trans Z0 sz61
        have O61 : Old Z n0 h61 := O60.ext E61
        have K61 : Keep h0 h61 [] := K60.ext E61
        have hk := Nat.le_trans hk E61.1
        have HC61 := CHv.ext E61 HC60
        have RC61 := RC60.trans (CHr.ext E61 HC60)
        have F61_17 : Fld Z h61 b61 "java/lang/String" "value" "[B" .null := D61 (Or.inr (hw _ w_17)) (ty := (.array .byte)) (by decide)
        have F61_18 : Fld Z h61 b61 "java/lang/String" "coder" "B" (.int (0 : Int32)) := D61 (Or.inr (hw _ w_18)) (ty := .byte) (by decide)
        obtain ⟨_, _, ⟨T63, L63, k63, n63⟩, -, X63, ⟨Lc63, hQ63, l63, y63, z63⟩, st63⟩ := X61.specialBack hx (y := mN19) rfl hown (mvT hZ (hw _ w_5)) (mvT hZ (hw _ w_6)) (mvT hZ (hw _ w_7)) (by decide) (StrChars.Road.backV (W := 1) hZ (own_sw hw) (kI := 4) (hw _ w_3) (cs := [(nar .char q_57), (nar .char q_59)]) (bs := [((nar .char q_57)).toInt8.toInt32, ((nar .char q_59)).toInt8.toInt32]) (n := 2) gn61 (own_z0 O61) A61 F61_17 F61_18 (V60.ext E61) (hp0.ext O61.2) hcz rfl rfl (by decide) (by decide) (fun c_ hc_ => by simp only [List.mem_cons, List.not_mem_nil, or_false] at hc_; rcases hc_ with rfl | rfl <;> first | exact own_lat r57_0 | exact own_lat r59_0) rfl (by decide) (by decide)) (g := (mkF m 76 #[.val (.int i0), .val (.int i1), .val (.int i2), .val (.int i3), .val (.int i4), .val (.int (2 : Int32)), .val (.ref b55), .unset, .unset, .unset, .unset, .unset, .unset, .unset, .unset] [(.ref b55), (.ref b61), (.ref b61)])) rfl (by rw [hml]; rfl) (Steps.refl _) (a := b61) (argsL := [(.ref b55)]) (rest := [(.ref b61)]) (lenOf pd__AC_V rfl) rfl (by show 2 * 0 + _ ≤ _; exact Nat.le_of_eq rfl) (hb hby at_76) (fun _ _ => ⟨rfl, e61, (by decide : 2 + 1 ≤ _), (by decide : 6 + 2 ≤ _)⟩)
        dsimp only [Pt.U, Pt.locs, Pt.cells, Pt.slots] at X63 l63 y63 z63 st63 hQ63
        subst l63 y63 z63
        obtain ⟨rfl, N63q, Kc63, Ec63, Fc63, t63, kt63, gt63, zt63, nt63, Fv63, Vt63⟩ := hQ63
        have N63 := Fr.app N60 N63q
        have sz64 : h0.size ≤ t63 := Nat.le_trans K61.1 zt63
        have gn64 : n0 ≤ t63 := Nat.le_trans Z0 sz64
        have O63 : Old Z n0 T63.heap := O61.keep Kc63 (allS gn61 all0)
        have K63 : Keep h0 T63.heap [] := K61.trans Kc63 (allS (Or.inr sz61) all0)
        have hk := Nat.le_trans hk Kc63.1
        have HC63 := CHv.keep Kc63 (allS (Safe.ext E61 HC60 (Safe.new (Z := Z) (EL := own_EL) (vm := _) (Nat.le_of_eq g61.symm))) all0) HC61
        have RC63 := RC61.trans (CHr.keep Kc63 (allS (Safe.ext E61 HC60 (Safe.new (Z := Z) (EL := own_EL) (vm := _) (Nat.le_of_eq g61.symm))) all0) HC61)
        obtain ⟨_, _, ⟨T66, L66, k66, n66⟩, -, Xh66, Sh66, gh66, ⟨Lc66, hQ66, l66, y66, z66, R66⟩, st66⟩ := callSS X63 hx (y := mN20) hown (mvT hZ (hw _ w_23)) (mvT hZ (hw _ w_24)) (mvT hZ (hw _ w_25)) (mvT hZ (hw _ w_26)) (by decide) (backOfSH (s := s) (W := 0) (rmtrim l Z a0 hw [] b61 sf cz t63 kt63 2 [((nar .char q_57)).toInt8.toInt32, ((nar .char q_59)).toInt8.toInt32] T63.heap n0 O63 Ec63 Fv63 Fc63 Vt63 hp0 hcz hp2 hsf (by decide) rfl) hZ (hw _ w_26) (hw _ w_25) (by decide) (by decide) hEL HC63) (g := (mkF m 83 #[.val (.int i0), .val (.int i1), .val (.int i2), .val (.int i3), .val (.int i4), .val (.int (2 : Int32)), .val (.ref b55), .val (.ref b61), .unset, .unset, .unset, .unset, .unset, .unset, .unset] [(.ref b61)])) rfl (by rw [hml]; rfl) (argsL := [(.ref b61)]) (rest := []) (lenOf pd__Ljava_lang_String__Ljava_lang_String_ rfl) rfl (by show 2 * 0 + _ ≤ _; exact Nat.le_of_eq rfl) (hb hby at_83) (fun _ _ => ⟨rfl, rfl, (by decide : 3 + 2 ≤ _), (by decide : 8 + 8 ≤ _)⟩)
        dsimp only [Pt.U, Pt.locs, Pt.cells, Pt.slots] at Xh66 Sh66 gh66 l66 y66 z66 R66 st66 hQ66
        subst l66 y66 z66
        obtain ⟨X66, hS, hZ, hown⟩ := rebS hS hk Xh66 Sh66 gh66 hZ hown
        have hk := Nat.le_refl T66.heap.size
        obtain ⟨r_66, t2_66, kt2_66, k_66, j_66, rfl, N66q, Kc66, r66_1, r66_2, r66_3, r66_4, r66_5⟩ := hQ66
        have N66 := Fr.app N63 N66q
        have O66 : Old Z n0 T66.heap := O63.keep Kc66 all0
        have K66 : Keep h0 T66.heap [] := K63.trans Kc66 all0
        have HC66 := R66.1
        have RC66 := RC63.trans R66
        have pre67 : ∀ tg_, Steps p.tables e below (T66.setTop (mkF m 88 #[.val (.int i0), .val (.int i1), .val (.int i2), .val (.int i3), .val (.int i4), .val (.int (2 : Int32)), .val (.ref b55), .val (.ref b61), .val (.ref r_66), .unset, .unset, .unset, .unset, .unset, .unset] [])) tg_ → Steps p.tables e below (s₁.setTop (entryFrame m #[(.int i0), (.int i1), (.int i2), (.int i3), (.int i4)] maxLocals)) tg_ := by
          intro tg_ kt_
          refine pre36 tg_ ?_
          refine XS.istore X0.here hx rfl (hb hby at_6) rfl (l' := #[.val (.int i0), .val (.int i1), .val (.int i2), .val (.int i3), .val (.int i4), .val (.int (2 : Int32)), .unset, .unset, .unset, .unset, .unset, .unset, .unset, .unset, .unset]) rfl ?_
          refine XS.iload X0.here hx rfl (hb hby at_8) rfl ?_
          show Steps p.tables e below (s₁.setTop (mkF m 10 #[.val (.int i0), .val (.int i1), .val (.int i2), .val (.int i3), .val (.int i4), .val (.int (2 : Int32)), .unset, .unset, .unset, .unset, .unset, .unset, .unset, .unset, .unset] [(.int (2 : Int32))])) _
          refine st55 _ ?_
          refine XS.astore X55.here hx rfl (hb hby at_12) rfl rfl (l' := #[.val (.int i0), .val (.int i1), .val (.int i2), .val (.int i3), .val (.int i4), .val (.int (2 : Int32)), .val (.ref b55), .unset, .unset, .unset, .unset, .unset, .unset, .unset, .unset]) rfl ?_
          refine XS.iload X55.here hx rfl (hb hby at_14) rfl ?_
          refine XS.ifNo X55.here hx rfl (hb hby at_16) rfl ((if0 _ _).trans (tlt (by decide : (0 : Int32) < (2 : Int32))).2.2.2) ?_
          show Steps p.tables e below (T55.setTop (mkF m 19 #[.val (.int i0), .val (.int i1), .val (.int i2), .val (.int i3), .val (.int i4), .val (.int (2 : Int32)), .val (.ref b55), .unset, .unset, .unset, .unset, .unset, .unset, .unset, .unset] [])) _
          refine XS.aload X55.here hx rfl (hb hby at_19) rfl rfl ?_
          refine XS.iconst X55.here hx rfl (hb hby at_21) ?_
          refine XS.iloadN X55.here hx rfl (hb hby at_22) rfl ?_
          show Steps p.tables e below (T55.setTop (mkF m 23 #[.val (.int i0), .val (.int i1), .val (.int i2), .val (.int i3), .val (.int i4), .val (.int (2 : Int32)), .val (.ref b55), .unset, .unset, .unset, .unset, .unset, .unset, .unset, .unset] [(.int i1), (.int (0 : Int32)), (.ref b55)])) _
          refine st57 _ ?_
          show Steps p.tables e below (T57.setTop (mkF m 26 #[.val (.int i0), .val (.int i1), .val (.int i2), .val (.int i3), .val (.int i4), .val (.int (2 : Int32)), .val (.ref b55), .unset, .unset, .unset, .unset, .unset, .unset, .unset, .unset] [(.int q_57), (.int (0 : Int32)), (.ref b55)])) _
          refine st58 _ ?_
          refine XS.iload X58.here hx rfl (hb hby at_27) rfl ?_
          refine XS.iconst X58.here hx rfl (hb hby at_29) ?_
          refine XS.icmpNo X58.here hx rfl (hb hby at_30) rfl (tlt (by decide : (1 : Int32) < (2 : Int32))).2.2.2 ?_
          show Steps p.tables e below (T58.setTop (mkF m 33 #[.val (.int i0), .val (.int i1), .val (.int i2), .val (.int i3), .val (.int i4), .val (.int (2 : Int32)), .val (.ref b55), .unset, .unset, .unset, .unset, .unset, .unset, .unset, .unset] [])) _
          refine XS.aload X58.here hx rfl (hb hby at_33) rfl rfl ?_
          refine XS.iconst X58.here hx rfl (hb hby at_35) ?_
          refine XS.iloadN X58.here hx rfl (hb hby at_36) rfl ?_
          show Steps p.tables e below (T58.setTop (mkF m 37 #[.val (.int i0), .val (.int i1), .val (.int i2), .val (.int i3), .val (.int i4), .val (.int (2 : Int32)), .val (.ref b55), .unset, .unset, .unset, .unset, .unset, .unset, .unset, .unset] [(.int i2), (.int (1 : Int32)), (.ref b55)])) _
          refine st59 _ ?_
          show Steps p.tables e below (T59.setTop (mkF m 40 #[.val (.int i0), .val (.int i1), .val (.int i2), .val (.int i3), .val (.int i4), .val (.int (2 : Int32)), .val (.ref b55), .unset, .unset, .unset, .unset, .unset, .unset, .unset, .unset] [(.int q_59), (.int (1 : Int32)), (.ref b55)])) _
          refine st60 _ ?_
          refine XS.iload X60.here hx rfl (hb hby at_41) rfl ?_
          refine XS.iconst X60.here hx rfl (hb hby at_43) ?_
          refine XS.icmpYes X60.here hx rfl (pc0 := 44) (pc' := 55) rfl (hb hby at_44) rfl (flt (by decide : ¬ ((2 : Int32) < (2 : Int32)))).2.2.2 (by decide) (by decide) ?_
          show Steps p.tables e below (T60.setTop (mkF m 55 #[.val (.int i0), .val (.int i1), .val (.int i2), .val (.int i3), .val (.int i4), .val (.int (2 : Int32)), .val (.ref b55), .unset, .unset, .unset, .unset, .unset, .unset, .unset, .unset] [])) _
          refine XS.iload X60.here hx rfl (hb hby at_55) rfl ?_
          refine XS.iconst X60.here hx rfl (hb hby at_57) ?_
          refine XS.icmpYes X60.here hx rfl (pc0 := 58) (pc' := 70) rfl (hb hby at_58) rfl (flt (by decide : ¬ ((3 : Int32) < (2 : Int32)))).2.2.2 (by decide) (by decide) ?_
          show Steps p.tables e below (T60.setTop (mkF m 70 #[.val (.int i0), .val (.int i1), .val (.int i2), .val (.int i3), .val (.int i4), .val (.int (2 : Int32)), .val (.ref b55), .unset, .unset, .unset, .unset, .unset, .unset, .unset, .unset] [])) _
          refine st61 _ ?_
          refine XS.dup X61.here hx rfl (hb hby at_73) rfl rfl ?_
          refine XS.aload X61.here hx rfl (hb hby at_74) rfl rfl ?_
          show Steps p.tables e below (T61.setTop (mkF m 76 #[.val (.int i0), .val (.int i1), .val (.int i2), .val (.int i3), .val (.int i4), .val (.int (2 : Int32)), .val (.ref b55), .unset, .unset, .unset, .unset, .unset, .unset, .unset, .unset] [(.ref b55), (.ref b61), (.ref b61)])) _
          refine st63.trans ?_
          refine XS.astore X63.here hx rfl (hb hby at_79) rfl rfl (l' := #[.val (.int i0), .val (.int i1), .val (.int i2), .val (.int i3), .val (.int i4), .val (.int (2 : Int32)), .val (.ref b55), .val (.ref b61), .unset, .unset, .unset, .unset, .unset, .unset, .unset]) rfl ?_
          refine XS.aload X63.here hx rfl (hb hby at_81) rfl rfl ?_
          show Steps p.tables e below (T63.setTop (mkF m 83 #[.val (.int i0), .val (.int i1), .val (.int i2), .val (.int i3), .val (.int i4), .val (.int (2 : Int32)), .val (.ref b55), .val (.ref b61), .unset, .unset, .unset, .unset, .unset, .unset, .unset] [(.ref b61)])) _
          refine st66.trans ?_
          refine XS.astore X66.here hx rfl (hb hby at_86) rfl rfl (l' := #[.val (.int i0), .val (.int i1), .val (.int i2), .val (.int i3), .val (.int i4), .val (.int (2 : Int32)), .val (.ref b55), .val (.ref b61), .val (.ref r_66), .unset, .unset, .unset, .unset, .unset, .unset]) rfl ?_
          exact kt_
        exact afterTrim _ _ T66 T66.heap _ 2 b55 k55 [(nar .char q_57), (nar .char q_59)] r_66 t2_66 kt2_66 (([((nar .char q_57)).toInt8.toInt32, ((nar .char q_59)).toInt8.toInt32].drop k_66).take (j_66 - k_66)) k_66 (j_66 - k_66) (.val (.ref b61)) (Stand.more X66 (by decide) (by decide)) rfl hS hk hZ hown O66 K66 N66 HC66 RC66 (((V60.ext E61).keep Kc63 (ninS (Nat.ne_of_lt (Nat.lt_of_lt_of_le V60.lt (Nat.le_of_eq g61.symm))) nin0)).keep Kc66 nin0) r66_1 r66_2 r66_3 r66_4 (by decide) ((own_all (N := 2) (cs := [(nar .char q_57), (nar .char q_59)]) (by decide) rfl (fun c_ hc_ => by simp only [List.mem_cons, List.not_mem_nil, or_false] at hc_; rcases hc_ with rfl | rfl <;> first | exact own_lat r57_0 | exact own_lat r59_0) r66_5).1) ((own_all (N := 2) (cs := [(nar .char q_57), (nar .char q_59)]) (by decide) rfl (fun c_ hc_ => by simp only [List.mem_cons, List.not_mem_nil, or_false] at hc_; rcases hc_ with rfl | rfl <;> first | exact own_lat r57_0 | exact own_lat r59_0) r66_5).2.1) ((own_all (N := 2) (cs := [(nar .char q_57), (nar .char q_59)]) (by decide) rfl (fun c_ hc_ => by simp only [List.mem_cons, List.not_mem_nil, or_false] at hc_; rcases hc_ with rfl | rfl <;> first | exact own_lat r57_0 | exact own_lat r59_0) r66_5).2.2.1) ((own_all (N := 2) (cs := [(nar .char q_57), (nar .char q_59)]) (by decide) rfl (fun c_ hc_ => by simp only [List.mem_cons, List.not_mem_nil, or_false] at hc_; rcases hc_ with rfl | rfl <;> first | exact own_lat r57_0 | exact own_lat r59_0) r66_5).2.2.2.1) ((own_all (N := 2) (cs := [(nar .char q_57), (nar .char q_59)]) (by decide) rfl (fun c_ hc_ => by simp only [List.mem_cons, List.not_mem_nil, or_false] at hc_; rcases hc_ with rfl | rfl <;> first | exact own_lat r57_0 | exact own_lat r59_0) r66_5).2.2.2.2) pre67
      · obtain ⟨T68, h68, k68, X68, e68, E68, A68, st68⟩ := newP X0 hx hZ (hw (Jvm.Cond.arrayClass (newarray.typeOf .char)) w_1) e0 (g := (mkF m 10 #[.val (.int i0), .val (.int i1), .val (.int i2), .val (.int i3), .val (.int i4), .val (.int (3 : Int32)), .unset, .unset, .unset, .unset, .unset, .unset, .unset, .unset, .unset] [(.int (3 : Int32))])) rfl (hb hby at_10) rfl (by decide) (cap := 3) (by decide) (by decide) (by decide) (by decide)
        obtain ⟨b68, g68⟩ : ∃ z, z = h0.size := ⟨_, rfl⟩
        rw [← g68] at A68 st68
        have sz68 : h0.size ≤ b68 := Nat.le_trans (Keep.refl h0 []).1 (Nat.le_of_eq g68.symm)
        have gn68 : n0 ≤ b68 := Nat.le_trans Z0 sz68
        have O68 : Old Z n0 h68 := O0.ext E68
        have K68 : Keep h0 h68 [] := (Keep.refl h0 []).ext E68
        have hk := Nat.le_trans hk E68.1
        have HC68 := CHv.ext E68 HC0
        have RC68 := (CHr.refl HC0).trans (CHr.ext E68 HC0)
        have V68 : Arv Z h68 b68 k68 .char (3 : Int32) [(.int (0 : Int32)), (.int (0 : Int32)), (.int (0 : Int32))] (.int (0 : Int32)) := (Arv.new A68 (by decide)).pad (pad_rep [] (.int (0 : Int32)) 3)
        obtain ⟨_, _, ⟨T70, L70, k70, n70⟩, -, X70, ⟨Lc70, hQ70, l70, y70, z70⟩, st70⟩ := Jvm.LawKit.callS X68 hx (y := mN23) hown (mvT hZ (hw _ w_64)) (mvT hZ (hw _ w_65)) (mvT hZ (hw _ w_55)) (mvT hZ (hw _ w_66)) (by decide) (backOf (W := 2) (rmch l Z a0 hw [] i1 h68 n0 O68 ) hZ (hw _ w_66) (hw _ w_55) (by decide) (by decide)) (g := (mkF m 23 #[.val (.int i0), .val (.int i1), .val (.int i2), .val (.int i3), .val (.int i4), .val (.int (3 : Int32)), .val (.ref b68), .unset, .unset, .unset, .unset, .unset, .unset, .unset, .unset] [(.int i1), (.int (0 : Int32)), (.ref b68)])) rfl (by rw [hml]; rfl) (argsL := [(.int i1)]) (rest := [(.int (0 : Int32)), (.ref b68)]) (lenOf pd__I_C rfl) rfl (by show 2 * 0 + _ ≤ _; exact Nat.le_of_eq rfl) (hb hby at_23) (fun _ _ => ⟨rfl, e68, (by decide : 1 + 0 ≤ _), (by decide : 3 + 0 ≤ _)⟩)
        dsimp only [Pt.U, Pt.locs, Pt.cells, Pt.slots] at X70 l70 y70 z70 st70 hQ70
        subst l70 y70 z70
        obtain ⟨q_70, rfl, N70q, eh70, r70_0⟩ := hQ70
        have N70 := Fr.app N0 N70q
        obtain ⟨cl71, Ar71, q71, S71, Ng71, H71, G71⟩ := id V68
        have hin71 : ¬ ((0 : Int32) < 0 ∨ cl71.slots.size ≤ ((0 : Int32)).toNatClampNeg) := inb_of S71 ⟨by decide, by decide⟩
        obtain ⟨T71, h71, X71, e71, W71, st71⟩ := stC X70 hx hZ eh70 Ar71 (j := (0 : Int32)) hin71 (g := (mkF m 26 #[.val (.int i0), .val (.int i1), .val (.int i2), .val (.int i3), .val (.int i4), .val (.int (3 : Int32)), .val (.ref b68), .unset, .unset, .unset, .unset, .unset, .unset, .unset, .unset] [(.int q_70), (.int (0 : Int32)), (.ref b68)])) rfl rfl (hb hby at_26)
        have V71 : Arv Z h71 b68 k68 .char (3 : Int32) [(.int (nar .char q_70)), (.int (0 : Int32)), (.int (0 : Int32))] (.int (0 : Int32)) := Arv.set Ar71 q71 S71 Ng71 H71 G71 (fits_nar_char _) W71 0 rfl (Nat.le_of_ble_eq_true rfl)
        have N71 := Fr.snoc X71 N70 gn68
        have O71 : Old Z n0 h71 := O68.wr W71 gn68
        have K71 : Keep h0 h71 [] := K68.wr W71 (Or.inr sz68)
        have hk := Nat.le_trans hk (Keep.of_wr W71).1
        have HC71 := CHv.wr W71 (Safe.ext E68 HC0 (Safe.new (Z := Z) (EL := own_EL) (vm := _) (Nat.le_of_eq g68.symm))) HC68
        have RC71 := RC68.trans (CHr.wr W71 (Safe.ext E68 HC0 (Safe.new (Z := Z) (EL := own_EL) (vm := _) (Nat.le_of_eq g68.symm))) HC68)
        obtain ⟨_, _, ⟨T72, L72, k72, n72⟩, -, X72, ⟨Lc72, hQ72, l72, y72, z72⟩, st72⟩ := Jvm.LawKit.callS X71 hx (y := mN23) hown (mvT hZ (hw _ w_64)) (mvT hZ (hw _ w_65)) (mvT hZ (hw _ w_55)) (mvT hZ (hw _ w_66)) (by decide) (backOf (W := 2) (rmch l Z a0 hw [] i2 h71 n0 O71 ) hZ (hw _ w_66) (hw _ w_55) (by decide) (by decide)) (g := (mkF m 37 #[.val (.int i0), .val (.int i1), .val (.int i2), .val (.int i3), .val (.int i4), .val (.int (3 : Int32)), .val (.ref b68), .unset, .unset, .unset, .unset, .unset, .unset, .unset, .unset] [(.int i2), (.int (1 : Int32)), (.ref b68)])) rfl (by rw [hml]; rfl) (argsL := [(.int i2)]) (rest := [(.int (1 : Int32)), (.ref b68)]) (lenOf pd__I_C rfl) rfl (by show 2 * 0 + _ ≤ _; exact Nat.le_of_eq rfl) (hb hby at_37) (fun _ _ => ⟨rfl, e71, (by decide : 1 + 0 ≤ _), (by decide : 3 + 0 ≤ _)⟩)
        dsimp only [Pt.U, Pt.locs, Pt.cells, Pt.slots] at X72 l72 y72 z72 st72 hQ72
        subst l72 y72 z72
        obtain ⟨q_72, rfl, N72q, eh72, r72_0⟩ := hQ72
        have N72 := Fr.app N71 N72q
        obtain ⟨cl73, Ar73, q73, S73, Ng73, H73, G73⟩ := id V71
        have hin73 : ¬ ((1 : Int32) < 0 ∨ cl73.slots.size ≤ ((1 : Int32)).toNatClampNeg) := inb_of S73 ⟨by decide, by decide⟩
        obtain ⟨T73, h73, X73, e73, W73, st73⟩ := stC X72 hx hZ eh72 Ar73 (j := (1 : Int32)) hin73 (g := (mkF m 40 #[.val (.int i0), .val (.int i1), .val (.int i2), .val (.int i3), .val (.int i4), .val (.int (3 : Int32)), .val (.ref b68), .unset, .unset, .unset, .unset, .unset, .unset, .unset, .unset] [(.int q_72), (.int (1 : Int32)), (.ref b68)])) rfl rfl (hb hby at_40)
        have V73 : Arv Z h73 b68 k68 .char (3 : Int32) [(.int (nar .char q_70)), (.int (nar .char q_72)), (.int (0 : Int32))] (.int (0 : Int32)) := Arv.set Ar73 q73 S73 Ng73 H73 G73 (fits_nar_char _) W73 1 rfl (Nat.le_of_ble_eq_true rfl)
        have N73 := Fr.snoc X73 N72 gn68
        have O73 : Old Z n0 h73 := O71.wr W73 gn68
        have K73 : Keep h0 h73 [] := K71.wr W73 (Or.inr sz68)
        have hk := Nat.le_trans hk (Keep.of_wr W73).1
        have HC73 := CHv.wr W73 (Safe.wr W71 (Safe.ext E68 HC0 (Safe.new (Z := Z) (EL := own_EL) (vm := _) (Nat.le_of_eq g68.symm))) HC68 (Safe.ext E68 HC0 (Safe.new (Z := Z) (EL := own_EL) (vm := _) (Nat.le_of_eq g68.symm)))) HC71
        have RC73 := RC71.trans (CHr.wr W73 (Safe.wr W71 (Safe.ext E68 HC0 (Safe.new (Z := Z) (EL := own_EL) (vm := _) (Nat.le_of_eq g68.symm))) HC68 (Safe.ext E68 HC0 (Safe.new (Z := Z) (EL := own_EL) (vm := _) (Nat.le_of_eq g68.symm)))) HC71)
        obtain ⟨_, _, ⟨T74, L74, k74, n74⟩, -, X74, ⟨Lc74, hQ74, l74, y74, z74⟩, st74⟩ := Jvm.LawKit.callS X73 hx (y := mN23) hown (mvT hZ (hw _ w_64)) (mvT hZ (hw _ w_65)) (mvT hZ (hw _ w_55)) (mvT hZ (hw _ w_66)) (by decide) (backOf (W := 2) (rmch l Z a0 hw [] i3 h73 n0 O73 ) hZ (hw _ w_66) (hw _ w_55) (by decide) (by decide)) (g := (mkF m 51 #[.val (.int i0), .val (.int i1), .val (.int i2), .val (.int i3), .val (.int i4), .val (.int (3 : Int32)), .val (.ref b68), .unset, .unset, .unset, .unset, .unset, .unset, .unset, .unset] [(.int i3), (.int (2 : Int32)), (.ref b68)])) rfl (by rw [hml]; rfl) (argsL := [(.int i3)]) (rest := [(.int (2 : Int32)), (.ref b68)]) (lenOf pd__I_C rfl) rfl (by show 2 * 0 + _ ≤ _; exact Nat.le_of_eq rfl) (hb hby at_51) (fun _ _ => ⟨rfl, e73, (by decide : 1 + 0 ≤ _), (by decide : 3 + 0 ≤ _)⟩)
        dsimp only [Pt.U, Pt.locs, Pt.cells, Pt.slots] at X74 l74 y74 z74 st74 hQ74
        subst l74 y74 z74
        obtain ⟨q_74, rfl, N74q, eh74, r74_0⟩ := hQ74
        have N74 := Fr.app N73 N74q
        obtain ⟨cl75, Ar75, q75, S75, Ng75, H75, G75⟩ := id V73
        have hin75 : ¬ ((2 : Int32) < 0 ∨ cl75.slots.size ≤ ((2 : Int32)).toNatClampNeg) := inb_of S75 ⟨by decide, by decide⟩
        obtain ⟨T75, h75, X75, e75, W75, st75⟩ := stC X74 hx hZ eh74 Ar75 (j := (2 : Int32)) hin75 (g := (mkF m 54 #[.val (.int i0), .val (.int i1), .val (.int i2), .val (.int i3), .val (.int i4), .val (.int (3 : Int32)), .val (.ref b68), .unset, .unset, .unset, .unset, .unset, .unset, .unset, .unset] [(.int q_74), (.int (2 : Int32)), (.ref b68)])) rfl rfl (hb hby at_54)
        have V75 : Arv Z h75 b68 k68 .char (3 : Int32) [(.int (nar .char q_70)), (.int (nar .char q_72)), (.int (nar .char q_74))] (.int (0 : Int32)) := Arv.set Ar75 q75 S75 Ng75 H75 G75 (fits_nar_char _) W75 2 rfl (Nat.le_of_ble_eq_true rfl)
        have N75 := Fr.snoc X75 N74 gn68
        have O75 : Old Z n0 h75 := O73.wr W75 gn68
        have K75 : Keep h0 h75 [] := K73.wr W75 (Or.inr sz68)
        have hk := Nat.le_trans hk (Keep.of_wr W75).1
        have HC75 := CHv.wr W75 (Safe.wr W73 (Safe.wr W71 (Safe.ext E68 HC0 (Safe.new (Z := Z) (EL := own_EL) (vm := _) (Nat.le_of_eq g68.symm))) HC68 (Safe.ext E68 HC0 (Safe.new (Z := Z) (EL := own_EL) (vm := _) (Nat.le_of_eq g68.symm)))) HC71 (Safe.wr W71 (Safe.ext E68 HC0 (Safe.new (Z := Z) (EL := own_EL) (vm := _) (Nat.le_of_eq g68.symm))) HC68 (Safe.ext E68 HC0 (Safe.new (Z := Z) (EL := own_EL) (vm := _) (Nat.le_of_eq g68.symm))))) HC73
        have RC75 := RC73.trans (CHr.wr W75 (Safe.wr W73 (Safe.wr W71 (Safe.ext E68 HC0 (Safe.new (Z := Z) (EL := own_EL) (vm := _) (Nat.le_of_eq g68.symm))) HC68 (Safe.ext E68 HC0 (Safe.new (Z := Z) (EL := own_EL) (vm := _) (Nat.le_of_eq g68.symm)))) HC71 (Safe.wr W71 (Safe.ext E68 HC0 (Safe.new (Z := Z) (EL := own_EL) (vm := _) (Nat.le_of_eq g68.symm))) HC68 (Safe.ext E68 HC0 (Safe.new (Z := Z) (EL := own_EL) (vm := _) (Nat.le_of_eq g68.symm))))) HC73)
        obtain ⟨T76, h76, X76, e76, E76, A76, D76, U76, st76⟩ := newO X75 hx hZ hown (hw _ w_2) (hw _ w_3) (hw _ w_4) e75 (g := (mkF m 70 #[.val (.int i0), .val (.int i1), .val (.int i2), .val (.int i3), .val (.int i4), .val (.int (3 : Int32)), .val (.ref b68), .unset, .unset, .unset, .unset, .unset, .unset, .unset, .unset] [])) rfl (hb hby at_70) (by decide) (by decide)
        obtain ⟨b76, g76⟩ : ∃ z, z = h75.size := ⟨_, rfl⟩
        rw [← g76] at A76 D76 U76 st76
        have Un76 : Unt h76 b76 := U76
        have sz76 : h0.size ≤ b76 := Nat.le_trans K75.1 (Nat.le_of_eq g76.symm)
        have gn76 : n0 ≤ b76 := Nat.le_trans Z0 sz76
        have O76 : Old Z n0 h76 := O75.ext E76
        have K76 : Keep h0 h76 [] := K75.ext E76
        have hk := Nat.le_trans hk E76.1
        have HC76 := CHv.ext E76 HC75
        have RC76 := RC75.trans (CHr.ext E76 HC75)
        have F76_17 : Fld Z h76 b76 "java/lang/String" "value" "[B" .null := D76 (Or.inr (hw _ w_17)) (ty := (.array .byte)) (by decide)
        have F76_18 : Fld Z h76 b76 "java/lang/String" "coder" "B" (.int (0 : Int32)) := D76 (Or.inr (hw _ w_18)) (ty := .byte) (by decide)
        obtain ⟨_, _, ⟨T78, L78, k78, n78⟩, -, X78, ⟨Lc78, hQ78, l78, y78, z78⟩, st78⟩ := X76.specialBack hx (y := mN19) rfl hown (mvT hZ (hw _ w_5)) (mvT hZ (hw _ w_6)) (mvT hZ (hw _ w_7)) (by decide) (StrChars.Road.backV (W := 1) hZ (own_sw hw) (kI := 4) (hw _ w_3) (cs := [(nar .char q_70), (nar .char q_72), (nar .char q_74)]) (bs := [((nar .char q_70)).toInt8.toInt32, ((nar .char q_72)).toInt8.toInt32, ((nar .char q_74)).toInt8.toInt32]) (n := 3) gn76 (own_z0 O76) A76 F76_17 F76_18 (V75.ext E76) (hp0.ext O76.2) hcz rfl rfl (by decide) (by decide) (fun c_ hc_ => by simp only [List.mem_cons, List.not_mem_nil, or_false] at hc_; rcases hc_ with rfl | rfl | rfl <;> first | exact own_lat r70_0 | exact own_lat r72_0 | exact own_lat r74_0) rfl (by decide) (by decide)) (g := (mkF m 76 #[.val (.int i0), .val (.int i1), .val (.int i2), .val (.int i3), .val (.int i4), .val (.int (3 : Int32)), .val (.ref b68), .unset, .unset, .unset, .unset, .unset, .unset, .unset, .unset] [(.ref b68), (.ref b76), (.ref b76)])) rfl (by rw [hml]; rfl) (Steps.refl _) (a := b76) (argsL := [(.ref b68)]) (rest := [(.ref b76)]) (lenOf pd__AC_V rfl) rfl (by show 2 * 0 + _ ≤ _; exact Nat.le_of_eq rfl) (hb hby at_76) (fun _ _ => ⟨rfl, e76, (by decide : 2 + 1 ≤ _), (by decide : 7 + 3 ≤ _)⟩)
        dsimp only [Pt.U, Pt.locs, Pt.cells, Pt.slots] at X78 l78 y78 z78 st78 hQ78
        subst l78 y78 z78
        obtain ⟨rfl, N78q, Kc78, Ec78, Fc78, t78, kt78, gt78, zt78, nt78, Fv78, Vt78⟩ := hQ78
        have N78 := Fr.app N75 N78q
        have sz79 : h0.size ≤ t78 := Nat.le_trans K76.1 zt78
        have gn79 : n0 ≤ t78 := Nat.le_trans Z0 sz79
        have O78 : Old Z n0 T78.heap := O76.keep Kc78 (allS gn76 all0)
        have K78 : Keep h0 T78.heap [] := K76.trans Kc78 (allS (Or.inr sz76) all0)
        have hk := Nat.le_trans hk Kc78.1
        have HC78 := CHv.keep Kc78 (allS (Safe.ext E76 HC75 (Safe.new (Z := Z) (EL := own_EL) (vm := _) (Nat.le_of_eq g76.symm))) all0) HC76
        have RC78 := RC76.trans (CHr.keep Kc78 (allS (Safe.ext E76 HC75 (Safe.new (Z := Z) (EL := own_EL) (vm := _) (Nat.le_of_eq g76.symm))) all0) HC76)
        obtain ⟨_, _, ⟨T81, L81, k81, n81⟩, -, Xh81, Sh81, gh81, ⟨Lc81, hQ81, l81, y81, z81, R81⟩, st81⟩ := callSS X78 hx (y := mN20) hown (mvT hZ (hw _ w_23)) (mvT hZ (hw _ w_24)) (mvT hZ (hw _ w_25)) (mvT hZ (hw _ w_26)) (by decide) (backOfSH (s := s) (W := 0) (rmtrim l Z a0 hw [] b76 sf cz t78 kt78 3 [((nar .char q_70)).toInt8.toInt32, ((nar .char q_72)).toInt8.toInt32, ((nar .char q_74)).toInt8.toInt32] T78.heap n0 O78 Ec78 Fv78 Fc78 Vt78 hp0 hcz hp2 hsf (by decide) rfl) hZ (hw _ w_26) (hw _ w_25) (by decide) (by decide) hEL HC78) (g := (mkF m 83 #[.val (.int i0), .val (.int i1), .val (.int i2), .val (.int i3), .val (.int i4), .val (.int (3 : Int32)), .val (.ref b68), .val (.ref b76), .unset, .unset, .unset, .unset, .unset, .unset, .unset] [(.ref b76)])) rfl (by rw [hml]; rfl) (argsL := [(.ref b76)]) (rest := []) (lenOf pd__Ljava_lang_String__Ljava_lang_String_ rfl) rfl (by show 2 * 0 + _ ≤ _; exact Nat.le_of_eq rfl) (hb hby at_83) (fun _ _ => ⟨rfl, rfl, (by decide : 3 + 2 ≤ _), (by decide : 10 + 8 ≤ _)⟩)
        dsimp only [Pt.U, Pt.locs, Pt.cells, Pt.slots] at Xh81 Sh81 gh81 l81 y81 z81 R81 st81 hQ81
        subst l81 y81 z81
        obtain ⟨X81, hS, hZ, hown⟩ := rebS hS hk Xh81 Sh81 gh81 hZ hown
        have hk := Nat.le_refl T81.heap.size
        obtain ⟨r_81, t2_81, kt2_81, k_81, j_81, rfl, N81q, Kc81, r81_1, r81_2, r81_3, r81_4, r81_5⟩ := hQ81
        have N81 := Fr.app N78 N81q
        have O81 : Old Z n0 T81.heap := O78.keep Kc81 all0
        have K81 : Keep h0 T81.heap [] := K78.trans Kc81 all0
        have HC81 := R81.1
        have RC81 := RC78.trans R81
        have pre82 : ∀ tg_, Steps p.tables e below (T81.setTop (mkF m 88 #[.val (.int i0), .val (.int i1), .val (.int i2), .val (.int i3), .val (.int i4), .val (.int (3 : Int32)), .val (.ref b68), .val (.ref b76), .val (.ref r_81), .unset, .unset, .unset, .unset, .unset, .unset] [])) tg_ → Steps p.tables e below (s₁.setTop (entryFrame m #[(.int i0), (.int i1), (.int i2), (.int i3), (.int i4)] maxLocals)) tg_ := by
          intro tg_ kt_
          refine pre36 tg_ ?_
          refine XS.istore X0.here hx rfl (hb hby at_6) rfl (l' := #[.val (.int i0), .val (.int i1), .val (.int i2), .val (.int i3), .val (.int i4), .val (.int (3 : Int32)), .unset, .unset, .unset, .unset, .unset, .unset, .unset, .unset, .unset]) rfl ?_
          refine XS.iload X0.here hx rfl (hb hby at_8) rfl ?_
          show Steps p.tables e below (s₁.setTop (mkF m 10 #[.val (.int i0), .val (.int i1), .val (.int i2), .val (.int i3), .val (.int i4), .val (.int (3 : Int32)), .unset, .unset, .unset, .unset, .unset, .unset, .unset, .unset, .unset] [(.int (3 : Int32))])) _
          refine st68 _ ?_
          refine XS.astore X68.here hx rfl (hb hby at_12) rfl rfl (l' := #[.val (.int i0), .val (.int i1), .val (.int i2), .val (.int i3), .val (.int i4), .val (.int (3 : Int32)), .val (.ref b68), .unset, .unset, .unset, .unset, .unset, .unset, .unset, .unset]) rfl ?_
          refine XS.iload X68.here hx rfl (hb hby at_14) rfl ?_
          refine XS.ifNo X68.here hx rfl (hb hby at_16) rfl ((if0 _ _).trans (tlt (by decide : (0 : Int32) < (3 : Int32))).2.2.2) ?_
          show Steps p.tables e below (T68.setTop (mkF m 19 #[.val (.int i0), .val (.int i1), .val (.int i2), .val (.int i3), .val (.int i4), .val (.int (3 : Int32)), .val (.ref b68), .unset, .unset, .unset, .unset, .unset, .unset, .unset, .unset] [])) _
          refine XS.aload X68.here hx rfl (hb hby at_19) rfl rfl ?_
          refine XS.iconst X68.here hx rfl (hb hby at_21) ?_
          refine XS.iloadN X68.here hx rfl (hb hby at_22) rfl ?_
          show Steps p.tables e below (T68.setTop (mkF m 23 #[.val (.int i0), .val (.int i1), .val (.int i2), .val (.int i3), .val (.int i4), .val (.int (3 : Int32)), .val (.ref b68), .unset, .unset, .unset, .unset, .unset, .unset, .unset, .unset] [(.int i1), (.int (0 : Int32)), (.ref b68)])) _
          refine st70 _ ?_
          show Steps p.tables e below (T70.setTop (mkF m 26 #[.val (.int i0), .val (.int i1), .val (.int i2), .val (.int i3), .val (.int i4), .val (.int (3 : Int32)), .val (.ref b68), .unset, .unset, .unset, .unset, .unset, .unset, .unset, .unset] [(.int q_70), (.int (0 : Int32)), (.ref b68)])) _
          refine st71 _ ?_
          refine XS.iload X71.here hx rfl (hb hby at_27) rfl ?_
          refine XS.iconst X71.here hx rfl (hb hby at_29) ?_
          refine XS.icmpNo X71.here hx rfl (hb hby at_30) rfl (tlt (by decide : (1 : Int32) < (3 : Int32))).2.2.2 ?_
          show Steps p.tables e below (T71.setTop (mkF m 33 #[.val (.int i0), .val (.int i1), .val (.int i2), .val (.int i3), .val (.int i4), .val (.int (3 : Int32)), .val (.ref b68), .unset, .unset, .unset, .unset, .unset, .unset, .unset, .unset] [])) _
          refine XS.aload X71.here hx rfl (hb hby at_33) rfl rfl ?_
          refine XS.iconst X71.here hx rfl (hb hby at_35) ?_
          refine XS.iloadN X71.here hx rfl (hb hby at_36) rfl ?_
          show Steps p.tables e below (T71.setTop (mkF m 37 #[.val (.int i0), .val (.int i1), .val (.int i2), .val (.int i3), .val (.int i4), .val (.int (3 : Int32)), .val (.ref b68), .unset, .unset, .unset, .unset, .unset, .unset, .unset, .unset] [(.int i2), (.int (1 : Int32)), (.ref b68)])) _
          refine st72 _ ?_
          show Steps p.tables e below (T72.setTop (mkF m 40 #[.val (.int i0), .val (.int i1), .val (.int i2), .val (.int i3), .val (.int i4), .val (.int (3 : Int32)), .val (.ref b68), .unset, .unset, .unset, .unset, .unset, .unset, .unset, .unset] [(.int q_72), (.int (1 : Int32)), (.ref b68)])) _
          refine st73 _ ?_
          refine XS.iload X73.here hx rfl (hb hby at_41) rfl ?_
          refine XS.iconst X73.here hx rfl (hb hby at_43) ?_
          refine XS.icmpNo X73.here hx rfl (hb hby at_44) rfl (tlt (by decide : (2 : Int32) < (3 : Int32))).2.2.2 ?_
          show Steps p.tables e below (T73.setTop (mkF m 47 #[.val (.int i0), .val (.int i1), .val (.int i2), .val (.int i3), .val (.int i4), .val (.int (3 : Int32)), .val (.ref b68), .unset, .unset, .unset, .unset, .unset, .unset, .unset, .unset] [])) _
          refine XS.aload X73.here hx rfl (hb hby at_47) rfl rfl ?_
          refine XS.iconst X73.here hx rfl (hb hby at_49) ?_
          refine XS.iloadN X73.here hx rfl (hb hby at_50) rfl ?_
          show Steps p.tables e below (T73.setTop (mkF m 51 #[.val (.int i0), .val (.int i1), .val (.int i2), .val (.int i3), .val (.int i4), .val (.int (3 : Int32)), .val (.ref b68), .unset, .unset, .unset, .unset, .unset, .unset, .unset, .unset] [(.int i3), (.int (2 : Int32)), (.ref b68)])) _
          refine st74 _ ?_
          show Steps p.tables e below (T74.setTop (mkF m 54 #[.val (.int i0), .val (.int i1), .val (.int i2), .val (.int i3), .val (.int i4), .val (.int (3 : Int32)), .val (.ref b68), .unset, .unset, .unset, .unset, .unset, .unset, .unset, .unset] [(.int q_74), (.int (2 : Int32)), (.ref b68)])) _
          refine st75 _ ?_
          refine XS.iload X75.here hx rfl (hb hby at_55) rfl ?_
          refine XS.iconst X75.here hx rfl (hb hby at_57) ?_
          refine XS.icmpYes X75.here hx rfl (pc0 := 58) (pc' := 70) rfl (hb hby at_58) rfl (flt (by decide : ¬ ((3 : Int32) < (3 : Int32)))).2.2.2 (by decide) (by decide) ?_
          show Steps p.tables e below (T75.setTop (mkF m 70 #[.val (.int i0), .val (.int i1), .val (.int i2), .val (.int i3), .val (.int i4), .val (.int (3 : Int32)), .val (.ref b68), .unset, .unset, .unset, .unset, .unset, .unset, .unset, .unset] [])) _
          refine st76 _ ?_
          refine XS.dup X76.here hx rfl (hb hby at_73) rfl rfl ?_
          refine XS.aload X76.here hx rfl (hb hby at_74) rfl rfl ?_
          show Steps p.tables e below (T76.setTop (mkF m 76 #[.val (.int i0), .val (.int i1), .val (.int i2), .val (.int i3), .val (.int i4), .val (.int (3 : Int32)), .val (.ref b68), .unset, .unset, .unset, .unset, .unset, .unset, .unset, .unset] [(.ref b68), (.ref b76), (.ref b76)])) _
          refine st78.trans ?_
          refine XS.astore X78.here hx rfl (hb hby at_79) rfl rfl (l' := #[.val (.int i0), .val (.int i1), .val (.int i2), .val (.int i3), .val (.int i4), .val (.int (3 : Int32)), .val (.ref b68), .val (.ref b76), .unset, .unset, .unset, .unset, .unset, .unset, .unset]) rfl ?_
          refine XS.aload X78.here hx rfl (hb hby at_81) rfl rfl ?_
          show Steps p.tables e below (T78.setTop (mkF m 83 #[.val (.int i0), .val (.int i1), .val (.int i2), .val (.int i3), .val (.int i4), .val (.int (3 : Int32)), .val (.ref b68), .val (.ref b76), .unset, .unset, .unset, .unset, .unset, .unset, .unset] [(.ref b76)])) _
          refine st81.trans ?_
          refine XS.astore X81.here hx rfl (hb hby at_86) rfl rfl (l' := #[.val (.int i0), .val (.int i1), .val (.int i2), .val (.int i3), .val (.int i4), .val (.int (3 : Int32)), .val (.ref b68), .val (.ref b76), .val (.ref r_81), .unset, .unset, .unset, .unset, .unset, .unset]) rfl ?_
          exact kt_
        exact afterTrim _ _ T81 T81.heap _ 3 b68 k68 [(nar .char q_70), (nar .char q_72), (nar .char q_74)] r_81 t2_81 kt2_81 (([((nar .char q_70)).toInt8.toInt32, ((nar .char q_72)).toInt8.toInt32, ((nar .char q_74)).toInt8.toInt32].drop k_81).take (j_81 - k_81)) k_81 (j_81 - k_81) (.val (.ref b76)) (Stand.more X81 (by decide) (by decide)) rfl hS hk hZ hown O81 K81 N81 HC81 RC81 (((V75.ext E76).keep Kc78 (ninS (Nat.ne_of_lt (Nat.lt_of_lt_of_le V75.lt (Nat.le_of_eq g76.symm))) nin0)).keep Kc81 nin0) r81_1 r81_2 r81_3 r81_4 (by decide) ((own_all (N := 3) (cs := [(nar .char q_70), (nar .char q_72), (nar .char q_74)]) (by decide) rfl (fun c_ hc_ => by simp only [List.mem_cons, List.not_mem_nil, or_false] at hc_; rcases hc_ with rfl | rfl | rfl <;> first | exact own_lat r70_0 | exact own_lat r72_0 | exact own_lat r74_0) r81_5).1) ((own_all (N := 3) (cs := [(nar .char q_70), (nar .char q_72), (nar .char q_74)]) (by decide) rfl (fun c_ hc_ => by simp only [List.mem_cons, List.not_mem_nil, or_false] at hc_; rcases hc_ with rfl | rfl | rfl <;> first | exact own_lat r70_0 | exact own_lat r72_0 | exact own_lat r74_0) r81_5).2.1) ((own_all (N := 3) (cs := [(nar .char q_70), (nar .char q_72), (nar .char q_74)]) (by decide) rfl (fun c_ hc_ => by simp only [List.mem_cons, List.not_mem_nil, or_false] at hc_; rcases hc_ with rfl | rfl | rfl <;> first | exact own_lat r70_0 | exact own_lat r72_0 | exact own_lat r74_0) r81_5).2.2.1) ((own_all (N := 3) (cs := [(nar .char q_70), (nar .char q_72), (nar .char q_74)]) (by decide) rfl (fun c_ hc_ => by simp only [List.mem_cons, List.not_mem_nil, or_false] at hc_; rcases hc_ with rfl | rfl | rfl <;> first | exact own_lat r70_0 | exact own_lat r72_0 | exact own_lat r74_0) r81_5).2.2.2.1) ((own_all (N := 3) (cs := [(nar .char q_70), (nar .char q_72), (nar .char q_74)]) (by decide) rfl (fun c_ hc_ => by simp only [List.mem_cons, List.not_mem_nil, or_false] at hc_; rcases hc_ with rfl | rfl | rfl <;> first | exact own_lat r70_0 | exact own_lat r72_0 | exact own_lat r74_0) r81_5).2.2.2.2) pre82
      · obtain ⟨T83, h83, k83, X83, e83, E83, A83, st83⟩ := newP X0 hx hZ (hw (Jvm.Cond.arrayClass (newarray.typeOf .char)) w_1) e0 (g := (mkF m 10 #[.val (.int i0), .val (.int i1), .val (.int i2), .val (.int i3), .val (.int i4), .val (.int (4 : Int32)), .unset, .unset, .unset, .unset, .unset, .unset, .unset, .unset, .unset] [(.int (4 : Int32))])) rfl (hb hby at_10) rfl (by decide) (cap := 4) (by decide) (by decide) (by decide) (by decide)
        obtain ⟨b83, g83⟩ : ∃ z, z = h0.size := ⟨_, rfl⟩
        rw [← g83] at A83 st83
        have sz83 : h0.size ≤ b83 := Nat.le_trans (Keep.refl h0 []).1 (Nat.le_of_eq g83.symm)
        have gn83 : n0 ≤ b83 := Nat.le_trans Z0 sz83
        have O83 : Old Z n0 h83 := O0.ext E83
        have K83 : Keep h0 h83 [] := (Keep.refl h0 []).ext E83
        have hk := Nat.le_trans hk E83.1
        have HC83 := CHv.ext E83 HC0
        have RC83 := (CHr.refl HC0).trans (CHr.ext E83 HC0)
        have V83 : Arv Z h83 b83 k83 .char (4 : Int32) [(.int (0 : Int32)), (.int (0 : Int32)), (.int (0 : Int32)), (.int (0 : Int32))] (.int (0 : Int32)) := (Arv.new A83 (by decide)).pad (pad_rep [] (.int (0 : Int32)) 4)
        obtain ⟨_, _, ⟨T85, L85, k85, n85⟩, -, X85, ⟨Lc85, hQ85, l85, y85, z85⟩, st85⟩ := Jvm.LawKit.callS X83 hx (y := mN23) hown (mvT hZ (hw _ w_64)) (mvT hZ (hw _ w_65)) (mvT hZ (hw _ w_55)) (mvT hZ (hw _ w_66)) (by decide) (backOf (W := 2) (rmch l Z a0 hw [] i1 h83 n0 O83 ) hZ (hw _ w_66) (hw _ w_55) (by decide) (by decide)) (g := (mkF m 23 #[.val (.int i0), .val (.int i1), .val (.int i2), .val (.int i3), .val (.int i4), .val (.int (4 : Int32)), .val (.ref b83), .unset, .unset, .unset, .unset, .unset, .unset, .unset, .unset] [(.int i1), (.int (0 : Int32)), (.ref b83)])) rfl (by rw [hml]; rfl) (argsL := [(.int i1)]) (rest := [(.int (0 : Int32)), (.ref b83)]) (lenOf pd__I_C rfl) rfl (by show 2 * 0 + _ ≤ _; exact Nat.le_of_eq rfl) (hb hby at_23) (fun _ _ => ⟨rfl, e83, (by decide : 1 + 0 ≤ _), (by decide : 4 + 0 ≤ _)⟩)
        dsimp only [Pt.U, Pt.locs, Pt.cells, Pt.slots] at X85 l85 y85 z85 st85 hQ85
        subst l85 y85 z85
        obtain ⟨q_85, rfl, N85q, eh85, r85_0⟩ := hQ85
        have N85 := Fr.app N0 N85q
        obtain ⟨cl86, Ar86, q86, S86, Ng86, H86, G86⟩ := id V83
        have hin86 : ¬ ((0 : Int32) < 0 ∨ cl86.slots.size ≤ ((0 : Int32)).toNatClampNeg) := inb_of S86 ⟨by decide, by decide⟩
        obtain ⟨T86, h86, X86, e86, W86, st86⟩ := stC X85 hx hZ eh85 Ar86 (j := (0 : Int32)) hin86 (g := (mkF m 26 #[.val (.int i0), .val (.int i1), .val (.int i2), .val (.int i3), .val (.int i4), .val (.int (4 : Int32)), .val (.ref b83), .unset, .unset, .unset, .unset, .unset, .unset, .unset, .unset] [(.int q_85), (.int (0 : Int32)), (.ref b83)])) rfl rfl (hb hby at_26)
        have V86 : Arv Z h86 b83 k83 .char (4 : Int32) [(.int (nar .char q_85)), (.int (0 : Int32)), (.int (0 : Int32)), (.int (0 : Int32))] (.int (0 : Int32)) := Arv.set Ar86 q86 S86 Ng86 H86 G86 (fits_nar_char _) W86 0 rfl (Nat.le_of_ble_eq_true rfl)
        have N86 := Fr.snoc X86 N85 gn83
        have O86 : Old Z n0 h86 := O83.wr W86 gn83
        have K86 : Keep h0 h86 [] := K83.wr W86 (Or.inr sz83)
        have hk := Nat.le_trans hk (Keep.of_wr W86).1
        have HC86 := CHv.wr W86 (Safe.ext E83 HC0 (Safe.new (Z := Z) (EL := own_EL) (vm := _) (Nat.le_of_eq g83.symm))) HC83
        have RC86 := RC83.trans (CHr.wr W86 (Safe.ext E83 HC0 (Safe.new (Z := Z) (EL := own_EL) (vm := _) (Nat.le_of_eq g83.symm))) HC83)
        obtain ⟨_, _, ⟨T87, L87, k87, n87⟩, -, X87, ⟨Lc87, hQ87, l87, y87, z87⟩, st87⟩ := Jvm.LawKit.callS X86 hx (y := mN23) hown (mvT hZ (hw _ w_64)) (mvT hZ (hw _ w_65)) (mvT hZ (hw _ w_55)) (mvT hZ (hw _ w_66)) (by decide) (backOf (W := 2) (rmch l Z a0 hw [] i2 h86 n0 O86 ) hZ (hw _ w_66) (hw _ w_55) (by decide) (by decide)) (g := (mkF m 37 #[.val (.int i0), .val (.int i1), .val (.int i2), .val (.int i3), .val (.int i4), .val (.int (4 : Int32)), .val (.ref b83), .unset, .unset, .unset, .unset, .unset, .unset, .unset, .unset] [(.int i2), (.int (1 : Int32)), (.ref b83)])) rfl (by rw [hml]; rfl) (argsL := [(.int i2)]) (rest := [(.int (1 : Int32)), (.ref b83)]) (lenOf pd__I_C rfl) rfl (by show 2 * 0 + _ ≤ _; exact Nat.le_of_eq rfl) (hb hby at_37) (fun _ _ => ⟨rfl, e86, (by decide : 1 + 0 ≤ _), (by decide : 4 + 0 ≤ _)⟩)
        dsimp only [Pt.U, Pt.locs, Pt.cells, Pt.slots] at X87 l87 y87 z87 st87 hQ87
        subst l87 y87 z87
        obtain ⟨q_87, rfl, N87q, eh87, r87_0⟩ := hQ87
        have N87 := Fr.app N86 N87q
        obtain ⟨cl88, Ar88, q88, S88, Ng88, H88, G88⟩ := id V86
        have hin88 : ¬ ((1 : Int32) < 0 ∨ cl88.slots.size ≤ ((1 : Int32)).toNatClampNeg) := inb_of S88 ⟨by decide, by decide⟩
        obtain ⟨T88, h88, X88, e88, W88, st88⟩ := stC X87 hx hZ eh87 Ar88 (j := (1 : Int32)) hin88 (g := (mkF m 40 #[.val (.int i0), .val (.int i1), .val (.int i2), .val (.int i3), .val (.int i4), .val (.int (4 : Int32)), .val (.ref b83), .unset, .unset, .unset, .unset, .unset, .unset, .unset, .unset] [(.int q_87), (.int (1 : Int32)), (.ref b83)])) rfl rfl (hb hby at_40)
        have V88 : Arv Z h88 b83 k83 .char (4 : Int32) [(.int (nar .char q_85)), (.int (nar .char q_87)), (.int (0 : Int32)), (.int (0 : Int32))] (.int (0 : Int32)) := Arv.set Ar88 q88 S88 Ng88 H88 G88 (fits_nar_char _) W88 1 rfl (Nat.le_of_ble_eq_true rfl)
        have N88 := Fr.snoc X88 N87 gn83
        have O88 : Old Z n0 h88 := O86.wr W88 gn83
        have K88 : Keep h0 h88 [] := K86.wr W88 (Or.inr sz83)
        have hk := Nat.le_trans hk (Keep.of_wr W88).1
        have HC88 := CHv.wr W88 (Safe.wr W86 (Safe.ext E83 HC0 (Safe.new (Z := Z) (EL := own_EL) (vm := _) (Nat.le_of_eq g83.symm))) HC83 (Safe.ext E83 HC0 (Safe.new (Z := Z) (EL := own_EL) (vm := _) (Nat.le_of_eq g83.symm)))) HC86
        have RC88 := RC86.trans (CHr.wr W88 (Safe.wr W86 (Safe.ext E83 HC0 (Safe.new (Z := Z) (EL := own_EL) (vm := _) (Nat.le_of_eq g83.symm))) HC83 (Safe.ext E83 HC0 (Safe.new (Z := Z) (EL := own_EL) (vm := _) (Nat.le_of_eq g83.symm)))) HC86)
        obtain ⟨_, _, ⟨T89, L89, k89, n89⟩, -, X89, ⟨Lc89, hQ89, l89, y89, z89⟩, st89⟩ := Jvm.LawKit.callS X88 hx (y := mN23) hown (mvT hZ (hw _ w_64)) (mvT hZ (hw _ w_65)) (mvT hZ (hw _ w_55)) (mvT hZ (hw _ w_66)) (by decide) (backOf (W := 2) (rmch l Z a0 hw [] i3 h88 n0 O88 ) hZ (hw _ w_66) (hw _ w_55) (by decide) (by decide)) (g := (mkF m 51 #[.val (.int i0), .val (.int i1), .val (.int i2), .val (.int i3), .val (.int i4), .val (.int (4 : Int32)), .val (.ref b83), .unset, .unset, .unset, .unset, .unset, .unset, .unset, .unset] [(.int i3), (.int (2 : Int32)), (.ref b83)])) rfl (by rw [hml]; rfl) (argsL := [(.int i3)]) (rest := [(.int (2 : Int32)), (.ref b83)]) (lenOf pd__I_C rfl) rfl (by show 2 * 0 + _ ≤ _; exact Nat.le_of_eq rfl) (hb hby at_51) (fun _ _ => ⟨rfl, e88, (by decide : 1 + 0 ≤ _), (by decide : 4 + 0 ≤ _)⟩)
        dsimp only [Pt.U, Pt.locs, Pt.cells, Pt.slots] at X89 l89 y89 z89 st89 hQ89
        subst l89 y89 z89
        obtain ⟨q_89, rfl, N89q, eh89, r89_0⟩ := hQ89
        have N89 := Fr.app N88 N89q
        obtain ⟨cl90, Ar90, q90, S90, Ng90, H90, G90⟩ := id V88
        have hin90 : ¬ ((2 : Int32) < 0 ∨ cl90.slots.size ≤ ((2 : Int32)).toNatClampNeg) := inb_of S90 ⟨by decide, by decide⟩
        obtain ⟨T90, h90, X90, e90, W90, st90⟩ := stC X89 hx hZ eh89 Ar90 (j := (2 : Int32)) hin90 (g := (mkF m 54 #[.val (.int i0), .val (.int i1), .val (.int i2), .val (.int i3), .val (.int i4), .val (.int (4 : Int32)), .val (.ref b83), .unset, .unset, .unset, .unset, .unset, .unset, .unset, .unset] [(.int q_89), (.int (2 : Int32)), (.ref b83)])) rfl rfl (hb hby at_54)
        have V90 : Arv Z h90 b83 k83 .char (4 : Int32) [(.int (nar .char q_85)), (.int (nar .char q_87)), (.int (nar .char q_89)), (.int (0 : Int32))] (.int (0 : Int32)) := Arv.set Ar90 q90 S90 Ng90 H90 G90 (fits_nar_char _) W90 2 rfl (Nat.le_of_ble_eq_true rfl)
        have N90 := Fr.snoc X90 N89 gn83
        have O90 : Old Z n0 h90 := O88.wr W90 gn83
        have K90 : Keep h0 h90 [] := K88.wr W90 (Or.inr sz83)
        have hk := Nat.le_trans hk (Keep.of_wr W90).1
        have HC90 := CHv.wr W90 (Safe.wr W88 (Safe.wr W86 (Safe.ext E83 HC0 (Safe.new (Z := Z) (EL := own_EL) (vm := _) (Nat.le_of_eq g83.symm))) HC83 (Safe.ext E83 HC0 (Safe.new (Z := Z) (EL := own_EL) (vm := _) (Nat.le_of_eq g83.symm)))) HC86 (Safe.wr W86 (Safe.ext E83 HC0 (Safe.new (Z := Z) (EL := own_EL) (vm := _) (Nat.le_of_eq g83.symm))) HC83 (Safe.ext E83 HC0 (Safe.new (Z := Z) (EL := own_EL) (vm := _) (Nat.le_of_eq g83.symm))))) HC88
        have RC90 := RC88.trans (CHr.wr W90 (Safe.wr W88 (Safe.wr W86 (Safe.ext E83 HC0 (Safe.new (Z := Z) (EL := own_EL) (vm := _) (Nat.le_of_eq g83.symm))) HC83 (Safe.ext E83 HC0 (Safe.new (Z := Z) (EL := own_EL) (vm := _) (Nat.le_of_eq g83.symm)))) HC86 (Safe.wr W86 (Safe.ext E83 HC0 (Safe.new (Z := Z) (EL := own_EL) (vm := _) (Nat.le_of_eq g83.symm))) HC83 (Safe.ext E83 HC0 (Safe.new (Z := Z) (EL := own_EL) (vm := _) (Nat.le_of_eq g83.symm))))) HC88)
        obtain ⟨_, _, ⟨T91, L91, k91, n91⟩, -, X91, ⟨Lc91, hQ91, l91, y91, z91⟩, st91⟩ := Jvm.LawKit.callS X90 hx (y := mN23) hown (mvT hZ (hw _ w_64)) (mvT hZ (hw _ w_65)) (mvT hZ (hw _ w_55)) (mvT hZ (hw _ w_66)) (by decide) (backOf (W := 2) (rmch l Z a0 hw [] i4 h90 n0 O90 ) hZ (hw _ w_66) (hw _ w_55) (by decide) (by decide)) (g := (mkF m 66 #[.val (.int i0), .val (.int i1), .val (.int i2), .val (.int i3), .val (.int i4), .val (.int (4 : Int32)), .val (.ref b83), .unset, .unset, .unset, .unset, .unset, .unset, .unset, .unset] [(.int i4), (.int (3 : Int32)), (.ref b83)])) rfl (by rw [hml]; rfl) (argsL := [(.int i4)]) (rest := [(.int (3 : Int32)), (.ref b83)]) (lenOf pd__I_C rfl) rfl (by show 2 * 0 + _ ≤ _; exact Nat.le_of_eq rfl) (hb hby at_66) (fun _ _ => ⟨rfl, e90, (by decide : 1 + 0 ≤ _), (by decide : 4 + 0 ≤ _)⟩)
        dsimp only [Pt.U, Pt.locs, Pt.cells, Pt.slots] at X91 l91 y91 z91 st91 hQ91
        subst l91 y91 z91
        obtain ⟨q_91, rfl, N91q, eh91, r91_0⟩ := hQ91
        have N91 := Fr.app N90 N91q
        obtain ⟨cl92, Ar92, q92, S92, Ng92, H92, G92⟩ := id V90
        have hin92 : ¬ ((3 : Int32) < 0 ∨ cl92.slots.size ≤ ((3 : Int32)).toNatClampNeg) := inb_of S92 ⟨by decide, by decide⟩
        obtain ⟨T92, h92, X92, e92, W92, st92⟩ := stC X91 hx hZ eh91 Ar92 (j := (3 : Int32)) hin92 (g := (mkF m 69 #[.val (.int i0), .val (.int i1), .val (.int i2), .val (.int i3), .val (.int i4), .val (.int (4 : Int32)), .val (.ref b83), .unset, .unset, .unset, .unset, .unset, .unset, .unset, .unset] [(.int q_91), (.int (3 : Int32)), (.ref b83)])) rfl rfl (hb hby at_69)
        have V92 : Arv Z h92 b83 k83 .char (4 : Int32) [(.int (nar .char q_85)), (.int (nar .char q_87)), (.int (nar .char q_89)), (.int (nar .char q_91))] (.int (0 : Int32)) := Arv.set Ar92 q92 S92 Ng92 H92 G92 (fits_nar_char _) W92 3 rfl (Nat.le_of_ble_eq_true rfl)
        have N92 := Fr.snoc X92 N91 gn83
        have O92 : Old Z n0 h92 := O90.wr W92 gn83
        have K92 : Keep h0 h92 [] := K90.wr W92 (Or.inr sz83)
        have hk := Nat.le_trans hk (Keep.of_wr W92).1
        have HC92 := CHv.wr W92 (Safe.wr W90 (Safe.wr W88 (Safe.wr W86 (Safe.ext E83 HC0 (Safe.new (Z := Z) (EL := own_EL) (vm := _) (Nat.le_of_eq g83.symm))) HC83 (Safe.ext E83 HC0 (Safe.new (Z := Z) (EL := own_EL) (vm := _) (Nat.le_of_eq g83.symm)))) HC86 (Safe.wr W86 (Safe.ext E83 HC0 (Safe.new (Z := Z) (EL := own_EL) (vm := _) (Nat.le_of_eq g83.symm))) HC83 (Safe.ext E83 HC0 (Safe.new (Z := Z) (EL := own_EL) (vm := _) (Nat.le_of_eq g83.symm))))) HC88 (Safe.wr W88 (Safe.wr W86 (Safe.ext E83 HC0 (Safe.new (Z := Z) (EL := own_EL) (vm := _) (Nat.le_of_eq g83.symm))) HC83 (Safe.ext E83 HC0 (Safe.new (Z := Z) (EL := own_EL) (vm := _) (Nat.le_of_eq g83.symm)))) HC86 (Safe.wr W86 (Safe.ext E83 HC0 (Safe.new (Z := Z) (EL := own_EL) (vm := _) (Nat.le_of_eq g83.symm))) HC83 (Safe.ext E83 HC0 (Safe.new (Z := Z) (EL := own_EL) (vm := _) (Nat.le_of_eq g83.symm)))))) HC90
        have RC92 := RC90.trans (CHr.wr W92 (Safe.wr W90 (Safe.wr W88 (Safe.wr W86 (Safe.ext E83 HC0 (Safe.new (Z := Z) (EL := own_EL) (vm := _) (Nat.le_of_eq g83.symm))) HC83 (Safe.ext E83 HC0 (Safe.new (Z := Z) (EL := own_EL) (vm := _) (Nat.le_of_eq g83.symm)))) HC86 (Safe.wr W86 (Safe.ext E83 HC0 (Safe.new (Z := Z) (EL := own_EL) (vm := _) (Nat.le_of_eq g83.symm))) HC83 (Safe.ext E83 HC0 (Safe.new (Z := Z) (EL := own_EL) (vm := _) (Nat.le_of_eq g83.symm))))) HC88 (Safe.wr W88 (Safe.wr W86 (Safe.ext E83 HC0 (Safe.new (Z := Z) (EL := own_EL) (vm := _) (Nat.le_of_eq g83.symm))) HC83 (Safe.ext E83 HC0 (Safe.new (Z := Z) (EL := own_EL) (vm := _) (Nat.le_of_eq g83.symm)))) HC86 (Safe.wr W86 (Safe.ext E83 HC0 (Safe.new (Z := Z) (EL := own_EL) (vm := _) (Nat.le_of_eq g83.symm))) HC83 (Safe.ext E83 HC0 (Safe.new (Z := Z) (EL := own_EL) (vm := _) (Nat.le_of_eq g83.symm)))))) HC90)
        obtain ⟨T93, h93, X93, e93, E93, A93, D93, U93, st93⟩ := newO X92 hx hZ hown (hw _ w_2) (hw _ w_3) (hw _ w_4) e92 (g := (mkF m 70 #[.val (.int i0), .val (.int i1), .val (.int i2), .val (.int i3), .val (.int i4), .val (.int (4 : Int32)), .val (.ref b83), .unset, .unset, .unset, .unset, .unset, .unset, .unset, .unset] [])) rfl (hb hby at_70) (by decide) (by decide)
        obtain ⟨b93, g93⟩ : ∃ z, z = h92.size := ⟨_, rfl⟩
        rw [← g93] at A93 D93 U93 st93
        have Un93 : Unt h93 b93 := U93
        have sz93 : h0.size ≤ b93 := Nat.le_trans K92.1 (Nat.le_of_eq g93.symm)
        have gn93 : n0 ≤ b93 := Nat.le_trans Z0 sz93
        have O93 : Old Z n0 h93 := O92.ext E93
        have K93 : Keep h0 h93 [] := K92.ext E93
        have hk := Nat.le_trans hk E93.1
        have HC93 := CHv.ext E93 HC92
        have RC93 := RC92.trans (CHr.ext E93 HC92)
        have F93_17 : Fld Z h93 b93 "java/lang/String" "value" "[B" .null := D93 (Or.inr (hw _ w_17)) (ty := (.array .byte)) (by decide)
        have F93_18 : Fld Z h93 b93 "java/lang/String" "coder" "B" (.int (0 : Int32)) := D93 (Or.inr (hw _ w_18)) (ty := .byte) (by decide)
        obtain ⟨_, _, ⟨T95, L95, k95, n95⟩, -, X95, ⟨Lc95, hQ95, l95, y95, z95⟩, st95⟩ := X93.specialBack hx (y := mN19) rfl hown (mvT hZ (hw _ w_5)) (mvT hZ (hw _ w_6)) (mvT hZ (hw _ w_7)) (by decide) (StrChars.Road.backV (W := 1) hZ (own_sw hw) (kI := 4) (hw _ w_3) (cs := [(nar .char q_85), (nar .char q_87), (nar .char q_89), (nar .char q_91)]) (bs := [((nar .char q_85)).toInt8.toInt32, ((nar .char q_87)).toInt8.toInt32, ((nar .char q_89)).toInt8.toInt32, ((nar .char q_91)).toInt8.toInt32]) (n := 4) gn93 (own_z0 O93) A93 F93_17 F93_18 (V92.ext E93) (hp0.ext O93.2) hcz rfl rfl (by decide) (by decide) (fun c_ hc_ => by simp only [List.mem_cons, List.not_mem_nil, or_false] at hc_; rcases hc_ with rfl | rfl | rfl | rfl <;> first | exact own_lat r85_0 | exact own_lat r87_0 | exact own_lat r89_0 | exact own_lat r91_0) rfl (by decide) (by decide)) (g := (mkF m 76 #[.val (.int i0), .val (.int i1), .val (.int i2), .val (.int i3), .val (.int i4), .val (.int (4 : Int32)), .val (.ref b83), .unset, .unset, .unset, .unset, .unset, .unset, .unset, .unset] [(.ref b83), (.ref b93), (.ref b93)])) rfl (by rw [hml]; rfl) (Steps.refl _) (a := b93) (argsL := [(.ref b83)]) (rest := [(.ref b93)]) (lenOf pd__AC_V rfl) rfl (by show 2 * 0 + _ ≤ _; exact Nat.le_of_eq rfl) (hb hby at_76) (fun _ _ => ⟨rfl, e93, (by decide : 2 + 1 ≤ _), (by decide : 8 + 4 ≤ _)⟩)
        dsimp only [Pt.U, Pt.locs, Pt.cells, Pt.slots] at X95 l95 y95 z95 st95 hQ95
        subst l95 y95 z95
        obtain ⟨rfl, N95q, Kc95, Ec95, Fc95, t95, kt95, gt95, zt95, nt95, Fv95, Vt95⟩ := hQ95
        have N95 := Fr.app N92 N95q
        have sz96 : h0.size ≤ t95 := Nat.le_trans K93.1 zt95
        have gn96 : n0 ≤ t95 := Nat.le_trans Z0 sz96
        have O95 : Old Z n0 T95.heap := O93.keep Kc95 (allS gn93 all0)
        have K95 : Keep h0 T95.heap [] := K93.trans Kc95 (allS (Or.inr sz93) all0)
        have hk := Nat.le_trans hk Kc95.1
        have HC95 := CHv.keep Kc95 (allS (Safe.ext E93 HC92 (Safe.new (Z := Z) (EL := own_EL) (vm := _) (Nat.le_of_eq g93.symm))) all0) HC93
        have RC95 := RC93.trans (CHr.keep Kc95 (allS (Safe.ext E93 HC92 (Safe.new (Z := Z) (EL := own_EL) (vm := _) (Nat.le_of_eq g93.symm))) all0) HC93)
        obtain ⟨_, _, ⟨T98, L98, k98, n98⟩, -, Xh98, Sh98, gh98, ⟨Lc98, hQ98, l98, y98, z98, R98⟩, st98⟩ := callSS X95 hx (y := mN20) hown (mvT hZ (hw _ w_23)) (mvT hZ (hw _ w_24)) (mvT hZ (hw _ w_25)) (mvT hZ (hw _ w_26)) (by decide) (backOfSH (s := s) (W := 0) (rmtrim l Z a0 hw [] b93 sf cz t95 kt95 4 [((nar .char q_85)).toInt8.toInt32, ((nar .char q_87)).toInt8.toInt32, ((nar .char q_89)).toInt8.toInt32, ((nar .char q_91)).toInt8.toInt32] T95.heap n0 O95 Ec95 Fv95 Fc95 Vt95 hp0 hcz hp2 hsf (by decide) rfl) hZ (hw _ w_26) (hw _ w_25) (by decide) (by decide) hEL HC95) (g := (mkF m 83 #[.val (.int i0), .val (.int i1), .val (.int i2), .val (.int i3), .val (.int i4), .val (.int (4 : Int32)), .val (.ref b83), .val (.ref b93), .unset, .unset, .unset, .unset, .unset, .unset, .unset] [(.ref b93)])) rfl (by rw [hml]; rfl) (argsL := [(.ref b93)]) (rest := []) (lenOf pd__Ljava_lang_String__Ljava_lang_String_ rfl) rfl (by show 2 * 0 + _ ≤ _; exact Nat.le_of_eq rfl) (hb hby at_83) (fun _ _ => ⟨rfl, rfl, (by decide : 3 + 2 ≤ _), (by decide : 12 + 8 ≤ _)⟩)
        dsimp only [Pt.U, Pt.locs, Pt.cells, Pt.slots] at Xh98 Sh98 gh98 l98 y98 z98 R98 st98 hQ98
        subst l98 y98 z98
        obtain ⟨X98, hS, hZ, hown⟩ := rebS hS hk Xh98 Sh98 gh98 hZ hown
        have hk := Nat.le_refl T98.heap.size
        obtain ⟨r_98, t2_98, kt2_98, k_98, j_98, rfl, N98q, Kc98, r98_1, r98_2, r98_3, r98_4, r98_5⟩ := hQ98
        have N98 := Fr.app N95 N98q
        have O98 : Old Z n0 T98.heap := O95.keep Kc98 all0
        have K98 : Keep h0 T98.heap [] := K95.trans Kc98 all0
        have HC98 := R98.1
        have RC98 := RC95.trans R98
        have pre99 : ∀ tg_, Steps p.tables e below (T98.setTop (mkF m 88 #[.val (.int i0), .val (.int i1), .val (.int i2), .val (.int i3), .val (.int i4), .val (.int (4 : Int32)), .val (.ref b83), .val (.ref b93), .val (.ref r_98), .unset, .unset, .unset, .unset, .unset, .unset] [])) tg_ → Steps p.tables e below (s₁.setTop (entryFrame m #[(.int i0), (.int i1), (.int i2), (.int i3), (.int i4)] maxLocals)) tg_ := by
          intro tg_ kt_
          refine pre36 tg_ ?_
          refine XS.istore X0.here hx rfl (hb hby at_6) rfl (l' := #[.val (.int i0), .val (.int i1), .val (.int i2), .val (.int i3), .val (.int i4), .val (.int (4 : Int32)), .unset, .unset, .unset, .unset, .unset, .unset, .unset, .unset, .unset]) rfl ?_
          refine XS.iload X0.here hx rfl (hb hby at_8) rfl ?_
          show Steps p.tables e below (s₁.setTop (mkF m 10 #[.val (.int i0), .val (.int i1), .val (.int i2), .val (.int i3), .val (.int i4), .val (.int (4 : Int32)), .unset, .unset, .unset, .unset, .unset, .unset, .unset, .unset, .unset] [(.int (4 : Int32))])) _
          refine st83 _ ?_
          refine XS.astore X83.here hx rfl (hb hby at_12) rfl rfl (l' := #[.val (.int i0), .val (.int i1), .val (.int i2), .val (.int i3), .val (.int i4), .val (.int (4 : Int32)), .val (.ref b83), .unset, .unset, .unset, .unset, .unset, .unset, .unset, .unset]) rfl ?_
          refine XS.iload X83.here hx rfl (hb hby at_14) rfl ?_
          refine XS.ifNo X83.here hx rfl (hb hby at_16) rfl ((if0 _ _).trans (tlt (by decide : (0 : Int32) < (4 : Int32))).2.2.2) ?_
          show Steps p.tables e below (T83.setTop (mkF m 19 #[.val (.int i0), .val (.int i1), .val (.int i2), .val (.int i3), .val (.int i4), .val (.int (4 : Int32)), .val (.ref b83), .unset, .unset, .unset, .unset, .unset, .unset, .unset, .unset] [])) _
          refine XS.aload X83.here hx rfl (hb hby at_19) rfl rfl ?_
          refine XS.iconst X83.here hx rfl (hb hby at_21) ?_
          refine XS.iloadN X83.here hx rfl (hb hby at_22) rfl ?_
          show Steps p.tables e below (T83.setTop (mkF m 23 #[.val (.int i0), .val (.int i1), .val (.int i2), .val (.int i3), .val (.int i4), .val (.int (4 : Int32)), .val (.ref b83), .unset, .unset, .unset, .unset, .unset, .unset, .unset, .unset] [(.int i1), (.int (0 : Int32)), (.ref b83)])) _
          refine st85 _ ?_
          show Steps p.tables e below (T85.setTop (mkF m 26 #[.val (.int i0), .val (.int i1), .val (.int i2), .val (.int i3), .val (.int i4), .val (.int (4 : Int32)), .val (.ref b83), .unset, .unset, .unset, .unset, .unset, .unset, .unset, .unset] [(.int q_85), (.int (0 : Int32)), (.ref b83)])) _
          refine st86 _ ?_
          refine XS.iload X86.here hx rfl (hb hby at_27) rfl ?_
          refine XS.iconst X86.here hx rfl (hb hby at_29) ?_
          refine XS.icmpNo X86.here hx rfl (hb hby at_30) rfl (tlt (by decide : (1 : Int32) < (4 : Int32))).2.2.2 ?_
          show Steps p.tables e below (T86.setTop (mkF m 33 #[.val (.int i0), .val (.int i1), .val (.int i2), .val (.int i3), .val (.int i4), .val (.int (4 : Int32)), .val (.ref b83), .unset, .unset, .unset, .unset, .unset, .unset, .unset, .unset] [])) _
          refine XS.aload X86.here hx rfl (hb hby at_33) rfl rfl ?_
          refine XS.iconst X86.here hx rfl (hb hby at_35) ?_
          refine XS.iloadN X86.here hx rfl (hb hby at_36) rfl ?_
          show Steps p.tables e below (T86.setTop (mkF m 37 #[.val (.int i0), .val (.int i1), .val (.int i2), .val (.int i3), .val (.int i4), .val (.int (4 : Int32)), .val (.ref b83), .unset, .unset, .unset, .unset, .unset, .unset, .unset, .unset] [(.int i2), (.int (1 : Int32)), (.ref b83)])) _
          refine st87 _ ?_
          show Steps p.tables e below (T87.setTop (mkF m 40 #[.val (.int i0), .val (.int i1), .val (.int i2), .val (.int i3), .val (.int i4), .val (.int (4 : Int32)), .val (.ref b83), .unset, .unset, .unset, .unset, .unset, .unset, .unset, .unset] [(.int q_87), (.int (1 : Int32)), (.ref b83)])) _
          refine st88 _ ?_
          refine XS.iload X88.here hx rfl (hb hby at_41) rfl ?_
          refine XS.iconst X88.here hx rfl (hb hby at_43) ?_
          refine XS.icmpNo X88.here hx rfl (hb hby at_44) rfl (tlt (by decide : (2 : Int32) < (4 : Int32))).2.2.2 ?_
          show Steps p.tables e below (T88.setTop (mkF m 47 #[.val (.int i0), .val (.int i1), .val (.int i2), .val (.int i3), .val (.int i4), .val (.int (4 : Int32)), .val (.ref b83), .unset, .unset, .unset, .unset, .unset, .unset, .unset, .unset] [])) _
          refine XS.aload X88.here hx rfl (hb hby at_47) rfl rfl ?_
          refine XS.iconst X88.here hx rfl (hb hby at_49) ?_
          refine XS.iloadN X88.here hx rfl (hb hby at_50) rfl ?_
          show Steps p.tables e below (T88.setTop (mkF m 51 #[.val (.int i0), .val (.int i1), .val (.int i2), .val (.int i3), .val (.int i4), .val (.int (4 : Int32)), .val (.ref b83), .unset, .unset, .unset, .unset, .unset, .unset, .unset, .unset] [(.int i3), (.int (2 : Int32)), (.ref b83)])) _
          refine st89 _ ?_
          show Steps p.tables e below (T89.setTop (mkF m 54 #[.val (.int i0), .val (.int i1), .val (.int i2), .val (.int i3), .val (.int i4), .val (.int (4 : Int32)), .val (.ref b83), .unset, .unset, .unset, .unset, .unset, .unset, .unset, .unset] [(.int q_89), (.int (2 : Int32)), (.ref b83)])) _
          refine st90 _ ?_
          refine XS.iload X90.here hx rfl (hb hby at_55) rfl ?_
          refine XS.iconst X90.here hx rfl (hb hby at_57) ?_
          refine XS.icmpNo X90.here hx rfl (hb hby at_58) rfl (tlt (by decide : (3 : Int32) < (4 : Int32))).2.2.2 ?_
          show Steps p.tables e below (T90.setTop (mkF m 61 #[.val (.int i0), .val (.int i1), .val (.int i2), .val (.int i3), .val (.int i4), .val (.int (4 : Int32)), .val (.ref b83), .unset, .unset, .unset, .unset, .unset, .unset, .unset, .unset] [])) _
          refine XS.aload X90.here hx rfl (hb hby at_61) rfl rfl ?_
          refine XS.iconst X90.here hx rfl (hb hby at_63) ?_
          refine XS.iload X90.here hx rfl (hb hby at_64) rfl ?_
          show Steps p.tables e below (T90.setTop (mkF m 66 #[.val (.int i0), .val (.int i1), .val (.int i2), .val (.int i3), .val (.int i4), .val (.int (4 : Int32)), .val (.ref b83), .unset, .unset, .unset, .unset, .unset, .unset, .unset, .unset] [(.int i4), (.int (3 : Int32)), (.ref b83)])) _
          refine st91 _ ?_
          show Steps p.tables e below (T91.setTop (mkF m 69 #[.val (.int i0), .val (.int i1), .val (.int i2), .val (.int i3), .val (.int i4), .val (.int (4 : Int32)), .val (.ref b83), .unset, .unset, .unset, .unset, .unset, .unset, .unset, .unset] [(.int q_91), (.int (3 : Int32)), (.ref b83)])) _
          refine st92 _ ?_
          show Steps p.tables e below (T92.setTop (mkF m 70 #[.val (.int i0), .val (.int i1), .val (.int i2), .val (.int i3), .val (.int i4), .val (.int (4 : Int32)), .val (.ref b83), .unset, .unset, .unset, .unset, .unset, .unset, .unset, .unset] [])) _
          refine st93 _ ?_
          refine XS.dup X93.here hx rfl (hb hby at_73) rfl rfl ?_
          refine XS.aload X93.here hx rfl (hb hby at_74) rfl rfl ?_
          show Steps p.tables e below (T93.setTop (mkF m 76 #[.val (.int i0), .val (.int i1), .val (.int i2), .val (.int i3), .val (.int i4), .val (.int (4 : Int32)), .val (.ref b83), .unset, .unset, .unset, .unset, .unset, .unset, .unset, .unset] [(.ref b83), (.ref b93), (.ref b93)])) _
          refine st95.trans ?_
          refine XS.astore X95.here hx rfl (hb hby at_79) rfl rfl (l' := #[.val (.int i0), .val (.int i1), .val (.int i2), .val (.int i3), .val (.int i4), .val (.int (4 : Int32)), .val (.ref b83), .val (.ref b93), .unset, .unset, .unset, .unset, .unset, .unset, .unset]) rfl ?_
          refine XS.aload X95.here hx rfl (hb hby at_81) rfl rfl ?_
          show Steps p.tables e below (T95.setTop (mkF m 83 #[.val (.int i0), .val (.int i1), .val (.int i2), .val (.int i3), .val (.int i4), .val (.int (4 : Int32)), .val (.ref b83), .val (.ref b93), .unset, .unset, .unset, .unset, .unset, .unset, .unset] [(.ref b93)])) _
          refine st98.trans ?_
          refine XS.astore X98.here hx rfl (hb hby at_86) rfl rfl (l' := #[.val (.int i0), .val (.int i1), .val (.int i2), .val (.int i3), .val (.int i4), .val (.int (4 : Int32)), .val (.ref b83), .val (.ref b93), .val (.ref r_98), .unset, .unset, .unset, .unset, .unset, .unset]) rfl ?_
          exact kt_
        exact afterTrim _ _ T98 T98.heap _ 4 b83 k83 [(nar .char q_85), (nar .char q_87), (nar .char q_89), (nar .char q_91)] r_98 t2_98 kt2_98 (([((nar .char q_85)).toInt8.toInt32, ((nar .char q_87)).toInt8.toInt32, ((nar .char q_89)).toInt8.toInt32, ((nar .char q_91)).toInt8.toInt32].drop k_98).take (j_98 - k_98)) k_98 (j_98 - k_98) (.val (.ref b93)) (Stand.more X98 (by decide) (by decide)) rfl hS hk hZ hown O98 K98 N98 HC98 RC98 (((V92.ext E93).keep Kc95 (ninS (Nat.ne_of_lt (Nat.lt_of_lt_of_le V92.lt (Nat.le_of_eq g93.symm))) nin0)).keep Kc98 nin0) r98_1 r98_2 r98_3 r98_4 (by decide) ((own_all (N := 4) (cs := [(nar .char q_85), (nar .char q_87), (nar .char q_89), (nar .char q_91)]) (by decide) rfl (fun c_ hc_ => by simp only [List.mem_cons, List.not_mem_nil, or_false] at hc_; rcases hc_ with rfl | rfl | rfl | rfl <;> first | exact own_lat r85_0 | exact own_lat r87_0 | exact own_lat r89_0 | exact own_lat r91_0) r98_5).1) ((own_all (N := 4) (cs := [(nar .char q_85), (nar .char q_87), (nar .char q_89), (nar .char q_91)]) (by decide) rfl (fun c_ hc_ => by simp only [List.mem_cons, List.not_mem_nil, or_false] at hc_; rcases hc_ with rfl | rfl | rfl | rfl <;> first | exact own_lat r85_0 | exact own_lat r87_0 | exact own_lat r89_0 | exact own_lat r91_0) r98_5).2.1) ((own_all (N := 4) (cs := [(nar .char q_85), (nar .char q_87), (nar .char q_89), (nar .char q_91)]) (by decide) rfl (fun c_ hc_ => by simp only [List.mem_cons, List.not_mem_nil, or_false] at hc_; rcases hc_ with rfl | rfl | rfl | rfl <;> first | exact own_lat r85_0 | exact own_lat r87_0 | exact own_lat r89_0 | exact own_lat r91_0) r98_5).2.2.1) ((own_all (N := 4) (cs := [(nar .char q_85), (nar .char q_87), (nar .char q_89), (nar .char q_91)]) (by decide) rfl (fun c_ hc_ => by simp only [List.mem_cons, List.not_mem_nil, or_false] at hc_; rcases hc_ with rfl | rfl | rfl | rfl <;> first | exact own_lat r85_0 | exact own_lat r87_0 | exact own_lat r89_0 | exact own_lat r91_0) r98_5).2.2.2.1) ((own_all (N := 4) (cs := [(nar .char q_85), (nar .char q_87), (nar .char q_89), (nar .char q_91)]) (by decide) rfl (fun c_ hc_ => by simp only [List.mem_cons, List.not_mem_nil, or_false] at hc_; rcases hc_ with rfl | rfl | rfl | rfl <;> first | exact own_lat r85_0 | exact own_lat r87_0 | exact own_lat r89_0 | exact own_lat r91_0) r98_5).2.2.2.2) pre99
set_option maxRecDepth 65536 in
set_option maxHeartbeats 40000000 in
theorem comes_1 {Post : Tables → Env → Array Value → State → Outcome → State → Prop} (hpost : ∀ tb e args s v u, (limb_1_1.after args s (.returned v) u = true ∧ limb_1_2.after args s (.returned v) u = true ∧ True) → Jvm.D.FramedW s (.returned v) u (Jvm.fieldLocs frame_1_writes args s ++ Jvm.arrayLocs frame_1_arrays args s ++ Jvm.staticLocs frame_1_statics s) 24 2176 → Post tb e args s (.returned v) u) :
    ArmFor flags0 classFile x code maxLocals ret World_1 tables_1 room_1 Calls_1 rest_1 Pre_1 Post := by
  intro l hfl _ _ p e ha hc hk s m args below hf hA hF happ hP
  obtain ⟨hcalls, hrest, hpre⟩ := hP
  obtain ⟨-, -, -, hnamed, -, -, -, hat⟩ := (Spec.applies_iff hf).mp happ
  obtain ⟨hg, hn⟩ := and_e (Cond.before_iff.mp (show (Jvm.Cond.and given_1 narrow_1).before args s = true from hpre))
  obtain ⟨gc, q0⟩ := and_e hg
  obtain ⟨g0, q1⟩ := and_e q0
  obtain ⟨g1, q2⟩ := and_e q1
  obtain ⟨g2, q3⟩ := and_e q2
  obtain ⟨g3, q4⟩ := and_e q3
  obtain ⟨w0, w1, w2, w3, w4, rfl⟩ : ∃ w0 w1 w2 w3 w4 : Value, args = #[w0, w1, w2, w3, w4] := by
    have hs : args.size = 5 := by simpa [Cond.value, given_1] using gc
    obtain ⟨L⟩ := args
    match L, hs with
    | [w0, w1, w2, w3, w4], _ => exact ⟨w0, w1, w2, w3, w4, rfl⟩
  have hw := fun d (hd : d ∈ tables_1) => atoms_spec (ws := Jvm.Cond.code x code maxLocals ret :: tables_1) hat d (List.mem_cons_of_mem _ hd)
  obtain ⟨hsets, hown0⟩ := atoms_of _ (rest_1_c_eq ▸ (show rest_1_c.before _ s = true from hrest))
  have hfit : Fit s := fun {y c} hc i hi => by
    obtain ⟨ha, rfl⟩ := Array.getElem?_eq_some_iff.mp hc
    have q := List.all_eq_true.mp ((Array.all_eq_true_iff_forall_mem.mp hF) _ (Array.getElem_mem ha)) i (List.mem_range.mpr hi)
    simpa [Array.getElem?_eq_getElem hi] using q
  obtain ⟨i0, ei0⟩ := is_v g0
  obtain rfl : w0 = (.int i0) := Option.some.inj ei0
  obtain ⟨i1, ei1⟩ := is_v g1
  obtain rfl : w1 = (.int i1) := Option.some.inj ei1
  obtain ⟨i2, ei2⟩ := is_v g2
  obtain rfl : w2 = (.int i2) := Option.some.inj ei2
  obtain ⟨i3, ei3⟩ := is_v g3
  obtain rfl : w3 = (.int i3) := Option.some.inj ei3
  obtain ⟨i4, ei4⟩ := is_v q4
  obtain rfl : w4 = (.int i4) := Option.some.inj ei4
  obtain ⟨cz, ecz⟩ := is_v (Cond.before_iff.mp (hsets _ (List.mem_of_getElem? (i := 1) rfl)))
  have Scz := Sta.start ecz (Or.inl (hsets _ (List.mem_of_getElem? (i := 0) rfl)))
  have hcz : ¬ (cz = (0 : Int32)) := gotF (Cond.eq_ints ecz (Term.int_eval (0))) (not_v (Cond.before_iff.mp (hsets _ (List.mem_of_getElem? (i := 2) rfl))))
  obtain ⟨sf, esf, hsf⟩ := isR_v (Cond.before_iff.mp (hsets _ (List.mem_of_getElem? (i := 8) rfl)))
  have Ssf := Sta.start esf (Or.inl (hsets _ (List.mem_of_getElem? (i := 7) rfl)))
  have hHC : CHv s own_EL s.vm s.heap := CHv.start (own_EW hw) (fun p_ hp_ => hcalls.1 p_ hp_) (hsets _ (List.mem_of_getElem? (i := 2) rfl)) (hw _ w_16) (hw _ w_3)
  obtain ⟨n, o, h1, h2, h3, _, L, rfl, ⟨rfl, N, -⟩, -, hq⟩ := rmlaw l s _ hw tables_1 i0 i1 i2 i3 i4 cz sf s.heap s.heap.size (Old.start s) Scz hcz Ssf hsf p e ha hc hk s m _ below hf ((Spec.applies_iff_loose hf).mp happ).1 ⟨rfl, State.Warmed39.refl s, rfl, hHC⟩ trivial
  refine ⟨n, _, h1, h2, h3, hpost _ _ _ _ _ _ ⟨Cond.after_iff.mpr rfl, Cond.after_iff.mpr (eq_i res_at (Term.int_eval (1)) rfl), trivial⟩ ⟨hq.1, hq.2.1, hq.2.2.1, (hq.2.2.2.sift fun y hy => Or.inr (N y hy)).mono (by decide) (by decide)⟩⟩
theorem main_1_1 : Claimed_1_1 := comes_1 fun _ _ _ _ _ _ h hF => ⟨h.1, hF⟩
theorem main_1_2 : Claimed_1_2 := comes_1 fun _ _ _ _ _ _ h hF => ⟨h.2.1, hF⟩
end Jvm.Pilot.@@N@@
namespace Jvm.Pilot.@@N@@
open Jvm Jvm.ClassFile Sem Op Lib Jvm.Free Jvm.Stand Jvm.Pilot.@@N@@.Jvm.D
/-! MADE BY PROGRAM (witnessworld.py) out of the Statement's table words and the real class files: 23 classes; the members and pool entries that the words name. The judged class is class 1, her method 1. -/
namespace start1
open Jvm.ClassFile
def u (s : String) : CpInfo := .utf8 (stringToUtf16 s)
/-- a pool by its gaps: so many unusable entries, then the entry; so many at the end -/
def gap : Nat → List CpInfo → List CpInfo
  | 0, r => r
  | n + 1, r => .unusable :: gap n r
def poolList (es : List (Nat × CpInfo)) (last : Nat) : List CpInfo := es.foldr (fun e r => gap e.1 (e.2 :: r)) (gap last [])
def pool (es : List (Nat × CpInfo)) (last : Nat) : Array CpInfo := ⟨poolList es last⟩
def fileOf (pool : Array CpInfo) (this : Nat) (attrs : Array Attribute := #[]) (ms : Array MethodInfo := #[]) (fl : Nat := 33) (sup : Nat := 0) (ifs : Array Nat := #[]) (fds : Array FieldInfo := #[]) : ClassFile where
  minorVersion := 0
  majorVersion := 65
  constantPool := pool
  accessFlags := fl
  thisClass := this
  superClass := sup
  interfaces := ifs
  fields := fds
  methods := ms
  attributes := attrs
def plain (name : String) (sup : Option ClassId) : Class where
  name := name
  kind := .ordinary
  loader := none
  accessFlags := 33
  super := sup
  interfaces := #[]
  cf := none
  fields := #[]
  methods := #[]
  instanceTypes := #[]
  staticTypes := #[]
  resolved := #[]
  callSites := []
  init := .initialized
  statics := none
  mirror := none

def pool0 : Array CpInfo := pool [(5, u "<init>"), (0, u "()V"), (1, .class_ 10), (1, u "java/lang/Object")] 113

def k0c0 : Code := { maxStack := 0, maxLocals := 1, code := object_method_1_code, exceptionTable := #[], attributes := #[] }
def k0m0 : Method := { name := "<init>", desc := "()V", sig := { parameters := [], returnType := none }, accessFlags := 1, code := some k0c0 }
/-- java/lang/Object -/
def k0 : Class := { plain "java/lang/Object" none with
  accessFlags := 33
  interfaces := #[]
  cf := some (fileOf pool0 8 #[] #[{ accessFlags := 1, nameIndex := 5, descriptorIndex := 6, attributes := #[] }] 33 0 #[] #[])
  fields := #[]
  methods := #[k0m0]
  instanceTypes := #[]
  staticTypes := #[]
  resolved := Array.replicate 124 none
  statics := none }

def pool1 : Array CpInfo := pool [(2, .class_ 4), (1, u "java/lang/Object"), (0, u "<init>"), (0, u "()V"), (0, .integer 2147483647), (0, .methodref 9 10), (0, .class_ 11), (0, .nameAndType 12 13), (0, u "com/example/shelfmark/shelfmark/records/TextTrimPinLaw"), (0, u "ch"), (0, u "(I)C"), (0, .class_ 15), (0, u "java/lang/String"), (0, .methodref 14 17), (0, .nameAndType 5 18), (0, u "([C)V"), (0, .methodref 20 21), (0, .class_ 22), (0, .nameAndType 23 24), (0, u "com/example/shelfmark/shelfmark/records/Text"), (0, u "trim"), (0, u "(Ljava/lang/String;)Ljava/lang/String;"), (0, .methodref 14 26), (0, .nameAndType 27 28), (0, u "length"), (0, u "()I"), (0, .methodref 9 30), (0, .nameAndType 31 32), (0, u "ws"), (0, u "([CI)Z"), (0, .methodref 34 35), (0, .class_ 36), (0, .nameAndType 37 38), (0, u "java/lang/Math"), (0, u "min"), (0, u "(II)I"), (0, .methodref 14 40), (0, .nameAndType 41 13), (0, u "charAt"), (0, .methodref 9 43), (0, .nameAndType 44 45), (0, u "isWs"), (0, u "(C)Z"), (0, .methodref 9 47), (0, .nameAndType 48 49), (0, u "place"), (0, u "([CLjava/lang/String;III)Z"), (2, u "law"), (0, u "(IIIII)Z")] 5

def k1m0 : Method := { name := "<init>", desc := "()V", sig := { parameters := [], returnType := none }, accessFlags := 2, code := none }
def k1c1 : Code := { maxStack := 5, maxLocals := 15, code := code, exceptionTable := #[], attributes := #[] }
def k1m1 : Method := { name := "law", desc := "(IIIII)Z", sig := { parameters := [.int, .int, .int, .int, .int], returnType := some .boolean }, accessFlags := 9, code := some k1c1 }
def k1c2 : Code := { maxStack := 3, maxLocals := 5, code := method_3_code, exceptionTable := #[], attributes := #[] }
def k1m2 : Method := { name := "place", desc := "([CLjava/lang/String;III)Z", sig := { parameters := [(.array .char), (.object "java/lang/String"), .int, .int, .int], returnType := some .boolean }, accessFlags := 10, code := some k1c2 }
def k1c3 : Code := { maxStack := 2, maxLocals := 2, code := method_4_code, exceptionTable := #[], attributes := #[] }
def k1m3 : Method := { name := "ws", desc := "([CI)Z", sig := { parameters := [(.array .char), .int], returnType := some .boolean }, accessFlags := 10, code := some k1c3 }
def k1c4 : Code := { maxStack := 2, maxLocals := 1, code := method_5_code, exceptionTable := #[], attributes := #[] }
def k1m4 : Method := { name := "isWs", desc := "(C)Z", sig := { parameters := [.char], returnType := some .boolean }, accessFlags := 10, code := some k1c4 }
def k1c5 : Code := { maxStack := 2, maxLocals := 2, code := method_6_code, exceptionTable := #[], attributes := #[] }
def k1m5 : Method := { name := "ch", desc := "(I)C", sig := { parameters := [.int], returnType := some .char }, accessFlags := 10, code := some k1c5 }
/-- com/example/shelfmark/shelfmark/records/TextTrimPinLaw -/
def k1 : Class := { plain "com/example/shelfmark/shelfmark/records/TextTrimPinLaw" (some 0) with
  accessFlags := 49
  interfaces := #[]
  cf := some (fileOf pool1 9 #[] #[{ accessFlags := 2, nameIndex := 5, descriptorIndex := 6, attributes := #[] }, { accessFlags := 9, nameIndex := 52, descriptorIndex := 53, attributes := #[] }, { accessFlags := 10, nameIndex := 48, descriptorIndex := 49, attributes := #[] }, { accessFlags := 10, nameIndex := 31, descriptorIndex := 32, attributes := #[] }, { accessFlags := 10, nameIndex := 44, descriptorIndex := 45, attributes := #[] }, { accessFlags := 10, nameIndex := 12, descriptorIndex := 13, attributes := #[] }] 49 2 #[] #[])
  fields := #[]
  methods := #[k1m0, k1m1, k1m2, k1m3, k1m4, k1m5]
  instanceTypes := #[]
  staticTypes := #[]
  resolved := Array.replicate 59 none
  statics := none }

def pool2 : Array CpInfo := pool [(1, .class_ 2), (0, u "java/io/Serializable"), (0, .class_ 4), (0, u "java/lang/Object")] 2

/-- java/io/Serializable -/
def k2 : Class := { plain "java/io/Serializable" (some 0) with
  accessFlags := 1537
  interfaces := #[]
  cf := some (fileOf pool2 1 #[] #[] 1537 3 #[] #[])
  fields := #[]
  methods := #[]
  instanceTypes := #[]
  staticTypes := #[]
  resolved := Array.replicate 7 none
  statics := none }

def pool3 : Array CpInfo := pool [(1, .class_ 2), (0, u "java/lang/Comparable"), (0, .class_ 4), (0, u "java/lang/Object")] 7

/-- java/lang/Comparable -/
def k3 : Class := { plain "java/lang/Comparable" (some 0) with
  accessFlags := 1537
  interfaces := #[]
  cf := some (fileOf pool3 1 #[] #[] 1537 3 #[] #[])
  fields := #[]
  methods := #[]
  instanceTypes := #[]
  staticTypes := #[]
  resolved := Array.replicate 12 none
  statics := none }

def pool4 : Array CpInfo := pool [(2, .class_ 4), (1, u "java/lang/CharSequence"), (42, .class_ 48), (0, u "java/lang/CharSequence$1CodePointIterator"), (10, .class_ 60), (0, u "java/lang/CharSequence$1CharIterator"), (5, .class_ 67), (0, u "java/lang/Object")] 63

/-- java/lang/CharSequence -/
def k4 : Class := { plain "java/lang/CharSequence" (some 0) with
  accessFlags := 1537
  interfaces := #[]
  cf := some (fileOf pool4 2 #[.nestMembers #[47, 59]] #[] 1537 66 #[] #[])
  fields := #[]
  methods := #[]
  instanceTypes := #[]
  staticTypes := #[]
  resolved := Array.replicate 131 none
  statics := none }

def pool5 : Array CpInfo := pool [(1, .class_ 2), (0, u "java/lang/constant/Constable"), (0, .class_ 4), (0, u "java/lang/Object")] 6

/-- java/lang/constant/Constable -/
def k5 : Class := { plain "java/lang/constant/Constable" (some 0) with
  accessFlags := 1537
  interfaces := #[]
  cf := some (fileOf pool5 1 #[] #[] 1537 3 #[] #[])
  fields := #[]
  methods := #[]
  instanceTypes := #[]
  staticTypes := #[]
  resolved := Array.replicate 11 none
  statics := none }

def pool6 : Array CpInfo := pool [(1, .class_ 2), (0, u "java/lang/constant/ConstantDesc"), (0, .class_ 4), (0, u "java/lang/Object")] 32

/-- java/lang/constant/ConstantDesc -/
def k6 : Class := { plain "java/lang/constant/ConstantDesc" (some 0) with
  accessFlags := 1537
  interfaces := #[]
  cf := some (fileOf pool6 1 #[] #[] 1537 3 #[] #[])
  fields := #[]
  methods := #[]
  instanceTypes := #[]
  staticTypes := #[]
  resolved := Array.replicate 37 none
  statics := none }

def pool7 : Array CpInfo := pool [(1, .methodref 2 3), (0, .class_ 4), (0, .nameAndType 5 6), (0, u "java/lang/Object"), (0, u "<init>"), (0, u "()V"), (0, .string 8), (0, u ""), (0, .fieldref 10 11), (0, .class_ 12), (0, .nameAndType 13 14), (0, u "java/lang/String"), (0, u "value"), (0, u "[B"), (0, .fieldref 10 16), (0, .nameAndType 17 18), (0, u "coder"), (0, u "B"), (2, u "hash"), (0, u "I"), (2, u "hashIsZero"), (0, u "Z"), (0, .methodref 10 28), (0, .nameAndType 5 29), (0, u "([CIILjava/lang/Void;)V"), (8, .fieldref 10 39), (0, .nameAndType 40 26), (0, u "COMPACT_STRINGS"), (1, .class_ 44), (1, u "java/lang/StringUTF16"), (0, u "compress"), (1, .methodref 42 48), (0, .nameAndType 49 50), (0, u "coderFromArrayLen"), (0, u "([BI)B"), (56, .class_ 109), (1, u "java/lang/StringLatin1"), (32, u "()Z"), (34, .methodref 42 178), (0, .nameAndType 45 179), (0, u "([CII)[B"), (31, u "([BB)V"), (122, u "()I"), (0, .methodref 10 336), (0, .nameAndType 17 337), (0, u "()B"), (25, u "([BI)C"), (27, u "(II)V"), (35, u "(I)C"), (64, .methodref 10 493), (0, .nameAndType 494 142), (0, u "isLatin1"), (0, .methodref 107 496), (0, .nameAndType 497 363), (0, u "charAt"), (3, u "checkIndex"), (3, .methodref 10 506), (0, .nameAndType 507 334), (0, u "length"), (5, u "checkFromToIndex"), (7, .methodref 10 522), (0, .nameAndType 523 524), (0, u "checkBoundsBeginEnd"), (0, u "(III)V"), (50, .class_ 576), (0, u "java/lang/CharSequence"), (22, u "CASE_INSENSITIVE_ORDER"), (0, u "Ljava/util/Comparator;"), (82, u "substring"), (0, u "(II)Ljava/lang/String;"), (0, .methodref 107 686), (0, .nameAndType 687 688), (0, u "newString"), (0, u "([BII)Ljava/lang/String;"), (321, u "([C)V"), (42, .fieldref 1054 1055), (0, .class_ 1056), (0, .nameAndType 1057 1058), (0, u "jdk/internal/util/Preconditions"), (0, u "SIOOBE_FORMATTER"), (0, u "Ljava/util/function/BiFunction;"), (0, .methodref 1054 1060), (0, .nameAndType 501 1061), (0, u "(IILjava/util/function/BiFunction;)I"), (0, .methodref 1054 1063), (0, .nameAndType 513 1064), (0, u "(IIILjava/util/function/BiFunction;)I"), (36, u "serialPersistentFields"), (0, u "[Ljava/io/ObjectStreamField;"), (0, .class_ 1104), (0, u "java/lang/String$CaseInsensitiveComparator"), (1, .class_ 1107), (0, u "java/io/Serializable"), (0, .class_ 1109), (0, u "java/lang/Comparable"), (0, .class_ 1111), (0, u "java/lang/constant/Constable"), (0, .class_ 1113), (0, u "java/lang/constant/ConstantDesc"), (2, u "serialVersionUID"), (0, u "J"), (3, u "REPL"), (0, u "C"), (2, u "LATIN1"), (1, u "UTF16")] 323

def k7m0 : Method := { name := "<init>", desc := "()V", sig := { parameters := [], returnType := none }, accessFlags := 1, code := none }
def k7c1 : Code := { maxStack := 5, maxLocals := 2, code := jdk_42_method_3_code, exceptionTable := #[], attributes := #[] }
def k7m1 : Method := { name := "<init>", desc := "([C)V", sig := { parameters := [(.array .char)], returnType := none }, accessFlags := 1, code := some k7c1 }
def k7c2 : Code := { maxStack := 2, maxLocals := 1, code := jdk_42_method_54_code, exceptionTable := #[], attributes := #[] }
def k7m2 : Method := { name := "length", desc := "()I", sig := { parameters := [], returnType := some .int }, accessFlags := 1, code := some k7c2 }
def k7c3 : Code := { maxStack := 2, maxLocals := 2, code := jdk_42_method_56_code, exceptionTable := #[], attributes := #[] }
def k7m3 : Method := { name := "charAt", desc := "(I)C", sig := { parameters := [.int], returnType := some .char }, accessFlags := 1, code := some k7c3 }
def k7c4 : Code := { maxStack := 3, maxLocals := 5, code := jdk_42_method_92_code, exceptionTable := #[], attributes := #[] }
def k7m4 : Method := { name := "substring", desc := "(II)Ljava/lang/String;", sig := { parameters := [.int, .int], returnType := some (.object "java/lang/String") }, accessFlags := 1, code := some k7c4 }
def k7c5 : Code := { maxStack := 4, maxLocals := 6, code := jdk_42_method_149_code, exceptionTable := #[], attributes := #[] }
def k7m5 : Method := { name := "<init>", desc := "([CIILjava/lang/Void;)V", sig := { parameters := [(.array .char), .int, .int, (.object "java/lang/Void")], returnType := none }, accessFlags := 2, code := some k7c5 }
def k7c6 : Code := { maxStack := 2, maxLocals := 3, code := jdk_42_method_151_code, exceptionTable := #[], attributes := #[] }
def k7m6 : Method := { name := "<init>", desc := "([BB)V", sig := { parameters := [(.array .byte), .byte], returnType := none }, accessFlags := 0, code := some k7c6 }
def k7c7 : Code := { maxStack := 1, maxLocals := 1, code := jdk_42_method_152_code, exceptionTable := #[], attributes := #[] }
def k7m7 : Method := { name := "coder", desc := "()B", sig := { parameters := [], returnType := some .byte }, accessFlags := 0, code := some k7c7 }
def k7c8 : Code := { maxStack := 1, maxLocals := 1, code := jdk_42_method_154_code, exceptionTable := #[], attributes := #[] }
def k7m8 : Method := { name := "isLatin1", desc := "()Z", sig := { parameters := [], returnType := some .boolean }, accessFlags := 0, code := some k7c8 }
def k7c9 : Code := { maxStack := 3, maxLocals := 2, code := jdk_42_method_155_code, exceptionTable := #[], attributes := #[] }
def k7m9 : Method := { name := "checkIndex", desc := "(II)V", sig := { parameters := [.int, .int], returnType := none }, accessFlags := 8, code := some k7c9 }
def k7c10 : Code := { maxStack := 4, maxLocals := 3, code := jdk_42_method_158_code, exceptionTable := #[], attributes := #[] }
def k7m10 : Method := { name := "checkBoundsBeginEnd", desc := "(III)V", sig := { parameters := [.int, .int, .int], returnType := none }, accessFlags := 8, code := some k7c10 }
/-- java/lang/String -/
def k7 : Class := { plain "java/lang/String" (some 0) with
  accessFlags := 49
  interfaces := #[2, 3, 4, 5, 6]
  cf := some (fileOf pool7 10 #[.nestMembers #[1103]] #[{ accessFlags := 1, nameIndex := 5, descriptorIndex := 6, attributes := #[] }, { accessFlags := 1, nameIndex := 5, descriptorIndex := 1010, attributes := #[] }, { accessFlags := 1, nameIndex := 507, descriptorIndex := 334, attributes := #[] }, { accessFlags := 1, nameIndex := 497, descriptorIndex := 427, attributes := #[] }, { accessFlags := 1, nameIndex := 683, descriptorIndex := 684, attributes := #[] }, { accessFlags := 2, nameIndex := 5, descriptorIndex := 29, attributes := #[] }, { accessFlags := 0, nameIndex := 5, descriptorIndex := 211, attributes := #[] }, { accessFlags := 0, nameIndex := 17, descriptorIndex := 337, attributes := #[] }, { accessFlags := 0, nameIndex := 494, descriptorIndex := 142, attributes := #[] }, { accessFlags := 8, nameIndex := 501, descriptorIndex := 391, attributes := #[] }, { accessFlags := 8, nameIndex := 523, descriptorIndex := 524, attributes := #[] }] 49 2 #[1106, 1108, 575, 1110, 1112] #[{ accessFlags := 18, nameIndex := 13, descriptorIndex := 14, attributes := #[] }, { accessFlags := 18, nameIndex := 17, descriptorIndex := 18, attributes := #[] }, { accessFlags := 2, nameIndex := 21, descriptorIndex := 22, attributes := #[] }, { accessFlags := 2, nameIndex := 25, descriptorIndex := 26, attributes := #[] }, { accessFlags := 26, nameIndex := 1116, descriptorIndex := 1117, attributes := #[] }, { accessFlags := 24, nameIndex := 40, descriptorIndex := 26, attributes := #[] }, { accessFlags := 26, nameIndex := 1101, descriptorIndex := 1102, attributes := #[] }, { accessFlags := 26, nameIndex := 1121, descriptorIndex := 1122, attributes := #[] }, { accessFlags := 25, nameIndex := 599, descriptorIndex := 600, attributes := #[] }, { accessFlags := 24, nameIndex := 1125, descriptorIndex := 18, attributes := #[] }, { accessFlags := 24, nameIndex := 1127, descriptorIndex := 18, attributes := #[] }])
  fields := #[{ name := "value", type := (.array .byte), accessFlags := 18, slot := 0, constantValue := 0 }, { name := "coder", type := .byte, accessFlags := 18, slot := 1, constantValue := 0 }, { name := "hash", type := .int, accessFlags := 2, slot := 2, constantValue := 0 }, { name := "hashIsZero", type := .boolean, accessFlags := 2, slot := 3, constantValue := 0 }, { name := "serialVersionUID", type := .long, accessFlags := 26, slot := 0, constantValue := 0 }, { name := "COMPACT_STRINGS", type := .boolean, accessFlags := 24, slot := 1, constantValue := 0 }, { name := "serialPersistentFields", type := (.array (.object "java/io/ObjectStreamField")), accessFlags := 26, slot := 2, constantValue := 0 }, { name := "REPL", type := .char, accessFlags := 26, slot := 3, constantValue := 0 }, { name := "CASE_INSENSITIVE_ORDER", type := (.object "java/util/Comparator"), accessFlags := 25, slot := 4, constantValue := 0 }, { name := "LATIN1", type := .byte, accessFlags := 24, slot := 5, constantValue := 0 }, { name := "UTF16", type := .byte, accessFlags := 24, slot := 6, constantValue := 0 }]
  methods := #[k7m0, k7m1, k7m2, k7m3, k7m4, k7m5, k7m6, k7m7, k7m8, k7m9, k7m10]
  instanceTypes := #[(.array .byte), .byte, .int, .boolean]
  staticTypes := #[.long, .boolean, (.array (.object "java/io/ObjectStreamField")), .char, (.object "java/util/Comparator"), .byte, .byte]
  resolved := Array.replicate 1451 none
  statics := some 0 }

def pool8 : Array CpInfo := pool [(2, .class_ 4), (1, u "java/lang/Object"), (0, u "<init>"), (0, u "()V"), (1, .class_ 10), (1, u "com/example/shelfmark/shelfmark/records/Text"), (4, .methodref 16 17), (0, .class_ 18), (0, .nameAndType 19 20), (0, u "java/lang/String"), (0, u "length"), (0, u "()I"), (3, .methodref 16 25), (0, .nameAndType 26 27), (0, u "charAt"), (0, u "(I)C"), (0, .methodref 8 29), (0, .nameAndType 30 31), (0, u "isWhiteSpace"), (0, u "(C)Z"), (15, .methodref 16 48), (0, .nameAndType 49 50), (0, u "substring"), (0, u "(II)Ljava/lang/String;"), (3, u "(Ljava/lang/String;)Ljava/lang/String;"), (1, u "trim")] 2

def k8m0 : Method := { name := "<init>", desc := "()V", sig := { parameters := [], returnType := none }, accessFlags := 2, code := none }
def k8c1 : Code := { maxStack := 3, maxLocals := 3, code := prog_56_method_4_code, exceptionTable := #[], attributes := #[] }
def k8m1 : Method := { name := "trim", desc := "(Ljava/lang/String;)Ljava/lang/String;", sig := { parameters := [(.object "java/lang/String")], returnType := some (.object "java/lang/String") }, accessFlags := 9, code := some k8c1 }
def k8c2 : Code := { maxStack := 2, maxLocals := 1, code := prog_56_method_5_code, exceptionTable := #[], attributes := #[] }
def k8m2 : Method := { name := "isWhiteSpace", desc := "(C)Z", sig := { parameters := [.char], returnType := some .boolean }, accessFlags := 10, code := some k8c2 }
/-- com/example/shelfmark/shelfmark/records/Text -/
def k8 : Class := { plain "com/example/shelfmark/shelfmark/records/Text" (some 0) with
  accessFlags := 49
  interfaces := #[]
  cf := some (fileOf pool8 8 #[] #[{ accessFlags := 2, nameIndex := 5, descriptorIndex := 6, attributes := #[] }, { accessFlags := 9, nameIndex := 56, descriptorIndex := 54, attributes := #[] }, { accessFlags := 10, nameIndex := 30, descriptorIndex := 31, attributes := #[] }] 49 2 #[] #[])
  fields := #[]
  methods := #[k8m0, k8m1, k8m2]
  instanceTypes := #[]
  staticTypes := #[]
  resolved := Array.replicate 59 none
  statics := none }

def pool9 : Array CpInfo := pool [(2, .class_ 4), (1, u "java/lang/Object"), (0, u "<init>"), (0, u "()V"), (17, .class_ 26), (1, u "jdk/internal/util/Preconditions"), (6, u "checkIndex"), (13, u "checkFromToIndex"), (7, .class_ 56), (0, u "jdk/internal/util/Preconditions$4"), (57, .class_ 115), (0, u "jdk/internal/util/Preconditions$1"), (7, u "SIOOBE_FORMATTER"), (0, u "Ljava/util/function/BiFunction;"), (0, .class_ 126), (0, u "jdk/internal/util/Preconditions$2"), (3, u "AIOOBE_FORMATTER"), (0, .class_ 132), (0, u "jdk/internal/util/Preconditions$3"), (3, u "IOOBE_FORMATTER"), (41, u "(IILjava/util/function/BiFunction;)I"), (4, u "(IIILjava/util/function/BiFunction;)I")] 10

def k9m0 : Method := { name := "<init>", desc := "()V", sig := { parameters := [], returnType := none }, accessFlags := 1, code := none }
def k9c1 : Code := { maxStack := 3, maxLocals := 3, code := jdk_41_method_11_code, exceptionTable := #[], attributes := #[] }
def k9m1 : Method := { name := "checkIndex", desc := "(IILjava/util/function/BiFunction;)I", sig := { parameters := [.int, .int, (.object "java/util/function/BiFunction")], returnType := some .int }, accessFlags := 9, code := some k9c1 }
def k9c2 : Code := { maxStack := 4, maxLocals := 4, code := jdk_41_method_12_code, exceptionTable := #[], attributes := #[] }
def k9m2 : Method := { name := "checkFromToIndex", desc := "(IIILjava/util/function/BiFunction;)I", sig := { parameters := [.int, .int, .int, (.object "java/util/function/BiFunction")], returnType := some .int }, accessFlags := 9, code := some k9c2 }
/-- jdk/internal/util/Preconditions -/
def k9 : Class := { plain "jdk/internal/util/Preconditions" (some 0) with
  accessFlags := 33
  interfaces := #[]
  cf := some (fileOf pool9 24 #[.nestMembers #[55, 131, 125, 114]] #[{ accessFlags := 1, nameIndex := 5, descriptorIndex := 6, attributes := #[] }, { accessFlags := 9, nameIndex := 33, descriptorIndex := 178, attributes := #[] }, { accessFlags := 9, nameIndex := 47, descriptorIndex := 183, attributes := #[] }] 33 2 #[] #[{ accessFlags := 25, nameIndex := 123, descriptorIndex := 124, attributes := #[] }, { accessFlags := 25, nameIndex := 130, descriptorIndex := 124, attributes := #[] }, { accessFlags := 25, nameIndex := 136, descriptorIndex := 124, attributes := #[] }])
  fields := #[{ name := "SIOOBE_FORMATTER", type := (.object "java/util/function/BiFunction"), accessFlags := 25, slot := 0, constantValue := 0 }, { name := "AIOOBE_FORMATTER", type := (.object "java/util/function/BiFunction"), accessFlags := 25, slot := 1, constantValue := 0 }, { name := "IOOBE_FORMATTER", type := (.object "java/util/function/BiFunction"), accessFlags := 25, slot := 2, constantValue := 0 }]
  methods := #[k9m0, k9m1, k9m2]
  instanceTypes := #[]
  staticTypes := #[(.object "java/util/function/BiFunction"), (.object "java/util/function/BiFunction"), (.object "java/util/function/BiFunction")]
  resolved := Array.replicate 194 none
  statics := some 1 }

def pool10 : Array CpInfo := pool [(1, .class_ 2), (0, u "java/lang/Math"), (1, .class_ 6), (1, u "java/lang/Object"), (0, u "<init>"), (0, u "()V"), (89, .class_ 100), (1, u "java/lang/Math$RandomNumberGeneratorHolder"), (71, u "negativeZeroFloatBits"), (0, u "J"), (2, u "negativeZeroDoubleBits"), (24, u "min"), (43, u "$assertionsDisabled"), (0, u "Z"), (88, u "(II)I"), (2, u "twoToTheDoubleScaleDown"), (0, u "D"), (4, u "twoToTheDoubleScaleUp"), (9, u "E"), (3, u "PI"), (2, u "TAU"), (2, u "DEGREES_TO_RADIANS"), (0, u "RADIANS_TO_DEGREES")] 94

def k10m0 : Method := { name := "<init>", desc := "()V", sig := { parameters := [], returnType := none }, accessFlags := 2, code := none }
def k10c1 : Code := { maxStack := 2, maxLocals := 2, code := jdk_29_method_69_code, exceptionTable := #[], attributes := #[] }
def k10m1 : Method := { name := "min", desc := "(II)I", sig := { parameters := [.int, .int], returnType := some .int }, accessFlags := 9, code := some k10c1 }
/-- java/lang/Math -/
def k10 : Class := { plain "java/lang/Math" (some 0) with
  accessFlags := 49
  interfaces := #[]
  cf := some (fileOf pool10 1 #[.nestMembers #[98]] #[{ accessFlags := 2, nameIndex := 7, descriptorIndex := 8, attributes := #[] }, { accessFlags := 9, nameIndex := 201, descriptorIndex := 335, attributes := #[] }] 49 4 #[] #[{ accessFlags := 25, nameIndex := 354, descriptorIndex := 339, attributes := #[] }, { accessFlags := 25, nameIndex := 358, descriptorIndex := 339, attributes := #[] }, { accessFlags := 25, nameIndex := 361, descriptorIndex := 339, attributes := #[] }, { accessFlags := 26, nameIndex := 364, descriptorIndex := 339, attributes := #[] }, { accessFlags := 26, nameIndex := 365, descriptorIndex := 339, attributes := #[] }, { accessFlags := 26, nameIndex := 172, descriptorIndex := 173, attributes := #[] }, { accessFlags := 26, nameIndex := 176, descriptorIndex := 173, attributes := #[] }, { accessFlags := 8, nameIndex := 344, descriptorIndex := 339, attributes := #[] }, { accessFlags := 8, nameIndex := 338, descriptorIndex := 339, attributes := #[] }, { accessFlags := 4120, nameIndex := 245, descriptorIndex := 246, attributes := #[] }])
  fields := #[{ name := "E", type := .double, accessFlags := 25, slot := 0, constantValue := 0 }, { name := "PI", type := .double, accessFlags := 25, slot := 1, constantValue := 0 }, { name := "TAU", type := .double, accessFlags := 25, slot := 2, constantValue := 0 }, { name := "DEGREES_TO_RADIANS", type := .double, accessFlags := 26, slot := 3, constantValue := 0 }, { name := "RADIANS_TO_DEGREES", type := .double, accessFlags := 26, slot := 4, constantValue := 0 }, { name := "negativeZeroFloatBits", type := .long, accessFlags := 26, slot := 5, constantValue := 0 }, { name := "negativeZeroDoubleBits", type := .long, accessFlags := 26, slot := 6, constantValue := 0 }, { name := "twoToTheDoubleScaleUp", type := .double, accessFlags := 8, slot := 7, constantValue := 0 }, { name := "twoToTheDoubleScaleDown", type := .double, accessFlags := 8, slot := 8, constantValue := 0 }, { name := "$assertionsDisabled", type := .boolean, accessFlags := 4120, slot := 9, constantValue := 0 }]
  methods := #[k10m0, k10m1]
  instanceTypes := #[]
  staticTypes := #[.double, .double, .double, .double, .double, .long, .long, .double, .double, .boolean]
  resolved := Array.replicate 460 none
  statics := none }

def pool11 : Array CpInfo := pool [(6, .class_ 8), (1, u "java/lang/Object"), (0, u "<init>"), (0, u "()V"), (1, .class_ 14), (1, u "java/lang/StringUTF16"), (31, u "$assertionsDisabled"), (0, u "Z"), (13, u "HI_BYTE_SHIFT"), (0, u "I"), (2, u "LO_BYTE_SHIFT"), (49, .methodref 12 116), (0, .nameAndType 117 118), (0, u "compress"), (0, u "([CI[BII)I"), (3, u "([CII)[B"), (138, u "coderFromArrayLen"), (0, u "([BI)B"), (106, .class_ 371), (1, u "java/lang/StringUTF16$LinesSpliterator"), (58, u "MAX_LENGTH"), (196, .class_ 628), (0, u "java/lang/StringUTF16$CodePointsSpliterator"), (0, .class_ 630), (0, u "java/lang/StringUTF16$CharsSpliterator")] 4

def k11m0 : Method := { name := "<init>", desc := "()V", sig := { parameters := [], returnType := none }, accessFlags := 0, code := none }
def k11c1 : Code := { maxStack := 2, maxLocals := 2, code := jdk_52_method_15_code, exceptionTable := #[], attributes := #[] }
def k11m1 : Method := { name := "coderFromArrayLen", desc := "([BI)B", sig := { parameters := [(.array .byte), .int], returnType := some .byte }, accessFlags := 8, code := some k11c1 }
def k11c2 : Code := { maxStack := 5, maxLocals := 6, code := jdk_52_method_16_code, exceptionTable := #[], attributes := #[] }
def k11m2 : Method := { name := "compress", desc := "([CII)[B", sig := { parameters := [(.array .char), .int, .int], returnType := some (.array .byte) }, accessFlags := 9, code := some k11c2 }
def k11c3 : Code := { maxStack := 3, maxLocals := 7, code := jdk_52_method_21_code, exceptionTable := #[], attributes := #[] }
def k11m3 : Method := { name := "compress", desc := "([CI[BII)I", sig := { parameters := [(.array .char), .int, (.array .byte), .int, .int], returnType := some .int }, accessFlags := 9, code := some k11c3 }
/-- java/lang/StringUTF16 -/
def k11 : Class := { plain "java/lang/StringUTF16" (some 0) with
  accessFlags := 48
  interfaces := #[]
  cf := some (fileOf pool11 12 #[.nestMembers #[627, 629, 369]] #[{ accessFlags := 0, nameIndex := 9, descriptorIndex := 10, attributes := #[] }, { accessFlags := 8, nameIndex := 261, descriptorIndex := 262, attributes := #[] }, { accessFlags := 9, nameIndex := 117, descriptorIndex := 122, attributes := #[] }, { accessFlags := 9, nameIndex := 117, descriptorIndex := 118, attributes := #[] }] 48 6 #[] #[{ accessFlags := 26, nameIndex := 61, descriptorIndex := 62, attributes := #[] }, { accessFlags := 26, nameIndex := 65, descriptorIndex := 62, attributes := #[] }, { accessFlags := 24, nameIndex := 430, descriptorIndex := 62, attributes := #[] }, { accessFlags := 4120, nameIndex := 46, descriptorIndex := 47, attributes := #[] }])
  fields := #[{ name := "HI_BYTE_SHIFT", type := .int, accessFlags := 26, slot := 0, constantValue := 0 }, { name := "LO_BYTE_SHIFT", type := .int, accessFlags := 26, slot := 1, constantValue := 0 }, { name := "MAX_LENGTH", type := .int, accessFlags := 24, slot := 2, constantValue := 0 }, { name := "$assertionsDisabled", type := .boolean, accessFlags := 4120, slot := 3, constantValue := 0 }]
  methods := #[k11m0, k11m1, k11m2, k11m3]
  instanceTypes := #[]
  staticTypes := #[.int, .int, .int, .boolean]
  resolved := Array.replicate 635 none
  statics := none }

def pool12 : Array CpInfo := pool [(1, .class_ 2), (0, u "java/lang/String"), (1, .class_ 6), (1, u "java/lang/Object"), (0, u "<init>"), (0, u "()V"), (0, .methodref 1 10), (0, .nameAndType 11 12), (0, u "checkIndex"), (0, u "(II)V"), (1, .class_ 16), (1, u "java/lang/StringLatin1"), (36, u "([BI)C"), (58, .methodref 1 113), (0, .nameAndType 7 114), (0, u "([BB)V"), (6, u "$assertionsDisabled"), (0, u "Z"), (8, .class_ 133), (1, u "java/util/Arrays"), (17, .string 152), (0, u ""), (43, u "newString"), (0, u "([BII)Ljava/lang/String;"), (23, .class_ 223), (1, u "java/lang/StringLatin1$LinesSpliterator"), (8, .methodref 131 233), (0, .nameAndType 234 235), (0, u "copyOfRange"), (0, u "([BII)[B"), (16, u "charAt"), (137, .class_ 391), (0, u "java/lang/StringLatin1$CharsSpliterator")] 3

def k12m0 : Method := { name := "<init>", desc := "()V", sig := { parameters := [], returnType := none }, accessFlags := 0, code := none }
def k12c1 : Code := { maxStack := 2, maxLocals := 2, code := jdk_43_method_2_code, exceptionTable := #[], attributes := #[] }
def k12m1 : Method := { name := "charAt", desc := "([BI)C", sig := { parameters := [(.array .byte), .int], returnType := some .char }, accessFlags := 9, code := some k12c1 }
def k12c2 : Code := { maxStack := 6, maxLocals := 3, code := jdk_43_method_47_code, exceptionTable := #[], attributes := #[] }
def k12m2 : Method := { name := "newString", desc := "([BII)Ljava/lang/String;", sig := { parameters := [(.array .byte), .int, .int], returnType := some (.object "java/lang/String") }, accessFlags := 9, code := some k12c2 }
/-- java/lang/StringLatin1 -/
def k12 : Class := { plain "java/lang/StringLatin1" (some 0) with
  accessFlags := 48
  interfaces := #[]
  cf := some (fileOf pool12 14 #[.nestMembers #[390, 221]] #[{ accessFlags := 0, nameIndex := 7, descriptorIndex := 8, attributes := #[] }, { accessFlags := 9, nameIndex := 252, descriptorIndex := 53, attributes := #[] }, { accessFlags := 9, nameIndex := 196, descriptorIndex := 197, attributes := #[] }] 48 4 #[] #[{ accessFlags := 4120, nameIndex := 121, descriptorIndex := 122, attributes := #[] }])
  fields := #[{ name := "$assertionsDisabled", type := .boolean, accessFlags := 4120, slot := 0, constantValue := 0 }]
  methods := #[k12m0, k12m1, k12m2]
  instanceTypes := #[]
  staticTypes := #[.boolean]
  resolved := Array.replicate 395 none
  statics := none }

def pool13 : Array CpInfo := pool [(2, .class_ 4), (1, u "java/lang/Object"), (0, u "<init>"), (0, u "()V"), (7, .class_ 16), (1, u "java/util/Arrays"), (57, .class_ 76), (1, u "java/util/Arrays$NaturalOrder"), (36, .class_ 115), (1, u "java/util/Arrays$LegacyMergeSort"), (1, u "Z"), (21, u "copyOfRange"), (10, .methodref 151 152), (0, .class_ 153), (0, .nameAndType 154 155), (0, u "java/lang/System"), (0, u "arraycopy"), (0, u "(Ljava/lang/Object;ILjava/lang/Object;II)V"), (148, .methodref 305 306), (0, .class_ 307), (0, .nameAndType 308 309), (0, u "java/lang/Math"), (0, u "min"), (0, u "(II)I"), (29, .methodref 14 340), (0, .nameAndType 341 342), (0, u "copyOfRangeByte"), (0, u "([BII)[B"), (0, .methodref 14 344), (0, .nameAndType 345 346), (0, u "checkLength"), (0, u "(II)V"), (28, .class_ 376), (0, u "java/util/Arrays$ArrayList"), (68, u "$assertionsDisabled"), (269, u "MIN_ARRAY_SORT_GRAN"), (0, u "I"), (2, u "INSERTIONSORT_THRESHOLD"), (255, .class_ 976), (0, u "java/util/Arrays$ArrayItr")] 52

def k13m0 : Method := { name := "<init>", desc := "()V", sig := { parameters := [], returnType := none }, accessFlags := 2, code := none }
def k13c1 : Code := { maxStack := 4, maxLocals := 2, code := jdk_65_method_131_code, exceptionTable := #[], attributes := #[] }
def k13m1 : Method := { name := "checkLength", desc := "(II)V", sig := { parameters := [.int, .int], returnType := none }, accessFlags := 10, code := some k13c1 }
def k13c2 : Code := { maxStack := 3, maxLocals := 3, code := jdk_65_method_132_code, exceptionTable := #[], attributes := #[] }
def k13m2 : Method := { name := "copyOfRange", desc := "([BII)[B", sig := { parameters := [(.array .byte), .int, .int], returnType := some (.array .byte) }, accessFlags := 9, code := some k13c2 }
def k13c3 : Code := { maxStack := 6, maxLocals := 5, code := jdk_65_method_133_code, exceptionTable := #[], attributes := #[] }
def k13m3 : Method := { name := "copyOfRangeByte", desc := "([BII)[B", sig := { parameters := [(.array .byte), .int, .int], returnType := some (.array .byte) }, accessFlags := 10, code := some k13c3 }
/-- java/util/Arrays -/
def k13 : Class := { plain "java/util/Arrays" (some 0) with
  accessFlags := 49
  interfaces := #[]
  cf := some (fileOf pool13 14 #[.nestMembers #[975, 375, 113, 74]] #[{ accessFlags := 2, nameIndex := 5, descriptorIndex := 6, attributes := #[] }, { accessFlags := 10, nameIndex := 345, descriptorIndex := 346, attributes := #[] }, { accessFlags := 9, nameIndex := 139, descriptorIndex := 342, attributes := #[] }, { accessFlags := 10, nameIndex := 341, descriptorIndex := 342, attributes := #[] }] 49 2 #[] #[{ accessFlags := 26, nameIndex := 715, descriptorIndex := 716, attributes := #[] }, { accessFlags := 26, nameIndex := 719, descriptorIndex := 716, attributes := #[] }, { accessFlags := 4120, nameIndex := 445, descriptorIndex := 117, attributes := #[] }])
  fields := #[{ name := "MIN_ARRAY_SORT_GRAN", type := .int, accessFlags := 26, slot := 0, constantValue := 0 }, { name := "INSERTIONSORT_THRESHOLD", type := .int, accessFlags := 26, slot := 1, constantValue := 0 }, { name := "$assertionsDisabled", type := .boolean, accessFlags := 4120, slot := 2, constantValue := 0 }]
  methods := #[k13m0, k13m1, k13m2, k13m3]
  instanceTypes := #[]
  staticTypes := #[.int, .int, .boolean]
  resolved := Array.replicate 1029 none
  statics := none }

def pool14 : Array CpInfo := pool [(2, .class_ 4), (1, u "java/lang/Object"), (0, u "<init>"), (0, u "()V"), (1, .class_ 10), (1, u "java/lang/System"), (0, u "allowSecurityManager"), (0, u "I"), (16, u "cons"), (0, u "Ljava/io/Console;"), (77, .class_ 110), (1, u "java/lang/System$CallersHolder"), (43, u "initialErrStream"), (0, u "Ljava/io/PrintStream;"), (19, u "security"), (0, u "Ljava/lang/SecurityManager;"), (31, .class_ 209), (0, u "java/lang/System$1"), (7, u "props"), (0, u "Ljava/util/Properties;"), (2, u "lineSeparator"), (0, u "Ljava/lang/String;"), (96, .class_ 321), (1, u "java/lang/System$LoggerFinder"), (5, .class_ 328), (0, u "java/lang/System$Logger"), (67, u "err"), (2, u "out"), (91, u "notSupportedJnuEncoding"), (15, u "in"), (17, u "initialIn"), (0, u "Ljava/io/InputStream;"), (35, u "bootLayer"), (0, u "Ljava/lang/ModuleLayer;"), (99, .class_ 664), (0, u "java/lang/System$2"), (9, u "NEVER"), (2, u "MAYBE"), (49, u "arraycopy"), (0, u "(Ljava/lang/Object;ILjava/lang/Object;II)V"), (72, .class_ 802), (0, u "java/lang/System$Logger$Level")] 31

def k14m0 : Method := { name := "<init>", desc := "()V", sig := { parameters := [], returnType := none }, accessFlags := 2, code := none }
def k14m1 : Method := { name := "arraycopy", desc := "(Ljava/lang/Object;ILjava/lang/Object;II)V", sig := { parameters := [(.object "java/lang/Object"), .int, (.object "java/lang/Object"), .int, .int], returnType := none }, accessFlags := 265, code := none }
/-- java/lang/System -/
def k14 : Class := { plain "java/lang/System" (some 0) with
  accessFlags := 49
  interfaces := #[]
  cf := some (fileOf pool14 8 #[.nestMembers #[319, 327, 801, 108, 663, 208]] #[{ accessFlags := 2, nameIndex := 5, descriptorIndex := 6, attributes := #[] }, { accessFlags := 265, nameIndex := 727, descriptorIndex := 728, attributes := #[] }] 49 2 #[] #[{ accessFlags := 25, nameIndex := 507, descriptorIndex := 526, attributes := #[] }, { accessFlags := 25, nameIndex := 399, descriptorIndex := 155, attributes := #[] }, { accessFlags := 25, nameIndex := 396, descriptorIndex := 155, attributes := #[] }, { accessFlags := 10, nameIndex := 525, descriptorIndex := 526, attributes := #[] }, { accessFlags := 26, nameIndex := 674, descriptorIndex := 12, attributes := #[] }, { accessFlags := 26, nameIndex := 677, descriptorIndex := 12, attributes := #[] }, { accessFlags := 10, nameIndex := 11, descriptorIndex := 12, attributes := #[] }, { accessFlags := 74, nameIndex := 175, descriptorIndex := 176, attributes := #[] }, { accessFlags := 10, nameIndex := 491, descriptorIndex := 222, attributes := #[] }, { accessFlags := 74, nameIndex := 29, descriptorIndex := 30, attributes := #[] }, { accessFlags := 74, nameIndex := 154, descriptorIndex := 155, attributes := #[] }, { accessFlags := 10, nameIndex := 217, descriptorIndex := 218, attributes := #[] }, { accessFlags := 10, nameIndex := 221, descriptorIndex := 222, attributes := #[] }, { accessFlags := 8, nameIndex := 562, descriptorIndex := 563, attributes := #[] }])
  fields := #[{ name := "in", type := (.object "java/io/InputStream"), accessFlags := 25, slot := 0, constantValue := 0 }, { name := "out", type := (.object "java/io/PrintStream"), accessFlags := 25, slot := 1, constantValue := 0 }, { name := "err", type := (.object "java/io/PrintStream"), accessFlags := 25, slot := 2, constantValue := 0 }, { name := "initialIn", type := (.object "java/io/InputStream"), accessFlags := 10, slot := 3, constantValue := 0 }, { name := "NEVER", type := .int, accessFlags := 26, slot := 4, constantValue := 0 }, { name := "MAYBE", type := .int, accessFlags := 26, slot := 5, constantValue := 0 }, { name := "allowSecurityManager", type := .int, accessFlags := 10, slot := 6, constantValue := 0 }, { name := "security", type := (.object "java/lang/SecurityManager"), accessFlags := 74, slot := 7, constantValue := 0 }, { name := "notSupportedJnuEncoding", type := (.object "java/lang/String"), accessFlags := 10, slot := 8, constantValue := 0 }, { name := "cons", type := (.object "java/io/Console"), accessFlags := 74, slot := 9, constantValue := 0 }, { name := "initialErrStream", type := (.object "java/io/PrintStream"), accessFlags := 74, slot := 10, constantValue := 0 }, { name := "props", type := (.object "java/util/Properties"), accessFlags := 10, slot := 11, constantValue := 0 }, { name := "lineSeparator", type := (.object "java/lang/String"), accessFlags := 10, slot := 12, constantValue := 0 }, { name := "bootLayer", type := (.object "java/lang/ModuleLayer"), accessFlags := 8, slot := 13, constantValue := 0 }]
  methods := #[k14m0, k14m1]
  instanceTypes := #[]
  staticTypes := #[(.object "java/io/InputStream"), (.object "java/io/PrintStream"), (.object "java/io/PrintStream"), (.object "java/io/InputStream"), .int, .int, .int, (.object "java/lang/SecurityManager"), (.object "java/lang/String"), (.object "java/io/Console"), (.object "java/io/PrintStream"), (.object "java/util/Properties"), (.object "java/lang/String"), (.object "java/lang/ModuleLayer")]
  resolved := Array.replicate 834 none
  statics := none }

def pool15 : Array CpInfo := pool [(9, u "<init>"), (6, .class_ 18), (1, u "java/lang/Object"), (0, u "()V"), (1, .class_ 23), (1, u "jdk/internal/util/ArraysSupport"), (0, u "LOG2_ARRAY_LONG_INDEX_SCALE"), (0, u "I"), (2, u "U"), (0, u "Ljdk/internal/misc/Unsafe;"), (8, u "BIG_ENDIAN"), (0, u "Z"), (8, u "LOG2_BYTE_BIT_SIZE"), (4, u "LOG2_ARRAY_INT_INDEX_SCALE"), (54, u "JLA"), (0, u "Ljdk/internal/access/JavaLangAccess;"), (11, u "LOG2_ARRAY_BOOLEAN_INDEX_SCALE"), (9, u "LOG2_ARRAY_BYTE_INDEX_SCALE"), (5, u "LOG2_ARRAY_CHAR_INDEX_SCALE"), (5, u "LOG2_ARRAY_SHORT_INDEX_SCALE"), (18, u "LOG2_ARRAY_FLOAT_INDEX_SCALE"), (24, u "LOG2_ARRAY_DOUBLE_INDEX_SCALE"), (89, u "T_BOOLEAN"), (2, u "T_CHAR"), (1, u "T_FLOAT"), (1, u "T_DOUBLE"), (1, u "T_BYTE"), (1, u "T_SHORT"), (1, u "T_INT"), (1, u "T_LONG"), (1, u "SOFT_MAX_ARRAY_LENGTH")] 83

def k15m0 : Method := { name := "<init>", desc := "()V", sig := { parameters := [], returnType := none }, accessFlags := 2, code := none }
/-- jdk/internal/util/ArraysSupport -/
def k15 : Class := { plain "jdk/internal/util/ArraysSupport" (some 0) with
  accessFlags := 33
  interfaces := #[]
  cf := some (fileOf pool15 21 #[] #[{ accessFlags := 2, nameIndex := 9, descriptorIndex := 19, attributes := #[] }] 33 16 #[] #[{ accessFlags := 24, nameIndex := 28, descriptorIndex := 29, attributes := #[] }, { accessFlags := 26, nameIndex := 38, descriptorIndex := 39, attributes := #[] }, { accessFlags := 25, nameIndex := 121, descriptorIndex := 25, attributes := #[] }, { accessFlags := 25, nameIndex := 131, descriptorIndex := 25, attributes := #[] }, { accessFlags := 25, nameIndex := 137, descriptorIndex := 25, attributes := #[] }, { accessFlags := 25, nameIndex := 143, descriptorIndex := 25, attributes := #[] }, { accessFlags := 25, nameIndex := 53, descriptorIndex := 25, attributes := #[] }, { accessFlags := 25, nameIndex := 24, descriptorIndex := 25, attributes := #[] }, { accessFlags := 25, nameIndex := 162, descriptorIndex := 25, attributes := #[] }, { accessFlags := 25, nameIndex := 187, descriptorIndex := 25, attributes := #[] }, { accessFlags := 26, nameIndex := 48, descriptorIndex := 25, attributes := #[] }, { accessFlags := 25, nameIndex := 277, descriptorIndex := 25, attributes := #[] }, { accessFlags := 25, nameIndex := 280, descriptorIndex := 25, attributes := #[] }, { accessFlags := 25, nameIndex := 282, descriptorIndex := 25, attributes := #[] }, { accessFlags := 25, nameIndex := 284, descriptorIndex := 25, attributes := #[] }, { accessFlags := 25, nameIndex := 286, descriptorIndex := 25, attributes := #[] }, { accessFlags := 25, nameIndex := 288, descriptorIndex := 25, attributes := #[] }, { accessFlags := 25, nameIndex := 290, descriptorIndex := 25, attributes := #[] }, { accessFlags := 25, nameIndex := 292, descriptorIndex := 25, attributes := #[] }, { accessFlags := 26, nameIndex := 108, descriptorIndex := 109, attributes := #[] }, { accessFlags := 25, nameIndex := 294, descriptorIndex := 25, attributes := #[] }])
  fields := #[{ name := "U", type := (.object "jdk/internal/misc/Unsafe"), accessFlags := 24, slot := 0, constantValue := 0 }, { name := "BIG_ENDIAN", type := .boolean, accessFlags := 26, slot := 1, constantValue := 0 }, { name := "LOG2_ARRAY_BOOLEAN_INDEX_SCALE", type := .int, accessFlags := 25, slot := 2, constantValue := 0 }, { name := "LOG2_ARRAY_BYTE_INDEX_SCALE", type := .int, accessFlags := 25, slot := 3, constantValue := 0 }, { name := "LOG2_ARRAY_CHAR_INDEX_SCALE", type := .int, accessFlags := 25, slot := 4, constantValue := 0 }, { name := "LOG2_ARRAY_SHORT_INDEX_SCALE", type := .int, accessFlags := 25, slot := 5, constantValue := 0 }, { name := "LOG2_ARRAY_INT_INDEX_SCALE", type := .int, accessFlags := 25, slot := 6, constantValue := 0 }, { name := "LOG2_ARRAY_LONG_INDEX_SCALE", type := .int, accessFlags := 25, slot := 7, constantValue := 0 }, { name := "LOG2_ARRAY_FLOAT_INDEX_SCALE", type := .int, accessFlags := 25, slot := 8, constantValue := 0 }, { name := "LOG2_ARRAY_DOUBLE_INDEX_SCALE", type := .int, accessFlags := 25, slot := 9, constantValue := 0 }, { name := "LOG2_BYTE_BIT_SIZE", type := .int, accessFlags := 26, slot := 10, constantValue := 0 }, { name := "T_BOOLEAN", type := .int, accessFlags := 25, slot := 11, constantValue := 0 }, { name := "T_CHAR", type := .int, accessFlags := 25, slot := 12, constantValue := 0 }, { name := "T_FLOAT", type := .int, accessFlags := 25, slot := 13, constantValue := 0 }, { name := "T_DOUBLE", type := .int, accessFlags := 25, slot := 14, constantValue := 0 }, { name := "T_BYTE", type := .int, accessFlags := 25, slot := 15, constantValue := 0 }, { name := "T_SHORT", type := .int, accessFlags := 25, slot := 16, constantValue := 0 }, { name := "T_INT", type := .int, accessFlags := 25, slot := 17, constantValue := 0 }, { name := "T_LONG", type := .int, accessFlags := 25, slot := 18, constantValue := 0 }, { name := "JLA", type := (.object "jdk/internal/access/JavaLangAccess"), accessFlags := 26, slot := 19, constantValue := 0 }, { name := "SOFT_MAX_ARRAY_LENGTH", type := .int, accessFlags := 25, slot := 20, constantValue := 0 }]
  methods := #[k15m0]
  instanceTypes := #[]
  staticTypes := #[(.object "jdk/internal/misc/Unsafe"), .boolean, .int, .int, .int, .int, .int, .int, .int, .int, .int, .int, .int, .int, .int, .int, .int, .int, .int, (.object "jdk/internal/access/JavaLangAccess"), .int]
  resolved := Array.replicate 378 none
  statics := none }

def pool16 : Array CpInfo := pool [(1, u "java/lang/Cloneable"), (0, .class_ 1), (0, u "java/lang/Object"), (0, .class_ 3)] 3

/-- java/lang/Cloneable -/
def k16 : Class := { plain "java/lang/Cloneable" (some 0) with
  accessFlags := 1537
  interfaces := #[]
  cf := some (fileOf pool16 2 #[] #[] 1537 4 #[] #[])
  fields := #[]
  methods := #[]
  instanceTypes := #[]
  staticTypes := #[]
  resolved := Array.replicate 8 none
  statics := none }

/-- the primitive byte -/
def k17 : Class := { plain "byte" none with kind := .primitive 'B', accessFlags := 0x411 }
/-- [B -/
def k18 : Class := { plain "[B" (some 0) with kind := .array 17 .byte, interfaces := #[16, 2], accessFlags := 1041 }

/-- the primitive char -/
def k19 : Class := { plain "char" none with kind := .primitive 'C', accessFlags := 0x411 }
/-- [C -/
def k20 : Class := { plain "[C" (some 0) with kind := .array 19 .char, interfaces := #[16, 2], accessFlags := 1041 }

/-- the primitive int -/
def k21 : Class := { plain "int" none with kind := .primitive 'I', accessFlags := 0x411 }
/-- [I -/
def k22 : Class := { plain "[I" (some 0) with kind := .array 21 .int, interfaces := #[16, 2], accessFlags := 1041 }

def heap : Heap := #[{ cls := 7, slots := #[.long 0, .int 1, .null, .int 0, .null, .int 0, .int 0], vm := .statics 7 },
  { cls := 9, slots := #[.null, .null, .null], vm := .statics 9 }]
def classes : Array Class := #[k0, k1, k2, k3, k4, k5, k6, k7, k8, k9, k10, k11, k12, k13, k14, k15, k16, k17, k18, k19, k20, k21, k22]
def interned : List (Array UInt16 × Addr) := []
def slotsUsed : Nat := 10
def theMethod : MethodId := ⟨1, 1⟩
def args0 : Array Value := #[.int 5, .int 5, .int 5, .int 5, .int 5]
def aboutOver (below : List Frame) : State where
  vm := { classes := classes, interned := interned.toArray }
  heap := heap
  slotsUsed := slotsUsed
  threads := #[{ frames := .invoking theMethod args0 :: below }]
def below0 : List Frame := [.native { method := ⟨0, 0⟩, args := #[] }]
def about1 : State := aboutOver below0
def p0 : Program := .bare "" "" ""
def e0 : Env := launch0.env 0 0 0
theorem w_frames : about1.frames = Frame.invoking theMethod args0 :: below0 := rfl
set_option maxRecDepth 65536 in
theorem w_args : argsFit about1.vm theMethod args0 = true := by decide +kernel
set_option maxRecDepth 65536 in
theorem w_heap : heapFits about1 = true := by decide +kernel
set_option maxRecDepth 65536 in
theorem w_runnable : about1.curStatus? = some .runnable := by decide +kernel
set_option maxRecDepth 65536 in
theorem w_alone : about1.alone = true := by decide +kernel
set_option maxRecDepth 65536 in
theorem w_named : about1.methodNamed? x = some theMethod := by decide +kernel
set_option maxRecDepth 65536 in
theorem w_hears : about1.hears theMethod below0 = true := by decide +kernel
set_option maxRecDepth 65536 in
theorem w_ripe : about1.ripe theMethod args0 below0 = true := by decide +kernel
theorem w_running : about1.status = .running := rfl
set_option maxRecDepth 65536 in
theorem w_room : about1.hasRoom e0.platform room_1 = true :=
  launch0.hasRoom_least _ room_1 (by decide +kernel) (by decide +kernel) (by decide +kernel) (by decide +kernel) (by decide +kernel) (by decide +kernel)
theorem allAtoms_all (ts : List Jvm.Cond) (a : Array Jvm.Value) (st : Jvm.State) : (allAtoms ts).before a st = ts.all (fun c => c.before a st) := by
  induction ts with
  | nil => rfl
  | cons c t ih =>
    show (Jvm.Cond.and c (allAtoms t)).before a st = _
    rw [Jvm.Cond.before_and, ih, List.all_cons]
def words1 : List Jvm.Cond := Jvm.Cond.code x code maxLocals ret :: tables_1
/-- a 'code' word, met by the world's own term for the bytes: nothing is compared byte by byte -/
theorem code_word {y : MethodName} {bytes : ByteArray} {mx : Nat} {rt : Option FieldType} {a : Array Value} {s : State} {m : MethodId} {meth : Method} {c : Code} (h1 : s.methodNamed? y = some m) (h2 : s.vm.method? m = some meth) (h3 : meth.code = some c) (h4 : c.code = bytes)
    (h5 : (c.maxLocals == mx && c.exceptionTable.isEmpty && decide (c.maxStack ≤ mostOperands) && decide (meth.sig.returnType = rt) && !meth.locks && decide (parseMethodDescriptor y.desc = some meth.sig)) = true) : (Jvm.Cond.code y bytes mx rt).before a s = true := by
  simp only [Bool.and_eq_true, beq_iff_eq, Bool.not_eq_true', decide_eq_true_eq] at h5
  obtain ⟨⟨⟨⟨⟨g1, g2⟩, g3⟩, g4⟩, g5⟩, g6⟩ := h5
  simp [Cond.before, Cond.holds, Cond.value, h1, h2, h3, h4, g1, g2, g3, g4, g5, g6]
def isCode : Jvm.Cond → Bool
  | .code _ _ _ _ => true
  | _ => false
theorem all_split {L : List Jvm.Cond} {P : Jvm.Cond → Bool} (h1 : L.all (fun c => isCode c || P c) = true) (h2 : ∀ c ∈ L.filter isCode, P c = true) : L.all P = true := by
  refine List.all_eq_true.mpr fun c hc => ?_
  have h := List.all_eq_true.mp h1 c hc
  rcases Bool.eq_false_or_eq_true (isCode c) with hi | hi
  · exact h2 c (List.mem_filter.mpr ⟨hc, hi⟩)
  · simpa [hi] using h
set_option maxRecDepth 65536 in
theorem w_c0 : (Jvm.Cond.code x code maxLocals ret).before args0 about1 = true := code_word (m := ⟨1, 1⟩) (meth := k1m1) (c := k1c1) (by decide +kernel) rfl rfl rfl (by decide +kernel)
set_option maxRecDepth 65536 in
theorem w_c1 : (Jvm.Cond.code ({ cls := "java/lang/String", name := "<init>", desc := "([C)V" } : Jvm.MethodName) jdk_42_method_3_code (2 : Nat) (Option.none : Option Jvm.ClassFile.FieldType)).before args0 about1 = true := code_word (m := ⟨7, 1⟩) (meth := k7m1) (c := k7c1) (by decide +kernel) rfl rfl rfl (by decide +kernel)
set_option maxRecDepth 65536 in
theorem w_c2 : (Jvm.Cond.code ({ cls := "java/lang/String", name := "<init>", desc := "([CIILjava/lang/Void;)V" } : Jvm.MethodName) jdk_42_method_149_code (6 : Nat) (Option.none : Option Jvm.ClassFile.FieldType)).before args0 about1 = true := code_word (m := ⟨7, 5⟩) (meth := k7m5) (c := k7c5) (by decide +kernel) rfl rfl rfl (by decide +kernel)
set_option maxRecDepth 65536 in
theorem w_c3 : (Jvm.Cond.code ({ cls := "java/lang/Object", name := "<init>", desc := "()V" } : Jvm.MethodName) object_method_1_code (1 : Nat) (Option.none : Option Jvm.ClassFile.FieldType)).before args0 about1 = true := code_word (m := ⟨0, 0⟩) (meth := k0m0) (c := k0c0) (by decide +kernel) rfl rfl rfl (by decide +kernel)
set_option maxRecDepth 65536 in
theorem w_c4 : (Jvm.Cond.code ({ cls := "com/example/shelfmark/shelfmark/records/Text", name := "trim", desc := "(Ljava/lang/String;)Ljava/lang/String;" } : Jvm.MethodName) prog_56_method_4_code (3 : Nat) (Option.some (Jvm.ClassFile.FieldType.object "java/lang/String"))).before args0 about1 = true := code_word (m := ⟨8, 1⟩) (meth := k8m1) (c := k8c1) (by decide +kernel) rfl rfl rfl (by decide +kernel)
set_option maxRecDepth 65536 in
theorem w_c5 : (Jvm.Cond.code ({ cls := "java/lang/String", name := "length", desc := "()I" } : Jvm.MethodName) jdk_42_method_54_code (1 : Nat) (Option.some Jvm.ClassFile.FieldType.int)).before args0 about1 = true := code_word (m := ⟨7, 2⟩) (meth := k7m2) (c := k7c2) (by decide +kernel) rfl rfl rfl (by decide +kernel)
set_option maxRecDepth 65536 in
theorem w_c6 : (Jvm.Cond.code ({ cls := "java/lang/String", name := "coder", desc := "()B" } : Jvm.MethodName) jdk_42_method_152_code (1 : Nat) (Option.some Jvm.ClassFile.FieldType.byte)).before args0 about1 = true := code_word (m := ⟨7, 7⟩) (meth := k7m7) (c := k7c7) (by decide +kernel) rfl rfl rfl (by decide +kernel)
set_option maxRecDepth 65536 in
theorem w_c7 : (Jvm.Cond.code ({ cls := "java/lang/String", name := "substring", desc := "(II)Ljava/lang/String;" } : Jvm.MethodName) jdk_42_method_92_code (5 : Nat) (Option.some (Jvm.ClassFile.FieldType.object "java/lang/String"))).before args0 about1 = true := code_word (m := ⟨7, 4⟩) (meth := k7m4) (c := k7c4) (by decide +kernel) rfl rfl rfl (by decide +kernel)
set_option maxRecDepth 65536 in
theorem w_c8 : (Jvm.Cond.code ({ cls := "java/lang/String", name := "checkBoundsBeginEnd", desc := "(III)V" } : Jvm.MethodName) jdk_42_method_158_code (3 : Nat) (Option.none : Option Jvm.ClassFile.FieldType)).before args0 about1 = true := code_word (m := ⟨7, 10⟩) (meth := k7m10) (c := k7c10) (by decide +kernel) rfl rfl rfl (by decide +kernel)
set_option maxRecDepth 65536 in
theorem w_c9 : (Jvm.Cond.code ({ cls := "jdk/internal/util/Preconditions", name := "checkFromToIndex", desc := "(IIILjava/util/function/BiFunction;)I" } : Jvm.MethodName) jdk_41_method_12_code (4 : Nat) (Option.some Jvm.ClassFile.FieldType.int)).before args0 about1 = true := code_word (m := ⟨9, 2⟩) (meth := k9m2) (c := k9c2) (by decide +kernel) rfl rfl rfl (by decide +kernel)
set_option maxRecDepth 65536 in
theorem w_c10 : (Jvm.Cond.code ({ cls := "com/example/shelfmark/shelfmark/records/TextTrimPinLaw", name := "ws", desc := "([CI)Z" } : Jvm.MethodName) method_4_code (2 : Nat) (Option.some Jvm.ClassFile.FieldType.boolean)).before args0 about1 = true := code_word (m := ⟨1, 3⟩) (meth := k1m3) (c := k1c3) (by decide +kernel) rfl rfl rfl (by decide +kernel)
set_option maxRecDepth 65536 in
theorem w_c11 : (Jvm.Cond.code ({ cls := "java/lang/Math", name := "min", desc := "(II)I" } : Jvm.MethodName) jdk_29_method_69_code (2 : Nat) (Option.some Jvm.ClassFile.FieldType.int)).before args0 about1 = true := code_word (m := ⟨10, 1⟩) (meth := k10m1) (c := k10c1) (by decide +kernel) rfl rfl rfl (by decide +kernel)
set_option maxRecDepth 65536 in
theorem w_c12 : (Jvm.Cond.code ({ cls := "com/example/shelfmark/shelfmark/records/TextTrimPinLaw", name := "place", desc := "([CLjava/lang/String;III)Z" } : Jvm.MethodName) method_3_code (5 : Nat) (Option.some Jvm.ClassFile.FieldType.boolean)).before args0 about1 = true := code_word (m := ⟨1, 2⟩) (meth := k1m2) (c := k1c2) (by decide +kernel) rfl rfl rfl (by decide +kernel)
set_option maxRecDepth 65536 in
theorem w_c13 : (Jvm.Cond.code ({ cls := "com/example/shelfmark/shelfmark/records/TextTrimPinLaw", name := "ch", desc := "(I)C" } : Jvm.MethodName) method_6_code (2 : Nat) (Option.some Jvm.ClassFile.FieldType.char)).before args0 about1 = true := code_word (m := ⟨1, 5⟩) (meth := k1m5) (c := k1c5) (by decide +kernel) rfl rfl rfl (by decide +kernel)
set_option maxRecDepth 65536 in
theorem w_c14 : (Jvm.Cond.code ({ cls := "java/lang/StringUTF16", name := "compress", desc := "([CII)[B" } : Jvm.MethodName) jdk_52_method_16_code (6 : Nat) (Option.some (Jvm.ClassFile.FieldType.array Jvm.ClassFile.FieldType.byte))).before args0 about1 = true := code_word (m := ⟨11, 2⟩) (meth := k11m2) (c := k11c2) (by decide +kernel) rfl rfl rfl (by decide +kernel)
set_option maxRecDepth 65536 in
theorem w_c15 : (Jvm.Cond.code ({ cls := "java/lang/StringUTF16", name := "compress", desc := "([CI[BII)I" } : Jvm.MethodName) jdk_52_method_21_code (7 : Nat) (Option.some Jvm.ClassFile.FieldType.int)).before args0 about1 = true := code_word (m := ⟨11, 3⟩) (meth := k11m3) (c := k11c3) (by decide +kernel) rfl rfl rfl (by decide +kernel)
set_option maxRecDepth 65536 in
theorem w_c16 : (Jvm.Cond.code ({ cls := "java/lang/StringUTF16", name := "coderFromArrayLen", desc := "([BI)B" } : Jvm.MethodName) jdk_52_method_15_code (2 : Nat) (Option.some Jvm.ClassFile.FieldType.byte)).before args0 about1 = true := code_word (m := ⟨11, 1⟩) (meth := k11m1) (c := k11c1) (by decide +kernel) rfl rfl rfl (by decide +kernel)
set_option maxRecDepth 65536 in
theorem w_c17 : (Jvm.Cond.code ({ cls := "java/lang/String", name := "charAt", desc := "(I)C" } : Jvm.MethodName) jdk_42_method_56_code (2 : Nat) (Option.some Jvm.ClassFile.FieldType.char)).before args0 about1 = true := code_word (m := ⟨7, 3⟩) (meth := k7m3) (c := k7c3) (by decide +kernel) rfl rfl rfl (by decide +kernel)
set_option maxRecDepth 65536 in
theorem w_c18 : (Jvm.Cond.code ({ cls := "java/lang/String", name := "isLatin1", desc := "()Z" } : Jvm.MethodName) jdk_42_method_154_code (1 : Nat) (Option.some Jvm.ClassFile.FieldType.boolean)).before args0 about1 = true := code_word (m := ⟨7, 8⟩) (meth := k7m8) (c := k7c8) (by decide +kernel) rfl rfl rfl (by decide +kernel)
set_option maxRecDepth 65536 in
theorem w_c19 : (Jvm.Cond.code ({ cls := "java/lang/StringLatin1", name := "charAt", desc := "([BI)C" } : Jvm.MethodName) jdk_43_method_2_code (2 : Nat) (Option.some Jvm.ClassFile.FieldType.char)).before args0 about1 = true := code_word (m := ⟨12, 1⟩) (meth := k12m1) (c := k12c1) (by decide +kernel) rfl rfl rfl (by decide +kernel)
set_option maxRecDepth 65536 in
theorem w_c20 : (Jvm.Cond.code ({ cls := "java/lang/String", name := "checkIndex", desc := "(II)V" } : Jvm.MethodName) jdk_42_method_155_code (2 : Nat) (Option.none : Option Jvm.ClassFile.FieldType)).before args0 about1 = true := code_word (m := ⟨7, 9⟩) (meth := k7m9) (c := k7c9) (by decide +kernel) rfl rfl rfl (by decide +kernel)
set_option maxRecDepth 65536 in
theorem w_c21 : (Jvm.Cond.code ({ cls := "jdk/internal/util/Preconditions", name := "checkIndex", desc := "(IILjava/util/function/BiFunction;)I" } : Jvm.MethodName) jdk_41_method_11_code (3 : Nat) (Option.some Jvm.ClassFile.FieldType.int)).before args0 about1 = true := code_word (m := ⟨9, 1⟩) (meth := k9m1) (c := k9c1) (by decide +kernel) rfl rfl rfl (by decide +kernel)
set_option maxRecDepth 65536 in
theorem w_c22 : (Jvm.Cond.code ({ cls := "com/example/shelfmark/shelfmark/records/Text", name := "isWhiteSpace", desc := "(C)Z" } : Jvm.MethodName) prog_56_method_5_code (1 : Nat) (Option.some Jvm.ClassFile.FieldType.boolean)).before args0 about1 = true := code_word (m := ⟨8, 2⟩) (meth := k8m2) (c := k8c2) (by decide +kernel) rfl rfl rfl (by decide +kernel)
set_option maxRecDepth 65536 in
theorem w_c23 : (Jvm.Cond.code ({ cls := "com/example/shelfmark/shelfmark/records/TextTrimPinLaw", name := "isWs", desc := "(C)Z" } : Jvm.MethodName) method_5_code (1 : Nat) (Option.some Jvm.ClassFile.FieldType.boolean)).before args0 about1 = true := code_word (m := ⟨1, 4⟩) (meth := k1m4) (c := k1c4) (by decide +kernel) rfl rfl rfl (by decide +kernel)
set_option maxRecDepth 65536 in
theorem w_c24 : (Jvm.Cond.code ({ cls := "java/lang/StringLatin1", name := "newString", desc := "([BII)Ljava/lang/String;" } : Jvm.MethodName) jdk_43_method_47_code (3 : Nat) (Option.some (Jvm.ClassFile.FieldType.object "java/lang/String"))).before args0 about1 = true := code_word (m := ⟨12, 2⟩) (meth := k12m2) (c := k12c2) (by decide +kernel) rfl rfl rfl (by decide +kernel)
set_option maxRecDepth 65536 in
theorem w_c25 : (Jvm.Cond.code ({ cls := "java/util/Arrays", name := "copyOfRange", desc := "([BII)[B" } : Jvm.MethodName) jdk_65_method_132_code (3 : Nat) (Option.some (Jvm.ClassFile.FieldType.array Jvm.ClassFile.FieldType.byte))).before args0 about1 = true := code_word (m := ⟨13, 2⟩) (meth := k13m2) (c := k13c2) (by decide +kernel) rfl rfl rfl (by decide +kernel)
set_option maxRecDepth 65536 in
theorem w_c26 : (Jvm.Cond.code ({ cls := "java/util/Arrays", name := "copyOfRangeByte", desc := "([BII)[B" } : Jvm.MethodName) jdk_65_method_133_code (5 : Nat) (Option.some (Jvm.ClassFile.FieldType.array Jvm.ClassFile.FieldType.byte))).before args0 about1 = true := code_word (m := ⟨13, 3⟩) (meth := k13m3) (c := k13c3) (by decide +kernel) rfl rfl rfl (by decide +kernel)
set_option maxRecDepth 65536 in
theorem w_c27 : (Jvm.Cond.code ({ cls := "java/util/Arrays", name := "checkLength", desc := "(II)V" } : Jvm.MethodName) jdk_65_method_131_code (2 : Nat) (Option.none : Option Jvm.ClassFile.FieldType)).before args0 about1 = true := code_word (m := ⟨13, 1⟩) (meth := k13m1) (c := k13c1) (by decide +kernel) rfl rfl rfl (by decide +kernel)
set_option maxRecDepth 65536 in
theorem w_c28 : (Jvm.Cond.code ({ cls := "java/lang/String", name := "<init>", desc := "([BB)V" } : Jvm.MethodName) jdk_42_method_151_code (3 : Nat) (Option.none : Option Jvm.ClassFile.FieldType)).before args0 about1 = true := code_word (m := ⟨7, 6⟩) (meth := k7m6) (c := k7c6) (by decide +kernel) rfl rfl rfl (by decide +kernel)
def codes1 : List Jvm.Cond := [Jvm.Cond.code x code maxLocals ret, Jvm.Cond.code ({ cls := "java/lang/String", name := "<init>", desc := "([C)V" } : Jvm.MethodName) jdk_42_method_3_code (2 : Nat) (Option.none : Option Jvm.ClassFile.FieldType), Jvm.Cond.code ({ cls := "java/lang/String", name := "<init>", desc := "([CIILjava/lang/Void;)V" } : Jvm.MethodName) jdk_42_method_149_code (6 : Nat) (Option.none : Option Jvm.ClassFile.FieldType), Jvm.Cond.code ({ cls := "java/lang/Object", name := "<init>", desc := "()V" } : Jvm.MethodName) object_method_1_code (1 : Nat) (Option.none : Option Jvm.ClassFile.FieldType), Jvm.Cond.code ({ cls := "com/example/shelfmark/shelfmark/records/Text", name := "trim", desc := "(Ljava/lang/String;)Ljava/lang/String;" } : Jvm.MethodName) prog_56_method_4_code (3 : Nat) (Option.some (Jvm.ClassFile.FieldType.object "java/lang/String")), Jvm.Cond.code ({ cls := "java/lang/String", name := "length", desc := "()I" } : Jvm.MethodName) jdk_42_method_54_code (1 : Nat) (Option.some Jvm.ClassFile.FieldType.int), Jvm.Cond.code ({ cls := "java/lang/String", name := "coder", desc := "()B" } : Jvm.MethodName) jdk_42_method_152_code (1 : Nat) (Option.some Jvm.ClassFile.FieldType.byte), Jvm.Cond.code ({ cls := "java/lang/String", name := "substring", desc := "(II)Ljava/lang/String;" } : Jvm.MethodName) jdk_42_method_92_code (5 : Nat) (Option.some (Jvm.ClassFile.FieldType.object "java/lang/String")), Jvm.Cond.code ({ cls := "java/lang/String", name := "checkBoundsBeginEnd", desc := "(III)V" } : Jvm.MethodName) jdk_42_method_158_code (3 : Nat) (Option.none : Option Jvm.ClassFile.FieldType), Jvm.Cond.code ({ cls := "jdk/internal/util/Preconditions", name := "checkFromToIndex", desc := "(IIILjava/util/function/BiFunction;)I" } : Jvm.MethodName) jdk_41_method_12_code (4 : Nat) (Option.some Jvm.ClassFile.FieldType.int), Jvm.Cond.code ({ cls := "com/example/shelfmark/shelfmark/records/TextTrimPinLaw", name := "ws", desc := "([CI)Z" } : Jvm.MethodName) method_4_code (2 : Nat) (Option.some Jvm.ClassFile.FieldType.boolean), Jvm.Cond.code ({ cls := "java/lang/Math", name := "min", desc := "(II)I" } : Jvm.MethodName) jdk_29_method_69_code (2 : Nat) (Option.some Jvm.ClassFile.FieldType.int), Jvm.Cond.code ({ cls := "com/example/shelfmark/shelfmark/records/TextTrimPinLaw", name := "place", desc := "([CLjava/lang/String;III)Z" } : Jvm.MethodName) method_3_code (5 : Nat) (Option.some Jvm.ClassFile.FieldType.boolean), Jvm.Cond.code ({ cls := "com/example/shelfmark/shelfmark/records/TextTrimPinLaw", name := "ch", desc := "(I)C" } : Jvm.MethodName) method_6_code (2 : Nat) (Option.some Jvm.ClassFile.FieldType.char), Jvm.Cond.code ({ cls := "java/lang/StringUTF16", name := "compress", desc := "([CII)[B" } : Jvm.MethodName) jdk_52_method_16_code (6 : Nat) (Option.some (Jvm.ClassFile.FieldType.array Jvm.ClassFile.FieldType.byte)), Jvm.Cond.code ({ cls := "java/lang/StringUTF16", name := "compress", desc := "([CI[BII)I" } : Jvm.MethodName) jdk_52_method_21_code (7 : Nat) (Option.some Jvm.ClassFile.FieldType.int), Jvm.Cond.code ({ cls := "java/lang/StringUTF16", name := "coderFromArrayLen", desc := "([BI)B" } : Jvm.MethodName) jdk_52_method_15_code (2 : Nat) (Option.some Jvm.ClassFile.FieldType.byte), Jvm.Cond.code ({ cls := "java/lang/String", name := "charAt", desc := "(I)C" } : Jvm.MethodName) jdk_42_method_56_code (2 : Nat) (Option.some Jvm.ClassFile.FieldType.char), Jvm.Cond.code ({ cls := "java/lang/String", name := "isLatin1", desc := "()Z" } : Jvm.MethodName) jdk_42_method_154_code (1 : Nat) (Option.some Jvm.ClassFile.FieldType.boolean), Jvm.Cond.code ({ cls := "java/lang/StringLatin1", name := "charAt", desc := "([BI)C" } : Jvm.MethodName) jdk_43_method_2_code (2 : Nat) (Option.some Jvm.ClassFile.FieldType.char), Jvm.Cond.code ({ cls := "java/lang/String", name := "checkIndex", desc := "(II)V" } : Jvm.MethodName) jdk_42_method_155_code (2 : Nat) (Option.none : Option Jvm.ClassFile.FieldType), Jvm.Cond.code ({ cls := "jdk/internal/util/Preconditions", name := "checkIndex", desc := "(IILjava/util/function/BiFunction;)I" } : Jvm.MethodName) jdk_41_method_11_code (3 : Nat) (Option.some Jvm.ClassFile.FieldType.int), Jvm.Cond.code ({ cls := "com/example/shelfmark/shelfmark/records/Text", name := "isWhiteSpace", desc := "(C)Z" } : Jvm.MethodName) prog_56_method_5_code (1 : Nat) (Option.some Jvm.ClassFile.FieldType.boolean), Jvm.Cond.code ({ cls := "com/example/shelfmark/shelfmark/records/TextTrimPinLaw", name := "isWs", desc := "(C)Z" } : Jvm.MethodName) method_5_code (1 : Nat) (Option.some Jvm.ClassFile.FieldType.boolean), Jvm.Cond.code ({ cls := "java/lang/StringLatin1", name := "newString", desc := "([BII)Ljava/lang/String;" } : Jvm.MethodName) jdk_43_method_47_code (3 : Nat) (Option.some (Jvm.ClassFile.FieldType.object "java/lang/String")), Jvm.Cond.code ({ cls := "java/util/Arrays", name := "copyOfRange", desc := "([BII)[B" } : Jvm.MethodName) jdk_65_method_132_code (3 : Nat) (Option.some (Jvm.ClassFile.FieldType.array Jvm.ClassFile.FieldType.byte)), Jvm.Cond.code ({ cls := "java/util/Arrays", name := "copyOfRangeByte", desc := "([BII)[B" } : Jvm.MethodName) jdk_65_method_133_code (5 : Nat) (Option.some (Jvm.ClassFile.FieldType.array Jvm.ClassFile.FieldType.byte)), Jvm.Cond.code ({ cls := "java/util/Arrays", name := "checkLength", desc := "(II)V" } : Jvm.MethodName) jdk_65_method_131_code (2 : Nat) (Option.none : Option Jvm.ClassFile.FieldType), Jvm.Cond.code ({ cls := "java/lang/String", name := "<init>", desc := "([BB)V" } : Jvm.MethodName) jdk_42_method_151_code (3 : Nat) (Option.none : Option Jvm.ClassFile.FieldType)]
set_option maxRecDepth 65536 in
theorem codes_eq : words1.filter isCode = codes1 := rfl
theorem w_codes : ∀ c ∈ words1.filter isCode, c.before args0 about1 = true := by
  rw [codes_eq]
  intro c hc
  simp only [codes1, List.mem_cons, List.not_mem_nil, or_false] at hc
  rcases hc with rfl | rfl | rfl | rfl | rfl | rfl | rfl | rfl | rfl | rfl | rfl | rfl | rfl | rfl | rfl | rfl | rfl | rfl | rfl | rfl | rfl | rfl | rfl | rfl | rfl | rfl | rfl | rfl | rfl
  · exact w_c0
  · exact w_c1
  · exact w_c2
  · exact w_c3
  · exact w_c4
  · exact w_c5
  · exact w_c6
  · exact w_c7
  · exact w_c8
  · exact w_c9
  · exact w_c10
  · exact w_c11
  · exact w_c12
  · exact w_c13
  · exact w_c14
  · exact w_c15
  · exact w_c16
  · exact w_c17
  · exact w_c18
  · exact w_c19
  · exact w_c20
  · exact w_c21
  · exact w_c22
  · exact w_c23
  · exact w_c24
  · exact w_c25
  · exact w_c26
  · exact w_c27
  · exact w_c28
set_option maxRecDepth 65536 in
theorem w_t1 : (words1.take 24).all (fun c => isCode c || c.before args0 about1) = true := by decide +kernel
set_option maxRecDepth 65536 in
theorem w_t2 : ((words1.drop 24).take 24).all (fun c => isCode c || c.before args0 about1) = true := by decide +kernel
set_option maxRecDepth 65536 in
theorem w_t3 : (((words1.drop 24).drop 24).take 24).all (fun c => isCode c || c.before args0 about1) = true := by decide +kernel
set_option maxRecDepth 65536 in
theorem w_t4 : ((((words1.drop 24).drop 24).drop 24).take 24).all (fun c => isCode c || c.before args0 about1) = true := by decide +kernel
set_option maxRecDepth 65536 in
theorem w_t5 : (((((words1.drop 24).drop 24).drop 24).drop 24).take 24).all (fun c => isCode c || c.before args0 about1) = true := by decide +kernel
set_option maxRecDepth 65536 in
theorem w_t6 : (((((words1.drop 24).drop 24).drop 24).drop 24).drop 24).all (fun c => isCode c || c.before args0 about1) = true := by decide +kernel
theorem w_tables : (allAtoms (Jvm.Cond.code x code maxLocals ret :: tables_1)).before args0 about1 = true := by
  rw [allAtoms_all]
  show words1.all (fun c => c.before args0 about1) = true
  refine all_split ?_ w_codes
  rw [← List.take_append_drop 24 words1, List.all_append, w_t1, ← List.take_append_drop 24 (words1.drop 24), List.all_append, w_t2, ← List.take_append_drop 24 ((words1.drop 24).drop 24), List.all_append, w_t3, ← List.take_append_drop 24 (((words1.drop 24).drop 24).drop 24), List.all_append, w_t4, ← List.take_append_drop 24 ((((words1.drop 24).drop 24).drop 24).drop 24), List.all_append, w_t5, w_t6]
  rfl
set_option maxRecDepth 65536 in
theorem w_rest : rest_1_c.before args0 about1 = true := by decide +kernel
set_option maxRecDepth 65536 in
theorem w_case : (Jvm.Cond.and given_1 narrow_1).before args0 about1 = true := by decide +kernel
set_option maxRecDepth 65536 in
theorem w_consts : constsHeld consts_1 about1 := Jvm.Lit.constsHeldB_iff.mp (by decide +kernel)
theorem w_applies : (headSpec (Jvm.Cond.code x code maxLocals ret :: tables_1) room_1).applies x e0.platform about1 = true :=
  (Spec.applies_iff w_frames).mpr ⟨w_running, w_runnable, w_alone, w_named, w_hears, w_ripe, w_room, w_tables⟩
theorem atStart : AtStart classFile x code maxLocals ret World_1 tables_1 room_1 Calls_1 rest_1 Pre_1 launch0 p0 e0 about1 theMethod args0 below0 :=
  ⟨lists_1, trivial, launch0.admits_env _ _ _, launch0.least_env, fairChoices_fair.cas, fairChoices_fair.clock, w_frames, w_args, w_heap, w_applies, ⟨w_consts, trivial⟩, w_rest, w_case⟩
end start1
theorem witness_1 : WitnessClaimed_1 := ⟨start1.p0, start1.e0, start1.about1, start1.theMethod, start1.args0, start1.below0, start1.atStart⟩
end Jvm.Pilot.@@N@@
