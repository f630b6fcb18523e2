import JvmDerived
import JvmDerived.Pilot.@@N@@Statement
import JvmDerived.Pilot.@@N@@Code
set_option linter.unusedVariables false
set_option linter.unusedSimpArgs false
namespace Jvm.RoadKit
open Sem ClassFile Op Lib Jvm.Stand Jvm.Free Jvm.LawKit
section New
variable {p : Program} {l : Launch} {e : Env} {R : Room} {s : State} {m : MethodId} {args : Array Value} {below : List Frame} {meth : Method} {c : Code} {T : State} {locs : List Loc} {cells slots : Nat}
theorem retI (X : Stand p l e R s m args below meth c T locs cells slots) (hx : p.tables.exec = Jvm.exec) {pc : Nat} {Ls : Array Slot} {z : Int32} {rest : List Value} (hret : meth.sig.returnType = some .int) (hd : decode c.code pc = .ok (.ireturn, 1)) {fs : List Frame}
    (hl : ∀ (f : JFrame) (acts : List Action), f.method = m → f.locked = none → f.entered = [] → (doReturn e (T.setTop f) acts (some (.int z))).1 = T.setFrames fs) : Steps p.tables e below (T.setTop (mkF m pc Ls (.int z :: rest))) (T.setFrames fs) := by
  have hm' : T.vm.method? m = some meth := X.method'
  have hn : narrow .int (.int z) = .int z := rfl
  show Steps p.tables e below (T.setTop { method := m, pc := pc, locals := Ls, stack := _ :: rest, locked := none }) _
  jvm_step X.here [X.here.top, hx, hd, hm', hret, hn]
  first | (intro acts; rw [hl _ acts rfl rfl rfl]) | rw [hl _ _ rfl rfl rfl]
  exact Steps.refl _
theorem own_retR (X : Stand p l e R s m args below meth c T locs cells slots) (hx : p.tables.exec = Jvm.exec) {pc : Nat} {Ls : Array Slot} {w : Value} {t : FieldType} {rest : List Value} (hret : meth.sig.returnType = some t) (ht : t.isReference = true) (hw : w.isRef = true) (hd : decode c.code pc = .ok (.areturn, 1)) {fs : List Frame}
    (hl : ∀ (f : JFrame) (acts : List Action), f.method = m → f.locked = none → f.entered = [] → (doReturn e (T.setTop f) acts (some w)).1 = T.setFrames fs) : Steps p.tables e below (T.setTop (mkF m pc Ls (w :: rest))) (T.setFrames fs) :=
  retOut X hx hret (by rcases ref_cases hw with rfl | ⟨z, rfl⟩ <;> cases t <;> first | rfl | (cases ht; done)) (Or.inr (Or.inr (Or.inr (Or.inr ⟨rfl, ht, hw⟩)))) hd hl
theorem own_retJ (X : Stand p l e R s m args below meth c T locs cells slots) (hx : p.tables.exec = Jvm.exec) {pc : Nat} {Ls : Array Slot} {z : Int64} {rest : List Value} (hret : meth.sig.returnType = some .long) (hd : decode c.code pc = .ok (.lreturn, 1)) {fs : List Frame}
    (hl : ∀ (f : JFrame) (acts : List Action), f.method = m → f.locked = none → f.entered = [] → (doReturn e (T.setTop f) acts (some (.long z))).1 = T.setFrames fs) : Steps p.tables e below (T.setTop (mkF m pc Ls (.long z :: rest))) (T.setFrames fs) :=
  retOut X hx hret rfl (Or.inr (Or.inl ⟨rfl, rfl, z, rfl⟩)) hd hl
end New
theorem own_eqv {args : Array Value} {first s : State} {o : Option Outcome} {idx : List Nat} {a b : Term} {v : Value} (h : (Jvm.Cond.eq a b).value args first o s idx = some true) (hb : b.eval args first o idx s = some v) (hk : (match v with | .int _ => true | .ref _ => true | .long _ => true | _ => false) = true := by rfl) : a.eval args first o idx s = some v := by
  simp only [Cond.value, hb] at h
  cases ha : a.eval args first o idx s with
  | none => simp [ha] at h
  | some x => cases x <;> cases v <;> simp_all
theorem own_selP {Z s : State} {a0 args : Array Value} {y : MethodName} {n : Nat} (hZ : Z.Warmed39 s.vm) (wi : (Cond.instantiable y.cls n).before a0 Z = true) (wp : (Cond.privateMethod y).before a0 Z = true) (wm : (Cond.instanceMethod y).before a0 Z = true) (hy : y.cls ≠ "java/lang/invoke/MethodHandle" ∧ y.cls ≠ "java/lang/invoke/VarHandle") : (Cond.selects y.cls y y).before args s = true := by
  have wi' : (Cond.instantiable y.cls n).before args s = true := mvT hZ wi
  have wm' : (Cond.instanceMethod y).before args s = true := mvT hZ wm
  obtain ⟨c, k, h1, h2, -, h4, -⟩ := Cond.instantiable_spec wi'
  simp only [Bool.or_eq_false_iff] at h4
  exact selects_self_of_private h1 h2 h4.1 (Cond.privateMethod_at (mvP hZ wp (args := #[]))) wm' hy
theorem own_selQ {Z s : State} {a0 args : Array Value} {y : MethodName} {y' : MethodName} {n' d' : String} (hZ : Z.Warmed39 s.vm) (wi : (Cond.selects y.cls y' ⟨y.cls, n', d'⟩).before a0 Z = true) (wp : (Cond.privateMethod y).before a0 Z = true) (wm : (Cond.instanceMethod y).before a0 Z = true) (hy : y.cls ≠ "java/lang/invoke/MethodHandle" ∧ y.cls ≠ "java/lang/invoke/VarHandle") : (Cond.selects y.cls y y).before args s = true := by
  have wi' : (Cond.selects y.cls y' ⟨y.cls, n', d'⟩).before args s = true := mvT hZ wi
  have wm' : (Cond.instanceMethod y).before args s = true := mvT hZ wm
  obtain ⟨c2, r2, m2, -, -, q3, -, kP, hkP, hkPi⟩ := Cond.selects_spec wi'
  have hc := findClass_of_methodNamed q3
  exact selects_self_of_private (c := m2.cls) hc hkP hkPi (Cond.privateMethod_at (mvP hZ wp (args := #[]))) wm' hy
theorem own_len {args : Array Value} {s : State} {t : Term} {a : Addr} {cl : Cell} {ty : FieldType} {z : Int32} (ht : t.eval args s none [] s = some (.ref a)) (A : Arr s s.heap a cl ty) (h : (Term.length t).eval args s none [] s = some (.int z)) : cl.slots.size < 2 ^ 31 ∧ cl.slots.size.toInt32 = z := by
  have e := A.fin (Vm.Alike.refl _)
  simp only [Term.eval, ht, e, Option.bind_eq_bind, Option.bind_some] at h
  split at h <;> simp_all
end Jvm.RoadKit
/- laws to paste: Road.backV, Road.empW, Road.codOf (cut by pick.py; bodies as the Statement names them) -/
namespace Jvm.Pilot.@@N@@
namespace StrChars
open Jvm Sem ClassFile Op Lib Jvm.Stand Jvm.Free.XT Jvm.Free.ALB Jvm.Free.JM Jvm.Free
open Jvm.Lib.Cold (StaticIs)
/-- a char array whose places are chars -/
def Ch (a : Addr) (A : Cell) (U : State) : Prop := Arr .char a A U ∧ Typed .char A
theorem Ch.mv {a : Addr} {A : Cell} {U U' : State} (h : Ch a A U) (hal : U.vm.Alike U'.vm) (hh : U'.heap = U.heap) : Ch a A U' := ⟨h.1.mv hal hh, h.2⟩
theorem Ch.keep {a : Addr} {A : Cell} {U U' : State} (h : Ch a A U) (hal : U.vm.Alike U'.vm) (hk : U'.heap[a]? = some A) : Ch a A U' := ⟨h.1.keep hal hk, h.2⟩
/-- what place i of a char[]'s cell holds -/
def cv (A : Cell) (i : Nat) : Int32 := match A.slots[i]? with | some (.int x) => x | _ => 0
theorem Ch.get {a : Addr} {A : Cell} {U : State} (h : Ch a A U) {i : Nat} (hi : i < A.slots.size) : A.slots[i]? = some (.int (cv A i)) := by
  have e := Array.getElem?_eq_getElem hi
  have f := h.2 i _ e
  unfold cv; rw [e]
  generalize A.slots[i] = v at f
  cases v <;> simp [fits] at f ⊢
/-- the byte that i2b leaves of a char -/
def lo8 (x : Int32) : Int32 := x.toInt8.toInt32
theorem fits_lo8 (y : Int32) : fits .byte (.int (lo8 y)) = true := by
  have h1 := y.toInt8.le_toInt
  have h2 := y.toInt8.toInt_lt
  simp only [lo8, fits, Bool.and_eq_true, decide_eq_true_eq, Int32.le_iff_toInt_le, Int8.toInt_toInt32, show (-128 : Int32).toInt = -128 from by decide, show (127 : Int32).toInt = 127 from by decide]
  omega
/-- A' is A but that each place j of lo .. hi - 1 holds f j -/
def Laid (A A' : Cell) (lo hi : Nat) (f : Nat → Value) : Prop := A'.cls = A.cls ∧ A'.vm = A.vm ∧ A'.slots.size = A.slots.size ∧ ∀ i, A'.slots[i]? = if lo ≤ i ∧ i < hi then some (f i) else A.slots[i]?
theorem Laid.zero (A : Cell) (lo : Nat) (f : Nat → Value) : Laid A A lo (lo + 0) f := ⟨rfl, rfl, rfl, fun i => by rw [if_neg (by omega)]⟩
theorem Laid.step {A Ak : Cell} {lo k : Nat} {f : Nat → Value} {v : Value} (h : Laid A Ak lo k f) (hlo : lo ≤ k) (hk : k < Ak.slots.size) (hv : v = f k) : Laid A (Ak.setSlot k v) lo (k + 1) f := by
  refine ⟨h.1, h.2.1, by simpa [Cell.setSlot] using h.2.2.1, fun i => ?_⟩
  by_cases e : k = i
  · subst e; rw [Cell.slots_setSlot_self v hk, if_pos (by omega), hv]
  · rw [Cell.slots_setSlot_ne v e, h.2.2.2 i]
    by_cases q : lo ≤ i ∧ i < k
    · rw [if_pos q, if_pos (by omega)]
    · rw [if_neg q, if_neg (by omega)]
def U16 : String := "java/lang/StringUTF16"
namespace Cmp5
def yN : MethodName := ⟨"java/lang/StringUTF16", "compress", "([CI[BII)I"⟩
abbrev yB : ByteArray := jdk_52_method_21_code
theorem d0 : decode yB 0 = .ok (.iconst 0, 1) := by decide +kernel
theorem d1 : decode yB 1 = .ok (.istore 5, 2) := by decide +kernel
theorem d3 : decode yB 3 = .ok (.iload 5, 2) := by decide +kernel
theorem d5 : decode yB 5 = .ok (.iload 4, 2) := by decide +kernel
theorem d7 : decode yB 7 = .ok (.if_icmp (.ge) 37, 3) := by decide +kernel
theorem d10 : decode yB 10 = .ok (.aload_n 0, 1) := by decide +kernel
theorem d11 : decode yB 11 = .ok (.iload_n 1, 1) := by decide +kernel
theorem d12 : decode yB 12 = .ok (.caload, 1) := by decide +kernel
theorem d13 : decode yB 13 = .ok (.istore 6, 2) := by decide +kernel
theorem d15 : decode yB 15 = .ok (.iload 6, 2) := by decide +kernel
theorem d17 : decode yB 17 = .ok (.sipush 255, 3) := by decide +kernel
theorem d20 : decode yB 20 = .ok (.if_icmp (.le) 6, 3) := by decide +kernel
theorem d26 : decode yB 26 = .ok (.aload_n 2, 1) := by decide +kernel
theorem d27 : decode yB 27 = .ok (.iload_n 3, 1) := by decide +kernel
theorem d28 : decode yB 28 = .ok (.iload 6, 2) := by decide +kernel
theorem d30 : decode yB 30 = .ok (.i2b, 1) := by decide +kernel
theorem d31 : decode yB 31 = .ok (.bastore, 1) := by decide +kernel
theorem d32 : decode yB 32 = .ok (.iinc 1 1, 3) := by decide +kernel
theorem d35 : decode yB 35 = .ok (.iinc 3 1, 3) := by decide +kernel
theorem d38 : decode yB 38 = .ok (.iinc 5 1, 3) := by decide +kernel
theorem d41 : decode yB 41 = .ok (.goto (-38), 3) := by decide +kernel
theorem d44 : decode yB 44 = .ok (.iload 4, 2) := by decide +kernel
theorem d46 : decode yB 46 = .ok (.ireturn, 1) := by decide +kernel
def site : List Cond := []
def tab : Cond := tabOf yN yB 7 (some .int) site
def P (b : Addr) (A : Cell) (d : Addr) (B : Cell) (o q len : Nat) (args : Array Value) (s : State) : Prop := args = #[.ref b, .int (Int32.ofNat o), .ref d, .int (Int32.ofNat q), .int (Int32.ofNat len)] ∧ Ch b A s ∧ Arr .byte d B s ∧ b ≠ d ∧ o + len ≤ A.slots.size ∧ q + len ≤ B.slots.size ∧ ∀ i, i < len → ¬ 255 < cv A (o + i)
def E (b : Addr) (A : Cell) (d : Addr) (B : Cell) (o q len : Nat) (r : Option Value) (s u : State) : Prop := r = some (.int (Int32.ofNat len)) ∧ ∃ B', Put d B' s u ∧ Laid B B' q (q + len) (fun j => Value.int (lo8 (cv A (o + (j - q)))))
/-- no char of the range above 255: len; the places written hold each char's low byte -/
theorem law (l : Launch) (b : Addr) (A : Cell) (d : Addr) (B : Cell) (o q len : Nat) : Law l yN 5 5 0 0 yB 7 (some .int) site (P b A d B o q len) (E b A d B o q len) (copyLocs d q len) 0 0 := by
  refine Law.of_walk (plainFor_of_name (by decide +kernel)) (by decide +kernel) (by decide +kernel) (by decide) (fun _ _ h => by rw [h.1]; rfl) (fun _ U U' hal hh h => ⟨h.1, h.2.1.mv hal hh, h.2.2.1.mv hal hh, h.2.2.2⟩) (fun r U U' V V' h1 hal h2 h => ⟨h.1, h.2.elim fun B' q => ⟨B', q.1.mv h1 h2, q.2⟩⟩) ?_
  intro p e s m args below meth c s₁ X0 hexec hbytes hml hret hlk hnm hown hh0 W hP
  obtain ⟨rfl, hA, hB, hne, l1, l2, hp⟩ := hP
  have c1 : Steps p.tables e below (s₁.setTop (entryFrame m #[.ref b, .int (Int32.ofNat o), .ref d, .int (Int32.ofNat q), .int (Int32.ofNat len)] 7)) (s₁.setTop (mkF m 0 #[.val (.ref b), .val (.int (Int32.ofNat o)), .val (.ref d), .val (.int (Int32.ofNat q)), .val (.int (Int32.ofNat len)), .unset, .unset] [])) := entry rfl
  have hA0 := hA.1.mv X0.warmed.alike hh0
  have hB0 := hB.mv X0.warmed.alike hh0
  have a31 := hA.1.2.2.2
  have c2 : Steps p.tables e below (s₁.setTop (entryFrame m #[.ref b, .int (Int32.ofNat o), .ref d, .int (Int32.ofNat q), .int (Int32.ofNat len)] 7)) (s₁.setTop (mkF m 3 #[.val (.ref b), .val (.int (Int32.ofNat o)), .val (.ref d), .val (.int (Int32.ofNat q)), .val (.int (Int32.ofNat len)), .val (.int 0), .unset] [])) := c1.trans (by
    refine iconstV X0.here hexec rfl 0 (hb hbytes d0) (by decide) ?_
    refine XS.istore X0.here hexec rfl (hb hbytes d1) rfl rfl ?_
    exact Steps.refl _)
  have loop : ∀ (r i : Nat), i + r = len → ∀ (z : Slot), (z = .unset ∨ ∃ w, z = .val w ∧ w.category = 1) → ∀ (Tl : State) (Bk : Cell), Stand p l e { frames := 0, locals := 0, cells := 0, slots := 0 } s m #[.ref b, .int (Int32.ofNat o), .ref d, .int (Int32.ofNat q), .int (Int32.ofNat len)] below meth c Tl ([] ++ copyLocs d q i) 0 0 → Put d Bk s₁ Tl → Laid B Bk q (q + i) (fun j => Value.int (lo8 (cv A (o + (j - q))))) →
      Steps p.tables e below (s₁.setTop (entryFrame m #[.ref b, .int (Int32.ofNat o), .ref d, .int (Int32.ofNat q), .int (Int32.ofNat len)] 7)) (Tl.setTop (mkF m 3 #[.val (.ref b), .val (.int (Int32.ofNat (o + i))), .val (.ref d), .val (.int (Int32.ofNat (q + i))), .val (.int (Int32.ofNat len)), .val (.int (Int32.ofNat i)), z] [])) → ∃ (T' : State) (B' : Cell) (z' : Slot), Stand p l e { frames := 0, locals := 0, cells := 0, slots := 0 } s m #[.ref b, .int (Int32.ofNat o), .ref d, .int (Int32.ofNat q), .int (Int32.ofNat len)] below meth c T' ([] ++ copyLocs d q len) 0 0 ∧ Put d B' s₁ T' ∧ Laid B B' q (q + len) (fun j => Value.int (lo8 (cv A (o + (j - q))))) ∧
      Steps p.tables e below (s₁.setTop (entryFrame m #[.ref b, .int (Int32.ofNat o), .ref d, .int (Int32.ofNat q), .int (Int32.ofNat len)] 7)) (T'.setTop (mkF m 3 #[.val (.ref b), .val (.int (Int32.ofNat (o + len))), .val (.ref d), .val (.int (Int32.ofNat (q + len))), .val (.int (Int32.ofNat len)), .val (.int (Int32.ofNat len)), z'] [])) := by
    intro r
    induction r with
    | zero =>
      intro i hi z hz Tl Bk Xl pl fl cl
      have hil : i = len := by omega
      rw [hil] at Xl fl cl
      exact ⟨Tl, Bk, z, Xl, pl, fl, cl⟩
    | succ r ih =>
      intro i hi z hz Tl Bk Xl pl fl cl
      have all := X0.warmed.alike.symm.trans Xl.warmed.alike
      have hAl := hA0.keep all (pl.other hne hA0.1)
      have hBk := hB0.like all pl.1 fl.1 fl.2.1 fl.2.2.1
      have hlt : q + i < Bk.slots.size := by rw [fl.2.2.1]; omega
      have c3 : Steps p.tables e below (s₁.setTop (entryFrame m #[.ref b, .int (Int32.ofNat o), .ref d, .int (Int32.ofNat q), .int (Int32.ofNat len)] 7)) (Tl.setTop (mkF m 12 #[.val (.ref b), .val (.int (Int32.ofNat (o + i))), .val (.ref d), .val (.int (Int32.ofNat (q + i))), .val (.int (Int32.ofNat len)), .val (.int (Int32.ofNat i)), z] [.int (Int32.ofNat (o + i)), .ref b])) := cl.trans (by
        refine XS.iload Xl.here hexec rfl (hb hbytes d3) rfl ?_
        refine XS.iload Xl.here hexec rfl (hb hbytes d5) rfl ?_
        refine XS.icmpNo Xl.here hexec rfl (hb hbytes d7) rfl (ii_ge_f (lt32 (by omega) (by omega))) ?_
        refine XS.aloadN Xl.here hexec rfl (hb hbytes d10) rfl rfl ?_
        refine XS.iloadN Xl.here hexec rfl (hb hbytes d11) rfl ?_
        exact Steps.refl _)
      have c4 : Steps p.tables e below (s₁.setTop (entryFrame m #[.ref b, .int (Int32.ofNat o), .ref d, .int (Int32.ofNat q), .int (Int32.ofNat len)] 7)) (Tl.setTop (mkF m 13 #[.val (.ref b), .val (.int (Int32.ofNat (o + i))), .val (.ref d), .val (.int (Int32.ofNat (q + i))), .val (.int (Int32.ofNat len)), .val (.int (Int32.ofNat i)), z] [.int (cv A (o + i))])) := c3.trans (by
        refine Xl.aget hexec hAl rfl (hA.get (i := o + i) (by omega)) rfl rfl (hb hbytes d12) ?_
        exact Steps.refl _)
      have c5 : Steps p.tables e below (s₁.setTop (entryFrame m #[.ref b, .int (Int32.ofNat o), .ref d, .int (Int32.ofNat q), .int (Int32.ofNat len)] 7)) (Tl.setTop (mkF m 15 #[.val (.ref b), .val (.int (Int32.ofNat (o + i))), .val (.ref d), .val (.int (Int32.ofNat (q + i))), .val (.int (Int32.ofNat len)), .val (.int (Int32.ofNat i)), .val (.int (cv A (o + i)))] [])) := c4.trans (by
        refine XS.istoreS Xl.here hexec rfl (hb hbytes d13) rfl rfl hz ?_
        exact Steps.refl _)
      have c6 : Steps p.tables e below (s₁.setTop (entryFrame m #[.ref b, .int (Int32.ofNat o), .ref d, .int (Int32.ofNat q), .int (Int32.ofNat len)] 7)) (Tl.setTop (mkF m 31 #[.val (.ref b), .val (.int (Int32.ofNat (o + i))), .val (.ref d), .val (.int (Int32.ofNat (q + i))), .val (.int (Int32.ofNat len)), .val (.int (Int32.ofNat i)), .val (.int (cv A (o + i)))] [.int (lo8 (cv A (o + i))), .int (Int32.ofNat (q + i)), .ref d])) := c5.trans (by
        refine XS.iload Xl.here hexec rfl (hb hbytes d15) rfl ?_
        refine sipushV Xl.here hexec rfl 255 (hb hbytes d17) (by decide) ?_
        refine XS.icmpYes Xl.here hexec rfl (pc0 := 20) rfl (hb hbytes d20) rfl (ii_le_t (hp i (by omega))) (by decide) rfl ?_
        refine XS.aloadN Xl.here hexec rfl (hb hbytes d26) rfl rfl ?_
        refine XS.iloadN Xl.here hexec rfl (hb hbytes d27) rfl ?_
        refine XS.iload Xl.here hexec rfl (hb hbytes d28) rfl ?_
        refine i2b Xl.here hexec rfl (hb hbytes d30) rfl ?_
        exact Steps.refl _)
      obtain ⟨T7, X7, p7, st7⟩ := Xl.aput hexec hBk rfl hlt rfl (fits_lo8 (cv A (o + i))) (g := (mkF m 31 #[.val (.ref b), .val (.int (Int32.ofNat (o + i))), .val (.ref d), .val (.int (Int32.ofNat (q + i))), .val (.int (Int32.ofNat len)), .val (.int (Int32.ofNat i)), .val (.int (cv A (o + i)))] [.int (lo8 (cv A (o + i))), .int (Int32.ofNat (q + i)), .ref d])) rfl (rest := []) rfl (hb hbytes d31)
      have c8 : Steps p.tables e below (s₁.setTop (entryFrame m #[.ref b, .int (Int32.ofNat o), .ref d, .int (Int32.ofNat q), .int (Int32.ofNat len)] 7)) (T7.setTop (mkF m 32 #[.val (.ref b), .val (.int (Int32.ofNat (o + i))), .val (.ref d), .val (.int (Int32.ofNat (q + i))), .val (.int (Int32.ofNat len)), .val (.int (Int32.ofNat i)), .val (.int (cv A (o + i)))] [])) := c6.trans (st7 _ (Steps.refl _))
      have c9 : Steps p.tables e below (s₁.setTop (entryFrame m #[.ref b, .int (Int32.ofNat o), .ref d, .int (Int32.ofNat q), .int (Int32.ofNat len)] 7)) (T7.setTop (mkF m 3 #[.val (.ref b), .val (.int (Int32.ofNat (o + i) + 1)), .val (.ref d), .val (.int (Int32.ofNat (q + i) + 1)), .val (.int (Int32.ofNat len)), .val (.int (Int32.ofNat i + 1)), .val (.int (cv A (o + i)))] [])) := c8.trans (by
        refine iincV X7.here hexec rfl 1 (hb hbytes d32) (by decide) rfl rfl ?_
        refine iincV X7.here hexec rfl 1 (hb hbytes d35) (by decide) rfl rfl ?_
        refine iincV X7.here hexec rfl 1 (hb hbytes d38) (by decide) rfl rfl ?_
        refine XS.goto X7.here hexec rfl (pc0 := 41) rfl (hb hbytes d41) (by decide) rfl ?_
        exact Steps.refl _)
      have c10 : Steps p.tables e below (s₁.setTop (entryFrame m #[.ref b, .int (Int32.ofNat o), .ref d, .int (Int32.ofNat q), .int (Int32.ofNat len)] 7)) (T7.setTop (mkF m 3 #[.val (.ref b), .val (.int (Int32.ofNat (o + (i + 1)))), .val (.ref d), .val (.int (Int32.ofNat (q + (i + 1)))), .val (.int (Int32.ofNat len)), .val (.int (Int32.ofNat (i + 1))), .val (.int (cv A (o + i)))] [])) := by
        have := c9
        rw [succ32, succ32, succ32] at this
        exact this
      exact ih (i + 1) (by omega) _ (Or.inr ⟨_, rfl, rfl⟩) T7 _ (by rw [copyLocs_step, ← List.append_assoc]; exact X7) (pl.trans p7) (fl.step (by omega) hlt (by simp)) c10
  obtain ⟨T9, B9, z9, X9, p9, f9, g9⟩ := loop len 0 (by omega) .unset (Or.inl rfl) s₁ B (by simpa [copyLocs] using X0) ⟨hB0.1, fun _ _ => rfl, rfl⟩ (Laid.zero _ _ _) c2
  have c11 : Steps p.tables e below (s₁.setTop (entryFrame m #[.ref b, .int (Int32.ofNat o), .ref d, .int (Int32.ofNat q), .int (Int32.ofNat len)] 7)) (T9.setTop (mkF m 46 #[.val (.ref b), .val (.int (Int32.ofNat (o + len))), .val (.ref d), .val (.int (Int32.ofNat (q + len))), .val (.int (Int32.ofNat len)), .val (.int (Int32.ofNat len)), z9] [.int (Int32.ofNat len)])) := g9.trans (by
    refine XS.iload X9.here hexec rfl (hb hbytes d3) rfl ?_
    refine XS.iload X9.here hexec rfl (hb hbytes d5) rfl ?_
    refine XS.icmpYes X9.here hexec rfl (pc0 := 7) rfl (hb hbytes d7) rfl (ii_ge_t (nlt32 (by omega) (Nat.le_refl _))) (by decide) rfl ?_
    refine XS.iload X9.here hexec rfl (hb hbytes d44) rfl ?_
    exact Steps.refl _)
  exact ⟨T9, some (.int (Int32.ofNat len)), _, _, _, X9, by simp, rfl, rfl, (fun h => by cases h), ⟨rfl, B9, p9.from hh0, f9⟩, fun fs hl => c11.trans (X9.ireturnOut hexec hret rfl (Or.inl rfl) (hb hbytes d46) hl)⟩
end Cmp5
namespace Cmp3
def yN : MethodName := ⟨"java/lang/StringUTF16", "compress", "([CII)[B"⟩
abbrev yB : ByteArray := jdk_52_method_16_code
theorem d0 : decode yB 0 = .ok (.iload_n 2, 1) := by decide +kernel
theorem d1 : decode yB 1 = .ok (.newarray .byte, 2) := by decide +kernel
theorem d3 : decode yB 3 = .ok (.astore_n 3, 1) := by decide +kernel
theorem d4 : decode yB 4 = .ok (.aload_n 0, 1) := by decide +kernel
theorem d5 : decode yB 5 = .ok (.iload_n 1, 1) := by decide +kernel
theorem d6 : decode yB 6 = .ok (.aload_n 3, 1) := by decide +kernel
theorem d7 : decode yB 7 = .ok (.iconst 0, 1) := by decide +kernel
theorem d8 : decode yB 8 = .ok (.iload_n 2, 1) := by decide +kernel
theorem d9 : decode yB 9 = .ok (.invokestatic 115, 3) := by decide +kernel
theorem d12 : decode yB 12 = .ok (.istore 4, 2) := by decide +kernel
theorem d14 : decode yB 14 = .ok (.iload 4, 2) := by decide +kernel
theorem d16 : decode yB 16 = .ok (.iload_n 2, 1) := by decide +kernel
theorem d17 : decode yB 17 = .ok (.if_icmp (.eq) 40, 3) := by decide +kernel
theorem d57 : decode yB 57 = .ok (.aload_n 3, 1) := by decide +kernel
theorem d58 : decode yB 58 = .ok (.areturn, 1) := by decide +kernel
def site : List Cond := [.arrayClass .byte, Cmp5.tab] ++ staticW U16 115 Cmp5.yN
def tab : Cond := tabOf yN yB 6 (some (.array .byte)) site
def P (b : Addr) (A : Cell) (o len : Nat) (args : Array Value) (s : State) : Prop := args = #[.ref b, .int (Int32.ofNat o), .int (Int32.ofNat len)] ∧ Ch b A s ∧ o + len ≤ A.slots.size ∧ len ≤ 536870912 ∧ ∀ i, i < len → ¬ 255 < cv A (o + i)
def E (b : Addr) (A : Cell) (o len : Nat) (r : Option Value) (s u : State) : Prop := NewArr .byte "[B" len (fun j => .int (lo8 (cv A (o + j)))) r s u ∧ u.heap.size = s.heap.size + 1
/-- no char of the range above 255: a new byte[] of their low bytes -/
theorem law (l : Launch) (b : Addr) (A : Cell) (o len : Nat) : Law l yN 3 3 1 18 yB 6 (some (.array .byte)) site (P b A o len) (E b A o len) [] 1 len := by
  refine Law.of_walk (plainFor_of_name (by decide +kernel)) (by decide +kernel) (by decide +kernel) (by decide) (fun _ _ h => by rw [h.1]; rfl) (fun _ U U' hal hh h => ⟨h.1, h.2.1.mv hal hh, h.2.2⟩) (fun r U U' V V' h1 hal h2 h => ⟨NewArr.mv r U U' V V' h1 hal h2 h.1, by rw [h1, h2]; exact h.2⟩) ?_
  intro p e s m args below meth c s₁ X0 hexec hbytes hml hret hlk hnm hown hh0 W hP
  obtain ⟨rfl, hA, l1, l2, hp⟩ := hP
  have a31 := hA.1.2.2.2
  have c1 : Steps p.tables e below (s₁.setTop (entryFrame m #[.ref b, .int (Int32.ofNat o), .int (Int32.ofNat len)] 6)) (s₁.setTop (mkF m 0 #[.val (.ref b), .val (.int (Int32.ofNat o)), .val (.int (Int32.ofNat len)), .unset, .unset, .unset] [])) := entry rfl
  have c2 : Steps p.tables e below (s₁.setTop (entryFrame m #[.ref b, .int (Int32.ofNat o), .int (Int32.ofNat len)] 6)) (s₁.setTop (mkF m 1 #[.val (.ref b), .val (.int (Int32.ofNat o)), .val (.int (Int32.ofNat len)), .unset, .unset, .unset] [.int (Int32.ofNat len)])) := c1.trans (by
    refine XS.iloadN X0.here hexec rfl (hb hbytes d0) rfl ?_
    exact Steps.refl _)
  obtain ⟨T3, B3, X3, ba3, bs3, bv3, bh3, bf3, st3⟩ := X0.anew hexec (atype := .byte) (wk W (.arrayClass .byte)) rfl (by show len * 1 ≤ _; omega) (by omega) (g := (mkF m 1 #[.val (.ref b), .val (.int (Int32.ofNat o)), .val (.int (Int32.ofNat len)), .unset, .unset, .unset] [.int (Int32.ofNat len)])) rfl (hb hbytes d1) (rest := []) rfl (Nat.le_refl _) (by show 0 + len ≤ len; omega)
  rw [hh0] at ba3 st3
  have kp3 : XT.Kept s T3 := (XT.Kept.of_eq hh0).push bh3
  have hA3 := hA.keep X3.warmed.alike (kp3 _ _ hA.1.1)
  have hne : b ≠ s.heap.size := hA.1.ne
  have c4 : Steps p.tables e below (s₁.setTop (entryFrame m #[.ref b, .int (Int32.ofNat o), .int (Int32.ofNat len)] 6)) (T3.setTop (mkF m 3 #[.val (.ref b), .val (.int (Int32.ofNat o)), .val (.int (Int32.ofNat len)), .unset, .unset, .unset] [.ref s.heap.size])) := c2.trans (st3 _ (Steps.refl _))
  have c5 : Steps p.tables e below (s₁.setTop (entryFrame m #[.ref b, .int (Int32.ofNat o), .int (Int32.ofNat len)] 6)) (T3.setTop (mkF m 9 #[.val (.ref b), .val (.int (Int32.ofNat o)), .val (.int (Int32.ofNat len)), .val (.ref s.heap.size), .unset, .unset] [.int (Int32.ofNat len), .int 0, .ref s.heap.size, .int (Int32.ofNat o), .ref b])) := c4.trans (by
    refine XS.astoreN X3.here hexec rfl (hb hbytes d3) rfl rfl rfl ?_
    refine XS.aloadN X3.here hexec rfl (hb hbytes d4) rfl rfl ?_
    refine XS.iloadN X3.here hexec rfl (hb hbytes d5) rfl ?_
    refine XS.aloadN X3.here hexec rfl (hb hbytes d6) rfl rfl ?_
    refine iconstV X3.here hexec rfl 0 (hb hbytes d7) (by decide) ?_
    refine XS.iloadN X3.here hexec rfl (hb hbytes d8) rfl ?_
    exact Steps.refl _)
  obtain ⟨v6, T6, X6, E6, g6⟩ := X3.callS hexec (Cmp5.law l b A s.heap.size B3 o 0 len) hown (wks W (staticW U16 115 Cmp5.yN)) (wk W Cmp5.tab) (W := 0) (Nat.le_of_ble_eq_true rfl) (Nat.le_of_ble_eq_true rfl) (Nat.le_refl _) (by show 0 + len + 0 ≤ len; omega) (g := (mkF m 9 #[.val (.ref b), .val (.int (Int32.ofNat o)), .val (.int (Int32.ofNat len)), .val (.ref s.heap.size), .unset, .unset] [.int (Int32.ofNat len), .int (Int32.ofNat 0), .ref s.heap.size, .int (Int32.ofNat o), .ref b])) rfl (by rw [hml]; rfl) c5 (argsL := [.ref b, .int (Int32.ofNat o), .ref s.heap.size, .int (Int32.ofNat 0), .int (Int32.ofNat len)]) (rest := []) rfl rfl (by show 2 * 0 + 0 ≤ _; decide) (hb hbytes d9) (⟨rfl, hA3, ba3, hne, l1, by rw [bs3]; simp, hp⟩)
  obtain ⟨rfl, B6, p6, f6⟩ := E6
  have c7 : Steps p.tables e below (s₁.setTop (entryFrame m #[.ref b, .int (Int32.ofNat o), .int (Int32.ofNat len)] 6)) (T6.setTop (mkF m 12 #[.val (.ref b), .val (.int (Int32.ofNat o)), .val (.int (Int32.ofNat len)), .val (.ref s.heap.size), .unset, .unset] [.int (Int32.ofNat len)])) := g6
  have c8 : Steps p.tables e below (s₁.setTop (entryFrame m #[.ref b, .int (Int32.ofNat o), .int (Int32.ofNat len)] 6)) (T6.setTop (mkF m 58 #[.val (.ref b), .val (.int (Int32.ofNat o)), .val (.int (Int32.ofNat len)), .val (.ref s.heap.size), .val (.int (Int32.ofNat len)), .unset] [.ref s.heap.size])) := c7.trans (by
    refine XS.istore X6.here hexec rfl (hb hbytes d12) rfl rfl ?_
    refine XS.iload X6.here hexec rfl (hb hbytes d14) rfl ?_
    refine XS.iloadN X6.here hexec rfl (hb hbytes d16) rfl ?_
    refine XS.icmpYes X6.here hexec rfl (pc0 := 17) rfl (hb hbytes d17) rfl (ii_eq_t rfl) (by decide) rfl ?_
    refine XS.aloadN X6.here hexec rfl (hb hbytes d57) rfl rfl ?_
    exact Steps.refl _)
  have X8 := X6.wide (L' := []) (cells' := 1) (slots' := len) (fun x hx hlt => by
    simp only [List.nil_append, copyLocs, List.mem_map, List.mem_range] at hx
    obtain ⟨i, -, rfl⟩ := hx
    exact absurd hlt (Nat.lt_irrefl _)) (Nat.le_refl _) (by omega)
  exact ⟨T6, some (.ref s.heap.size), _, _, _, X8, rfl, rfl, rfl, (fun h => by cases h), ⟨⟨rfl, B6, ba3.like (X3.warmed.alike.symm.trans X6.warmed.alike) p6.1 f6.1 f6.2.1 f6.2.2.1, f6.2.1.trans bv3, by rw [X6.warmed.alike.findClass, f6.1]; exact bf3, by rw [f6.2.2.1, bs3]; simp, fun j hj => by rw [f6.2.2.2 j, if_pos (by omega)]; rfl, kp3.put p6 (Nat.le_refl _)⟩, by rw [p6.2.2, bh3, hh0]; simp⟩, fun fs hl => c8.trans (X8.areturnOut hexec rfl hret rfl (hb hbytes d58) hl)⟩
end Cmp3
namespace CodL
def yN : MethodName := ⟨"java/lang/StringUTF16", "coderFromArrayLen", "([BI)B"⟩
abbrev yB : ByteArray := jdk_52_method_15_code
theorem d0 : decode yB 0 = .ok (.iload_n 1, 1) := by decide +kernel
theorem d1 : decode yB 1 = .ok (.aload_n 0, 1) := by decide +kernel
theorem d2 : decode yB 2 = .ok (.arraylength, 1) := by decide +kernel
theorem d3 : decode yB 3 = .ok (.isub, 1) := by decide +kernel
theorem d4 : decode yB 4 = .ok (.bipush 31, 2) := by decide +kernel
theorem d6 : decode yB 6 = .ok (.iushr, 1) := by decide +kernel
theorem d7 : decode yB 7 = .ok (.i2b, 1) := by decide +kernel
theorem d8 : decode yB 8 = .ok (.ireturn, 1) := by decide +kernel
def site : List Cond := []
def tab : Cond := tabOf yN yB 2 (some .byte) site
def P (d : Addr) (B : Cell) (args : Array Value) (s : State) : Prop := args = #[.ref d, .int (Int32.ofNat B.slots.size)] ∧ Arr .byte d B s
def E (r : Option Value) (s u : State) : Prop := XT.PureE (some (.int 0)) r s u
/-- an array as long as the number of chars: LATIN1 -/
theorem law (l : Launch) (d : Addr) (B : Cell) : Law l yN 2 2 0 0 yB 2 (some .byte) site (P d B) E [] 0 0 := by
  refine Law.of_walk (plainFor_of_name (by decide +kernel)) (by decide +kernel) (by decide +kernel) (by decide) (fun _ _ h => by rw [h.1]; rfl) (fun _ U U' hal hh h => ⟨h.1, h.2.mv hal hh⟩) (fun r U U' V V' h1 hal h2 h => XT.PureE.mv r U U' V V' h1 hal h2 h) ?_
  intro p e s m args below meth c s₁ X0 hexec hbytes hml hret hlk hnm hown hh0 W hP
  obtain ⟨rfl, hB⟩ := hP
  have hB0 := hB.mv X0.warmed.alike hh0
  have c1 : Steps p.tables e below (s₁.setTop (entryFrame m #[.ref d, .int (Int32.ofNat B.slots.size)] 2)) (s₁.setTop (mkF m 0 #[.val (.ref d), .val (.int (Int32.ofNat B.slots.size))] [])) := entry rfl
  have c2 : Steps p.tables e below (s₁.setTop (entryFrame m #[.ref d, .int (Int32.ofNat B.slots.size)] 2)) (s₁.setTop (mkF m 2 #[.val (.ref d), .val (.int (Int32.ofNat B.slots.size))] [.ref d, .int (Int32.ofNat B.slots.size)])) := c1.trans (by
    refine XS.iloadN X0.here hexec rfl (hb hbytes d0) rfl ?_
    refine XS.aloadN X0.here hexec rfl (hb hbytes d1) rfl rfl ?_
    exact Steps.refl _)
  have c3 : Steps p.tables e below (s₁.setTop (entryFrame m #[.ref d, .int (Int32.ofNat B.slots.size)] 2)) (s₁.setTop (mkF m 8 #[.val (.ref d), .val (.int (Int32.ofNat B.slots.size))] [.int (lo8 (ushr (Int32.ofNat B.slots.size - Int32.ofNat B.slots.size) 31))])) := c2.trans (by
    refine X0.alen hexec hB0 rfl rfl (hb hbytes d2) ?_
    refine XS.isub X0.here hexec rfl (hb hbytes d3) rfl ?_
    refine bipushV X0.here hexec rfl 31 (hb hbytes d4) (by decide) ?_
    refine iushr X0.here hexec rfl (hb hbytes d6) rfl ?_
    refine i2b X0.here hexec rfl (hb hbytes d7) rfl ?_
    exact Steps.refl _)
  have e0 : lo8 (ushr (Int32.ofNat B.slots.size - Int32.ofNat B.slots.size) 31) = 0 := by rw [Int32.sub_self]; decide
  rw [e0] at c3
  exact ⟨s₁, some (.int 0), _, _, _, X0, rfl, rfl, rfl, (fun h => by cases h), ⟨rfl, hh0⟩, fun fs hl => c3.trans (X0.ireturnOut hexec hret rfl (Or.inr (Or.inr (Or.inl rfl))) (hb hbytes d8) hl)⟩
end CodL
/-- the String at a is Latin-1 over a new byte[] (the heap's one new cell): the low bytes of the len chars of A from o on; every cell but a is kept -/
def Got (a : Addr) (D : Cell) (fV fC : Field) (A : Cell) (o len : Nat) (r : Option Value) (s u : State) : Prop := r = none ∧ ∃ D' V : Cell, Blank "java/lang/String" a D' u ∧ Same D D' [fV.slot, fC.slot] ∧ D'.slots[fV.slot]? = some (.ref s.heap.size) ∧ D'.slots[fC.slot]? = some (.int 0) ∧ Arr .byte s.heap.size V u ∧ V.vm = .none ∧ u.vm.findClass "[B" = some V.cls ∧ V.slots.size = len ∧ (∀ j, j < len → V.slots[j]? = some (.int (lo8 (cv A (o + j))))) ∧ (∀ (y : Addr) (c : Cell), y ≠ a → s.heap[y]? = some c → u.heap[y]? = some c) ∧ u.heap.size = s.heap.size + 1
theorem Got.mv {a : Addr} {D A : Cell} {fV fC : Field} {o len : Nat} : ∀ r (U U' V V' : State), U'.heap = U.heap → V.vm.Alike V'.vm → V'.heap = V.heap → Got a D fV fC A o len r U V → Got a D fV fC A o len r U' V' :=
  fun r U U' V V' h1 hal h2 ⟨e0, D', X, a1, a2, a3, a4, a5, a6, a7, a8, a9, a10, a11⟩ => ⟨e0, D', X, a1.mv hal h2, a2, by rw [h1]; exact a3, a4, by rw [h1]; exact a5.mv hal h2, a6, by rw [hal.findClass]; exact a7, a8, a9, by rw [h1, h2]; exact a10, by rw [h1, h2]; exact a11⟩
namespace New4
def yN : MethodName := ⟨"java/lang/String", "<init>", "([CIILjava/lang/Void;)V"⟩
abbrev yB : ByteArray := jdk_42_method_149_code
theorem d0 : decode yB 0 = .ok (.aload_n 0, 1) := by decide +kernel
theorem d1 : decode yB 1 = .ok (.invokespecial 1, 3) := by decide +kernel
theorem d4 : decode yB 4 = .ok (.iload_n 3, 1) := by decide +kernel
theorem d5 : decode yB 5 = .ok (.ifCond (.ne) 22, 3) := by decide +kernel
theorem d27 : decode yB 27 = .ok (.getstatic 38, 3) := by decide +kernel
theorem d30 : decode yB 30 = .ok (.ifCond (.eq) 28, 3) := by decide +kernel
theorem d33 : decode yB 33 = .ok (.aload_n 1, 1) := by decide +kernel
theorem d34 : decode yB 34 = .ok (.iload_n 2, 1) := by decide +kernel
theorem d35 : decode yB 35 = .ok (.iload_n 3, 1) := by decide +kernel
theorem d36 : decode yB 36 = .ok (.invokestatic 177, 3) := by decide +kernel
theorem d39 : decode yB 39 = .ok (.astore 5, 2) := by decide +kernel
theorem d41 : decode yB 41 = .ok (.aload_n 0, 1) := by decide +kernel
theorem d42 : decode yB 42 = .ok (.aload 5, 2) := by decide +kernel
theorem d44 : decode yB 44 = .ok (.iload_n 3, 1) := by decide +kernel
theorem d45 : decode yB 45 = .ok (.invokestatic 47, 3) := by decide +kernel
theorem d48 : decode yB 48 = .ok (.putfield 15, 3) := by decide +kernel
theorem d51 : decode yB 51 = .ok (.aload_n 0, 1) := by decide +kernel
theorem d52 : decode yB 52 = .ok (.aload 5, 2) := by decide +kernel
theorem d54 : decode yB 54 = .ok (.putfield 9, 3) := by decide +kernel
theorem d57 : decode yB 57 = .ok (.return_, 1) := by decide +kernel
def site : List Cond := [.fieldLink "java/lang/String" 38 "java/lang/String" "COMPACT_STRINGS" "Z", Cmp3.tab, CodL.tab, .laysFinal "java/lang/String" "java/lang/String" "value" "[B", .fieldLink "java/lang/String" 9 "java/lang/String" "value" "[B", .laysFinal "java/lang/String" "java/lang/String" "coder" "B", .fieldLink "java/lang/String" 15 "java/lang/String" "coder" "B"] ++ objW "java/lang/String" 1 ++ staticW "java/lang/String" 177 Cmp3.yN ++ staticW "java/lang/String" 47 CodL.yN
def tab : Cond := tabOf yN yB 6 none site
def P (a : Addr) (D : Cell) (fV fC : Field) (b : Addr) (A : Cell) (z : Int32) (o len : Nat) (args : Array Value) (s : State) : Prop := args = #[.ref a, .ref b, .int (Int32.ofNat o), .int (Int32.ofNat len), .null] ∧ Blank "java/lang/String" a D s ∧ Found "java/lang/String" "value" "[B" fV s ∧ Found "java/lang/String" "coder" "B" fC s ∧ Ch b A s ∧ StaticIs s "java/lang/String" "COMPACT_STRINGS" "Z" (.int z) ∧ ¬ z = 0 ∧ 0 < len ∧ o + len ≤ A.slots.size ∧ len ≤ 536870912 ∧ ∀ i, i < len → ¬ 255 < cv A (o + i)
def E (a : Addr) (D : Cell) (fV fC : Field) (A : Cell) (o len : Nat) (r : Option Value) (s u : State) : Prop := Got a D fV fC A o len r s u
/-- len > 0, no char of the range above 255: a Latin-1 String of their low bytes -/
theorem law (l : Launch) (a : Addr) (D : Cell) (fV fC : Field) (b : Addr) (A : Cell) (z : Int32) (o len : Nat) : Law l yN 5 4 2 35 yB 6 none site (P a D fV fC b A z o len) (E a D fV fC A o len) [⟨a, fC.slot⟩, ⟨a, fV.slot⟩] 1 len := by
  refine Law.of_walk (plainFor_of_name (by decide +kernel)) (by decide +kernel) (by decide +kernel) (by decide) (fun _ _ h => by rw [h.1]; rfl) (fun _ U U' hal hh h => ⟨h.1, h.2.1.mv hal hh, h.2.2.1.al hal, h.2.2.2.1.al hal, h.2.2.2.2.1.mv hal hh, h.2.2.2.2.2.1.there hal hh, h.2.2.2.2.2.2⟩) (fun r U U' V V' h1 hal h2 h => Got.mv r U U' V V' h1 hal h2 h) ?_
  intro p e s m args below meth c s₁ X0 hexec hbytes hml hret hlk hnm hown hh0 W hP
  obtain ⟨rfl, hB, f1, f2, hA, s1, hz, l0, l1, l2, hp⟩ := hP
  have a31 := hA.1.2.2.2
  have c1 : Steps p.tables e below (s₁.setTop (entryFrame m #[.ref a, .ref b, .int (Int32.ofNat o), .int (Int32.ofNat len), .null] 6)) (s₁.setTop (mkF m 0 #[.val (.ref a), .val (.ref b), .val (.int (Int32.ofNat o)), .val (.int (Int32.ofNat len)), .val .null, .unset] [])) := entry rfl
  have c2 : Steps p.tables e below (s₁.setTop (entryFrame m #[.ref a, .ref b, .int (Int32.ofNat o), .int (Int32.ofNat len), .null] 6)) (s₁.setTop (mkF m 1 #[.val (.ref a), .val (.ref b), .val (.int (Int32.ofNat o)), .val (.int (Int32.ofNat len)), .val .null, .unset] [.ref a])) := c1.trans (by
    refine XS.aloadN X0.here hexec rfl (hb hbytes d0) rfl rfl ?_
    exact Steps.refl _)
  obtain ⟨T3, X3, q3, st3⟩ := X0.oinit hexec hown (wks W (objW "java/lang/String" 1)) (g := (mkF m 1 #[.val (.ref a), .val (.ref b), .val (.int (Int32.ofNat o)), .val (.int (Int32.ofNat len)), .val .null, .unset] [.ref a])) rfl (by rw [hml]; rfl) (rest := []) rfl (hb hbytes d1) (W := 0) (by show 2 * 0 + 0 ≤ _; decide) (Nat.le_of_ble_eq_true rfl) (Nat.le_of_ble_eq_true rfl)
  have hh3 := q3.trans hh0
  have c4 : Steps p.tables e below (s₁.setTop (entryFrame m #[.ref a, .ref b, .int (Int32.ofNat o), .int (Int32.ofNat len), .null] 6)) (T3.setTop (mkF m 27 #[.val (.ref a), .val (.ref b), .val (.int (Int32.ofNat o)), .val (.int (Int32.ofNat len)), .val .null, .unset] [])) := (c2.trans (st3 _ (Steps.refl _))).trans (by
    refine XS.iloadN X3.here hexec rfl (hb hbytes d4) rfl ?_
    refine XS.ifYes X3.here hexec rfl (pc0 := 5) rfl (hb hbytes d5) rfl (i0_ne_t (nz32 (by omega) l0)) (by decide) rfl ?_
    exact Steps.refl _)
  obtain ⟨T5, X5, q5, st5⟩ := X3.sget hexec hown (wk W (.fieldLink "java/lang/String" 38 "java/lang/String" "COMPACT_STRINGS" "Z")) s1 (fun _ _ h => by rw [hh3]; exact h) (g := (mkF m 27 #[.val (.ref a), .val (.ref b), .val (.int (Int32.ofNat o)), .val (.int (Int32.ofNat len)), .val .null, .unset] [])) rfl (hb hbytes d27)
  have hh5 := q5.trans hh3
  have c6 : Steps p.tables e below (s₁.setTop (entryFrame m #[.ref a, .ref b, .int (Int32.ofNat o), .int (Int32.ofNat len), .null] 6)) (T5.setTop (mkF m 30 #[.val (.ref a), .val (.ref b), .val (.int (Int32.ofNat o)), .val (.int (Int32.ofNat len)), .val .null, .unset] [.int z])) := c4.trans (st5 _ (Steps.refl _))
  have c7 : Steps p.tables e below (s₁.setTop (entryFrame m #[.ref a, .ref b, .int (Int32.ofNat o), .int (Int32.ofNat len), .null] 6)) (T5.setTop (mkF m 36 #[.val (.ref a), .val (.ref b), .val (.int (Int32.ofNat o)), .val (.int (Int32.ofNat len)), .val .null, .unset] [.int (Int32.ofNat len), .int (Int32.ofNat o), .ref b])) := c6.trans (by
    refine XS.ifNo X5.here hexec rfl (hb hbytes d30) rfl (i0_eq_f hz) ?_
    refine XS.aloadN X5.here hexec rfl (hb hbytes d33) rfl rfl ?_
    refine XS.iloadN X5.here hexec rfl (hb hbytes d34) rfl ?_
    refine XS.iloadN X5.here hexec rfl (hb hbytes d35) rfl ?_
    exact Steps.refl _)
  obtain ⟨v8, T8, X8, E8, g8⟩ := X5.callS hexec (Cmp3.law l b A o len) hown (wks W (staticW "java/lang/String" 177 Cmp3.yN)) (wk W Cmp3.tab) (W := 0) (Nat.le_of_ble_eq_true rfl) (Nat.le_of_ble_eq_true rfl) (Nat.le_refl _) (by show 0 + len ≤ len; omega) (g := (mkF m 36 #[.val (.ref a), .val (.ref b), .val (.int (Int32.ofNat o)), .val (.int (Int32.ofNat len)), .val .null, .unset] [.int (Int32.ofNat len), .int (Int32.ofNat o), .ref b])) rfl (by rw [hml]; rfl) c7 (argsL := [.ref b, .int (Int32.ofNat o), .int (Int32.ofNat len)]) (rest := []) rfl rfl (by show 2 * 0 + 0 ≤ _; decide) (hb hbytes d36) (⟨rfl, hA.mv X5.warmed.alike hh5, l1, l2, hp⟩)
  obtain ⟨e8, z8⟩ := E8
  obtain ⟨rfl, N, n1, n2, n3, n4, n5, n6⟩ := NewArr.mv _ T5 s _ _ hh5.symm (Vm.Alike.refl _) rfl e8
  rw [hh5] at z8
  have hB1 := hB.keep X8.warmed.alike (n6 _ _ hB.1)
  have hne : s.heap.size ≠ a := (Nat.ne_of_lt (Array.getElem?_eq_some_iff.mp hB.1).1).symm
  have c9 : Steps p.tables e below (s₁.setTop (entryFrame m #[.ref a, .ref b, .int (Int32.ofNat o), .int (Int32.ofNat len), .null] 6)) (T8.setTop (mkF m 39 #[.val (.ref a), .val (.ref b), .val (.int (Int32.ofNat o)), .val (.int (Int32.ofNat len)), .val .null, .unset] [.ref s.heap.size])) := g8
  have c10 : Steps p.tables e below (s₁.setTop (entryFrame m #[.ref a, .ref b, .int (Int32.ofNat o), .int (Int32.ofNat len), .null] 6)) (T8.setTop (mkF m 45 #[.val (.ref a), .val (.ref b), .val (.int (Int32.ofNat o)), .val (.int (Int32.ofNat len)), .val .null, .val (.ref s.heap.size)] [.int (Int32.ofNat N.slots.size), .ref s.heap.size, .ref a])) := by
    have hc : Steps p.tables e below (s₁.setTop (entryFrame m #[.ref a, .ref b, .int (Int32.ofNat o), .int (Int32.ofNat len), .null] 6)) (T8.setTop (mkF m 45 #[.val (.ref a), .val (.ref b), .val (.int (Int32.ofNat o)), .val (.int (Int32.ofNat len)), .val .null, .val (.ref s.heap.size)] [.int (Int32.ofNat len), .ref s.heap.size, .ref a])) := c9.trans (by
      refine XS.astore X8.here hexec rfl (hb hbytes d39) rfl rfl rfl ?_
      refine XS.aloadN X8.here hexec rfl (hb hbytes d41) rfl rfl ?_
      refine XS.aload X8.here hexec rfl (hb hbytes d42) rfl rfl ?_
      refine XS.iloadN X8.here hexec rfl (hb hbytes d44) rfl ?_
      exact Steps.refl _)
    rw [n4]; exact hc
  obtain ⟨v11, T11, X11, E11, g11⟩ := X8.callS hexec (CodL.law l s.heap.size N) hown (wks W (staticW "java/lang/String" 47 CodL.yN)) (wk W CodL.tab) (W := 1) (Nat.le_of_ble_eq_true rfl) (Nat.le_of_ble_eq_true rfl) (Nat.le_refl _) (by show 0 + len + 0 ≤ len; omega) (g := (mkF m 45 #[.val (.ref a), .val (.ref b), .val (.int (Int32.ofNat o)), .val (.int (Int32.ofNat len)), .val .null, .val (.ref s.heap.size)] [.int (Int32.ofNat N.slots.size), .ref s.heap.size, .ref a])) rfl (by rw [hml]; rfl) c10 (argsL := [.ref s.heap.size, .int (Int32.ofNat N.slots.size)]) (rest := [.ref a]) rfl rfl (by show 2 * 0 + (1 + 0) ≤ _; decide) (hb hbytes d45) (⟨rfl, n1⟩)
  obtain ⟨rfl, q11⟩ := E11
  have hB11 := hB1.mv (X8.warmed.alike.symm.trans X11.warmed.alike) q11
  have c12 : Steps p.tables e below (s₁.setTop (entryFrame m #[.ref a, .ref b, .int (Int32.ofNat o), .int (Int32.ofNat len), .null] 6)) (T11.setTop (mkF m 48 #[.val (.ref a), .val (.ref b), .val (.int (Int32.ofNat o)), .val (.int (Int32.ofNat len)), .val .null, .val (.ref s.heap.size)] [.int 0, .ref a])) := g11
  obtain ⟨T13, X13, p13, bl13, sl13, st13⟩ := X11.finit hexec hown (wk W (.fieldLink "java/lang/String" 15 "java/lang/String" "coder" "B")) (Or.inr ⟨_, (wk W (.laysFinal "java/lang/String" "java/lang/String" "coder" "B"))⟩) (Or.inl ⟨rfl, hnm⟩) f2 (Or.inl rfl) hB11 (t := .byte) (by decide +kernel) rfl (g := (mkF m 48 #[.val (.ref a), .val (.ref b), .val (.int (Int32.ofNat o)), .val (.int (Int32.ofNat len)), .val .null, .val (.ref s.heap.size)] [.int 0, .ref a])) rfl (rest := []) rfl (hb hbytes d48)
  have c14 : Steps p.tables e below (s₁.setTop (entryFrame m #[.ref a, .ref b, .int (Int32.ofNat o), .int (Int32.ofNat len), .null] 6)) (T13.setTop (mkF m 54 #[.val (.ref a), .val (.ref b), .val (.int (Int32.ofNat o)), .val (.int (Int32.ofNat len)), .val .null, .val (.ref s.heap.size)] [.ref s.heap.size, .ref a])) := (c12.trans (st13 _ (Steps.refl _))).trans (by
    refine XS.aloadN X13.here hexec rfl (hb hbytes d51) rfl rfl ?_
    refine XS.aload X13.here hexec rfl (hb hbytes d52) rfl rfl ?_
    exact Steps.refl _)
  obtain ⟨T15, X15, p15, bl15, sl15, st15⟩ := X13.finit hexec hown (wk W (.fieldLink "java/lang/String" 9 "java/lang/String" "value" "[B")) (Or.inr ⟨_, (wk W (.laysFinal "java/lang/String" "java/lang/String" "value" "[B"))⟩) (Or.inl ⟨rfl, hnm⟩) f1 (Or.inl rfl) bl13 (t := (.array .byte)) (by decide +kernel) rfl (g := (mkF m 54 #[.val (.ref a), .val (.ref b), .val (.int (Int32.ofNat o)), .val (.int (Int32.ofNat len)), .val .null, .val (.ref s.heap.size)] [.ref s.heap.size, .ref a])) rfl (rest := []) rfl (hb hbytes d54)
  have c16 : Steps p.tables e below (s₁.setTop (entryFrame m #[.ref a, .ref b, .int (Int32.ofNat o), .int (Int32.ofNat len), .null] 6)) (T15.setTop (mkF m 57 #[.val (.ref a), .val (.ref b), .val (.int (Int32.ofNat o)), .val (.int (Int32.ofNat len)), .val .null, .val (.ref s.heap.size)] [])) := c14.trans (st15 _ (Steps.refl _))
  have ap := apart (Or.inr ⟨_, (wk W (.laysFinal "java/lang/String" "java/lang/String" "value" "[B"))⟩) (Or.inr ⟨_, (wk W (.laysFinal "java/lang/String" "java/lang/String" "coder" "B"))⟩) f1 f2 (t₁ := .array .byte) (t₂ := .byte) (by decide +kernel) (by decide +kernel) (by decide)
  have al := X8.warmed.alike.symm.trans X15.warmed.alike
  have n7 : T11.heap[s.heap.size]? = some N := by rw [q11]; exact n1.1
  exact ⟨T15, none, _, _, _, X15, by simp, rfl, by omega, (fun _ => rfl), ⟨rfl, _, N, bl15, ((Same.refl D _).set _ (by simp)).set _ (by simp), sl15, (Cell.slots_setSlot_ne _ ap).trans sl13, n1.keep al (p15.other hne (p13.other hne n7)), n2, by rw [al.findClass]; exact n3, n4, n5, fun y c h1 h2 => p15.other h1 (p13.other h1 (by rw [q11]; exact n6 y c h2)), by rw [p15.2.2, p13.2.2, q11]; exact z8⟩, fun fs hl => c16.trans (X15.returnOut hexec hret (hb hbytes d57) hl)⟩
end New4
namespace New1
def yN : MethodName := ⟨"java/lang/String", "<init>", "([C)V"⟩
abbrev yB : ByteArray := jdk_42_method_3_code
theorem d0 : decode yB 0 = .ok (.aload_n 0, 1) := by decide +kernel
theorem d1 : decode yB 1 = .ok (.aload_n 1, 1) := by decide +kernel
theorem d2 : decode yB 2 = .ok (.iconst 0, 1) := by decide +kernel
theorem d3 : decode yB 3 = .ok (.aload_n 1, 1) := by decide +kernel
theorem d4 : decode yB 4 = .ok (.arraylength, 1) := by decide +kernel
theorem d5 : decode yB 5 = .ok (.aconst_null, 1) := by decide +kernel
theorem d6 : decode yB 6 = .ok (.invokespecial 27, 3) := by decide +kernel
theorem d9 : decode yB 9 = .ok (.return_, 1) := by decide +kernel
def site : List Cond := [New4.tab] ++ initW "java/lang/String" 27 New4.yN
def tab : Cond := tabOf yN yB 2 none site
def P (a : Addr) (D : Cell) (fV fC : Field) (b : Addr) (A : Cell) (z : Int32) (args : Array Value) (s : State) : Prop := args = #[.ref a, .ref b] ∧ Blank "java/lang/String" a D s ∧ Found "java/lang/String" "value" "[B" fV s ∧ Found "java/lang/String" "coder" "B" fC s ∧ Ch b A s ∧ StaticIs s "java/lang/String" "COMPACT_STRINGS" "Z" (.int z) ∧ ¬ z = 0 ∧ 0 < A.slots.size ∧ A.slots.size ≤ 536870912 ∧ ∀ i, i < A.slots.size → ¬ 255 < cv A i
def E (a : Addr) (D : Cell) (fV fC : Field) (A : Cell) (r : Option Value) (s u : State) : Prop := Got a D fV fC A 0 A.slots.size r s u
/-- new String(chars), not empty, no char above 255: a Latin-1 String of their low bytes -/
theorem law (l : Launch) (a : Addr) (D : Cell) (fV fC : Field) (b : Addr) (A : Cell) (z : Int32) : Law l yN 2 1 3 52 yB 2 none site (P a D fV fC b A z) (E a D fV fC A) [⟨a, fC.slot⟩, ⟨a, fV.slot⟩] 1 A.slots.size := by
  refine Law.of_walk (plainFor_of_name (by decide +kernel)) (by decide +kernel) (by decide +kernel) (by decide) (fun _ _ h => by rw [h.1]; rfl) (fun _ U U' hal hh h => ⟨h.1, h.2.1.mv hal hh, h.2.2.1.al hal, h.2.2.2.1.al hal, h.2.2.2.2.1.mv hal hh, h.2.2.2.2.2.1.there hal hh, h.2.2.2.2.2.2⟩) (fun r U U' V V' h1 hal h2 h => Got.mv r U U' V V' h1 hal h2 h) ?_
  intro p e s m args below meth c s₁ X0 hexec hbytes hml hret hlk hnm hown hh0 W hP
  obtain ⟨rfl, hB, f1, f2, hA, s1, hz, l0, l2, hp⟩ := hP
  have c1 : Steps p.tables e below (s₁.setTop (entryFrame m #[.ref a, .ref b] 2)) (s₁.setTop (mkF m 0 #[.val (.ref a), .val (.ref b)] [])) := entry rfl
  have c2 : Steps p.tables e below (s₁.setTop (entryFrame m #[.ref a, .ref b] 2)) (s₁.setTop (mkF m 6 #[.val (.ref a), .val (.ref b)] [.null, .int (Int32.ofNat A.slots.size), .int 0, .ref b, .ref a])) := c1.trans (by
    refine XS.aloadN X0.here hexec rfl (hb hbytes d0) rfl rfl ?_
    refine XS.aloadN X0.here hexec rfl (hb hbytes d1) rfl rfl ?_
    refine iconstV X0.here hexec rfl 0 (hb hbytes d2) (by decide) ?_
    refine XS.aloadN X0.here hexec rfl (hb hbytes d3) rfl rfl ?_
    refine X0.alen hexec (hA.1.mv X0.warmed.alike hh0) rfl rfl (hb hbytes d4) ?_
    refine XS.aconstNull X0.here hexec rfl (hb hbytes d5) ?_
    exact Steps.refl _)
  obtain ⟨v3, T3, X3, E3, g3⟩ := X0.callN hexec (New4.law l a D fV fC b A z 0 A.slots.size) rfl hown (wks W (initW "java/lang/String" 27 New4.yN)) (W New4.tab (by simp only [site, List.mem_cons, List.mem_append, true_or, or_true])) (W := 0) (Nat.le_of_ble_eq_true rfl) (Nat.le_of_ble_eq_true rfl) (Nat.le_refl _) (by show 0 + A.slots.size ≤ A.slots.size; omega) (g := (mkF m 6 #[.val (.ref a), .val (.ref b)] [.null, .int (Int32.ofNat A.slots.size), .int (Int32.ofNat 0), .ref b, .ref a])) rfl (by rw [hml]; rfl) c2 (argsL := [.ref b, .int (Int32.ofNat 0), .int (Int32.ofNat A.slots.size), .null]) (rest := []) rfl rfl (by show 2 * 0 + 0 ≤ _; decide) (hb hbytes d6) (⟨rfl, hB.mv X0.warmed.alike hh0, f1.al X0.warmed.alike, f2.al X0.warmed.alike, hA.mv X0.warmed.alike hh0, s1.there X0.warmed.alike hh0, hz, l0, by omega, l2, fun i hi => by rw [Nat.zero_add]; exact hp i hi⟩)
  have e0 := Got.mv _ s₁ s _ _ hh0.symm (Vm.Alike.refl _) rfl E3
  obtain rfl := e0.1
  have c4 : Steps p.tables e below (s₁.setTop (entryFrame m #[.ref a, .ref b] 2)) (T3.setTop (mkF m 9 #[.val (.ref a), .val (.ref b)] [])) := g3
  exact ⟨T3, none, _, _, _, X3, by simp, rfl, by omega, (fun _ => rfl), e0, fun fs hl => c4.trans (X3.returnOut hexec hret (hb hbytes d9) hl)⟩
theorem pays {l : Launch} {R : Room} {p : Program} {e : Env} {below : List Frame} {s : State} {sargs : Array Value} {len W : Nat} (a : Addr) (D : Cell) (fV fC : Field) (b : Addr) (A : Cell) (z : Int32) (htab : tab.before sargs s = true) (hfr : 4 ≤ R.frames) (hlo : W + 65 ≤ R.locals) :
    Back l R p e below s sargs yN len W (fun A₁ a₁ => A₁.cells + 1 ≤ R.cells ∧ A₁.slots + A.slots.size ≤ R.slots ∧ P a D fV fC b A z a₁ A₁.U) (fun A₁ _ v₁ B₁ => E a D fV fC A v₁ A₁.U B₁.U ∧ B₁.locs = A₁.locs ++ [⟨a, fC.slot⟩, ⟨a, fV.slot⟩] ∧ B₁.cells = A₁.cells + 1 ∧ B₁.slots = A₁.slots + A.slots.size) :=
  (law l a D fV fC b A z).pays htab hfr (by omega)
end New1
end StrChars
namespace StrChars.Road
open Jvm Sem ClassFile Op Lib Jvm.Stand Jvm.Free Jvm.Free.XT
open Jvm.Lib.Cold (StaticIs)
abbrev ST : String := "java/lang/String"
/-- every table word that New1's law asks, flat -/
abbrev words : List Jvm.Cond := [.code New1.yN New1.yB 2 none, .initialized ST, .methodLink ST 27 New4.yN, .instanceMethod New4.yN,
  .code New4.yN New4.yB 6 none, .fieldLink ST 38 ST "COMPACT_STRINGS" "Z", .laysFinal ST ST "value" "[B", .fieldLink ST 9 ST "value" "[B", .laysFinal ST ST "coder" "B", .fieldLink ST 15 ST "coder" "B",
  .methodLink ST 1 Lib.objectInit, .instanceMethod Lib.objectInit, .code Lib.objectInit ⟨#[0xb1]⟩ 1 none, .methodLink ST 177 Cmp3.yN, .static Cmp3.yN, .methodLink ST 47 CodL.yN, .static CodL.yN,
  .code Cmp3.yN Cmp3.yB 6 (some (.array .byte)), .initialized U16, .arrayClass .byte, .methodLink U16 115 Cmp5.yN, .static Cmp5.yN, .code Cmp5.yN Cmp5.yB 7 (some .int), .code CodL.yN CodL.yB 2 (some .byte)]
theorem tab_of {a : Array Value} {s : State} (h : ∀ w ∈ words, w.before a s = true) : New1.tab.before a s = true := by
  have h5 : Cmp5.tab.before a s = true := unparts (wk h (.code Cmp5.yN Cmp5.yB 7 (some .int))) (wks h (.initialized Cmp5.yN.cls :: Cmp5.site))
  have hc : CodL.tab.before a s = true := unparts (wk h (.code CodL.yN CodL.yB 2 (some .byte))) (wks h (.initialized CodL.yN.cls :: CodL.site))
  have q5 : ∀ w ∈ Cmp5.tab :: words, w.before a s = true := fun w hw => (List.mem_cons.mp hw).elim (fun e => e ▸ h5) (h w)
  have h3 : Cmp3.tab.before a s = true := unparts (wk q5 (.code Cmp3.yN Cmp3.yB 6 (some (.array .byte)))) (wks q5 (.initialized Cmp3.yN.cls :: Cmp3.site))
  have q3 : ∀ w ∈ Cmp3.tab :: CodL.tab :: words, w.before a s = true := fun w hw => (List.mem_cons.mp hw).elim (fun e => e ▸ h3) fun hw => (List.mem_cons.mp hw).elim (fun e => e ▸ hc) (h w)
  have h4 : New4.tab.before a s = true := unparts (wk q3 (.code New4.yN New4.yB 6 none)) (wks q3 (.initialized New4.yN.cls :: New4.site))
  have q4 : ∀ w ∈ New4.tab :: words, w.before a s = true := fun w hw => (List.mem_cons.mp hw).elim (fun e => e ▸ h4) (h w)
  exact unparts (wk q4 (.code New1.yN New1.yB 2 none)) (wks q4 (.initialized New1.yN.cls :: New1.site))
/-- the words ride from the start Z to the walk's own state -/
theorem moved {Z s : State} {a0 args : Array Value} (hZ : Z.Warmed39 s.vm) (hw : ∀ d ∈ words, d.before a0 Z = true) : ∀ d ∈ words, d.before args s = true := fun d hd => by
  have q := hw d hd
  have t : ∀ d ∈ words, d = .arrayClass .byte ∨ (d.onTables && d.keepsFace) = true := by decide +kernel
  rcases t d hd with rfl | t
  · exact RoadKit.mvA hZ q
  · exact RoadKit.mv hZ q t
/-- WHAT COMES BACK, over the tables of the start Z: h the heap at the call, h' behind it -/
def Q (Z : State) (x : Addr) (A : Cell) (h : Heap) (v : Option Value) (h' : Heap) (L : List Loc) : Prop := v = none ∧ (∀ y ∈ L, y.base = x) ∧ RoadKit.Keep h h' [x] ∧ h'.size = h.size + 1 ∧ RoadKit.Exa Z h' x ST ∧ RoadKit.Fld Z h' x ST "value" "[B" (.ref h.size) ∧ RoadKit.Fld Z h' x ST "coder" "B" (.int 0) ∧
  (∃ V : Cell, RoadKit.Arr Z h' h.size V .byte ∧ V.vm = .none ∧ Z.vm.findClass "[B" = some V.cls ∧ V.slots.size = A.slots.size ∧ ∀ j, j < A.slots.size → V.slots[j]? = some (.int (lo8 (cv A j)))) ∧
  ∀ (O n d : String) (w : Value), RoadKit.Fld Z h x O n d w → RoadKit.slotOf Z O n d ≠ RoadKit.slotOf Z ST "value" "[B" → RoadKit.slotOf Z O n d ≠ RoadKit.slotOf Z ST "coder" "B" → RoadKit.Fld Z h' x O n d w
/-- **new String(chars) AT A CALL, IN THE ROAD'S FORM**: for specialBack behind newO: x the fresh String, b the char[] with the cell A -/
theorem back {p : Program} {l : Launch} {e : Env} {R : Room} {s : State} {args : Array Value} {below : List Frame} {len W : Nat} {Z : State} {a0 : Array Value} {h : Heap} (hZ : Z.Warmed39 s.vm) (hw : ∀ d ∈ words, d.before a0 Z = true) {kI : Nat} (wi : (Jvm.Cond.instantiable ST kI).before a0 Z = true)
    {x b : Addr} {A : Cell} {z : Int32} {v0 c0 : Value} (E : RoadKit.Exa Z h x ST) (V : RoadKit.Fld Z h x ST "value" "[B" v0) (C : RoadKit.Fld Z h x ST "coder" "B" c0) (K : RoadKit.Arr Z h b A .char) (hty : Typed .char A) (S : RoadKit.Sta Z h ST "COMPACT_STRINGS" "Z" (.int z)) (hz : ¬ z = 0)
    (l0 : 0 < A.slots.size) (l2 : A.slots.size ≤ 536870912) (hp : ∀ i, i < A.slots.size → ¬ 255 < cv A i) (hfr : 4 ≤ R.frames) (hlo : W + 65 ≤ R.locals) :
    Back l R p e below s args New1.yN len W (fun P a => a = #[.ref x, .ref b] ∧ P.U.heap = h ∧ P.cells + 1 ≤ R.cells ∧ P.slots + A.slots.size ≤ R.slots)
      (fun P _ v B => ∃ L, Q Z x A h v B.U.heap L ∧ B.locs = P.locs ++ L ∧ B.cells = P.cells + 1 ∧ B.slots = P.slots + A.slots.size) := by
  intro m meth c P g ig mk a X hg hsize hdg hW hn hp'
  obtain ⟨rfl, rfl, r1, r2⟩ := hp'
  have al : Z.vm.Alike P.U.vm := hZ.alike.trans X.warmed.alike
  obtain ⟨D, cfV, kV, iV, fV, hD, gV, stV, knV, obV, asV, slV⟩ := id V
  obtain ⟨D', cfC, kC, iC, fC, hD', gC, stC, -, -, asC, slC⟩ := id C
  cases hD.symm.trans hD'
  obtain ⟨D2, kD, e1, e2, e3, e4, e5⟩ := id E
  cases hD.symm.trans e1
  obtain ⟨c2, k2, i1, i2, i3, -⟩ := Cond.instantiable_spec wi
  cases e2.symm.trans i1
  cases e3.symm.trans i2
  obtain ⟨kU, u1, u2⟩ := al.2.2 _ _ e3
  have hB : Blank ST x D P.U := ⟨hD, ⟨knV, fun q hq => by rw [hq] at obV; cases obV⟩, by rw [al.findClass]; exact e2, kU, u1, by rw [u2]; exact i3, by rw [u2]; exact e5 i3⟩
  have F1 : Found ST "value" "[B" fV P.U := ⟨SBG.found_only al ⟨cfV, kV, iV, gV⟩, stV⟩
  have F2 : Found ST "coder" "B" fC P.U := ⟨SBG.found_only al ⟨cfC, kC, iC, gC⟩, stC⟩
  have hA : Ch b A P.U := ⟨⟨K.1, State.isArrayOf_alike al K.2.1, K.2.2, by omega⟩, hty⟩
  have hS : StaticIs P.U ST "COMPACT_STRINGS" "Z" (.int z) := by
    obtain ⟨cfS, iS, kS, fS, st, cS, t1, t2, t3, t4, t5, t6, t7⟩ := S
    exact StaticIs.there (s := { Z with heap := P.U.heap }) ⟨cfS, iS, kS, fS, st, cS, t1, t2, t3, t4, t5, (fun q => by rw [q] at t6; cases t6), t7⟩ al rfl
  obtain ⟨v, B, X', ⟨⟨hv, E', V', q1, q2, q3, q4, q5, q6, q7, q8, q9, q10, q11⟩, hl, hc, hs⟩, st⟩ := New1.pays x D fV fC b A z (tab_of (moved hZ hw)) hfr hlo m meth c P g ig mk _ X hg hsize hdg hW hn ⟨r1, r2, rfl, hB, F1, F2, hA, hS, hz, l0, l2, hp⟩
  have al' : Z.vm.Alike B.U.vm := hZ.alike.trans X'.warmed.alike
  have hsz : E'.slots.size = D.slots.size := by
    obtain ⟨-, -, -, kB, w1, w2, w3⟩ := q1
    obtain ⟨kB', y1, y2⟩ := al'.2.2 _ _ e3
    rw [q2.2.1] at w1
    cases w1.symm.trans y1
    rw [w3, e5 i3, y2]
  refine ⟨v, B, X', ⟨_, ⟨hv, ?_, ⟨by omega, fun y cy hy hn' => q10 y cy (by simpa using hn') hy, fun y cy hy => ?_⟩, q11, ⟨E', _, q1.1, by rw [q2.2.1]; exact e2, by rw [q2.2.1]; exact e3, by rw [q2.1]; exact obV, fun _ => by rw [hsz]; exact e5 i3⟩,
    ⟨E', cfV, kV, iV, fV, q1.1, gV, stV, by rw [q2.1]; exact knV, by rw [q2.1]; exact obV, by rw [q2.2.1]; exact asV, q3⟩, ⟨E', cfC, kC, iC, fC, q1.1, gC, stC, by rw [q2.1]; exact knV, by rw [q2.1]; exact obV, by rw [q2.2.1]; exact asC, q4⟩,
    ⟨V', ⟨q5.1, State.isArrayOf_alike al'.symm q5.2.1, q5.2.2.1⟩, q6, by rw [← al'.findClass]; exact q7, q8, fun j hj => by have := q9 j hj; rwa [Nat.zero_add] at this⟩, fun O n d w F n1 n2 => ?_⟩, hl, hc, hs⟩, st⟩
  · intro y hy
    simp only [List.mem_cons, List.not_mem_nil, or_false] at hy
    rcases hy with rfl | rfl <;> rfl
  · by_cases q : y = x
    · subst q
      cases hD.symm.trans hy
      exact ⟨E', q1.1, q2.2.1, q2.1, hsz⟩
    · exact ⟨cy, q10 y cy q hy, rfl, rfl, rfl⟩
  · obtain ⟨D3, cf, k, i, f, g1, g2, g3, g4, g5, g6, g7⟩ := F
    cases hD.symm.trans g1
    simp only [RoadKit.slotOf, g2, gV, gC, Option.map_some, Option.getD_some] at n1 n2
    exact ⟨E', cf, k, i, f, q1.1, g2, g3, by rw [q2.1]; exact g4, by rw [q2.1]; exact g5, by rw [q2.2.1]; exact g6, by rw [q2.2.2 f.slot (by simp [n1, n2])]; exact g7⟩
end StrChars.Road
namespace StrChars.Road
open Jvm Sem ClassFile Op Lib Jvm.Stand Jvm.Free Jvm.Free.XT
/-- WHAT COMES BACK, the byte[] as a list of values -/
def QA (Z : State) (x : Addr) (zn : Int32) (cs : List Int32) (h : Heap) (v : Option Value) (h' : Heap) (L : List Loc) : Prop := v = none ∧ (∀ y ∈ L, y.base = x) ∧ RoadKit.Keep h h' [x] ∧ h'.size = h.size + 1 ∧ RoadKit.Exa Z h' x ST ∧ RoadKit.Fld Z h' x ST "value" "[B" (.ref h.size) ∧ RoadKit.Fld Z h' x ST "coder" "B" (.int 0) ∧
  (∃ kb, Z.vm.findClass "[B" = some kb ∧ RoadKit.Arv Z h' h.size kb .byte zn (cs.map fun c => .int (lo8 c)) (.int 0)) ∧
  ∀ (O n d : String) (w : Value), RoadKit.Fld Z h x O n d w → RoadKit.slotOf Z O n d ≠ RoadKit.slotOf Z ST "value" "[B" → RoadKit.slotOf Z O n d ≠ RoadKit.slotOf Z ST "coder" "B" → RoadKit.Fld Z h' x O n d w
/-- **new String(chars) AT A CALL, THE ARRAYS AS LISTS**: the char[] at b holds cs, not empty, no char above 255 -/
theorem backArv {p : Program} {l : Launch} {e : Env} {R : Room} {s : State} {args : Array Value} {below : List Frame} {len W : Nat} {Z : State} {a0 : Array Value} {h : Heap} (hZ : Z.Warmed39 s.vm) (hw : ∀ d ∈ words, d.before a0 Z = true) {kI : Nat} (wi : (Jvm.Cond.instantiable ST kI).before a0 Z = true)
    {x b : Addr} {k : ClassId} {zn z : Int32} {cs : List Int32} {dv v0 c0 : Value} (E : RoadKit.Exa Z h x ST) (V : RoadKit.Fld Z h x ST "value" "[B" v0) (C : RoadKit.Fld Z h x ST "coder" "B" c0) (K : RoadKit.Arv Z h b k .char zn (cs.map Value.int) dv) (S : RoadKit.Sta Z h ST "COMPACT_STRINGS" "Z" (.int z)) (hz : ¬ z = 0)
    (hlen : zn.toNatClampNeg = cs.length) (h0 : 0 < cs.length) (hbig : cs.length ≤ 536870912) (hall : ∀ c ∈ cs, ¬ 255 < c) (hfr : 4 ≤ R.frames) (hlo : W + 65 ≤ R.locals) :
    Back l R p e below s args New1.yN len W (fun P a => a = #[.ref x, .ref b] ∧ P.U.heap = h ∧ P.cells + 1 ≤ R.cells ∧ P.slots + cs.length ≤ R.slots)
      (fun P _ v B => ∃ L, QA Z x zn cs h v B.U.heap L ∧ B.locs = P.locs ++ L ∧ B.cells = P.cells + 1 ∧ B.slots = P.slots + cs.length) := by
  obtain ⟨A, K1, K2, K3, K4, K5, K6⟩ := K
  have e : A.slots.size = cs.length := K3.trans hlen
  have hat : ∀ (i : Nat) (hi : i < cs.length), A.slots[i]? = some (.int cs[i]) := fun i hi => by rw [K5 i (by omega)]; simp [List.getD_eq_getElem?_getD, hi]
  have hcv : ∀ (i : Nat) (hi : i < cs.length), cv A i = cs[i] := fun i hi => by unfold cv; rw [hat i hi]
  have hty : Typed .char A := fun i v hv => by
    have hi : i < A.slots.size := (Array.getElem?_eq_some_iff.mp hv).1
    have q := K5 i hi
    rw [hv] at q
    rw [Option.some.inj q]
    exact K6 i hi
  refine Back.mono (back hZ hw wi E V C K1 hty S hz (by omega) (by omega) (fun i hi => by rw [hcv i (by omega)]; exact hall _ (List.getElem_mem _)) hfr hlo) (fun P a hp => ⟨hp.1, hp.2.1, hp.2.2.1, by rw [e]; exact hp.2.2.2⟩) (fun P a v B hp hq => ?_)
  obtain ⟨L, ⟨q1, q2, q3, q4, q5, q6, q7, ⟨V', v1, v2, v3, v4, v5⟩, q9⟩, hl, hc, hs⟩ := hq
  refine ⟨L, ⟨q1, q2, q3, q4, q5, q6, q7, ⟨V'.cls, v3, V', v1, rfl, by rw [v4, e, hlen], K4, fun i hi => ?_, fun i hi => ?_⟩, q9⟩, hl, hc, by rw [hs, e]⟩
  · have hi' : i < cs.length := by omega
    rw [v5 i (by omega), hcv i hi']; simp [List.getD_eq_getElem?_getD, hi']
  · have hi' : i < cs.length := by omega
    simp only [List.getD_eq_getElem?_getD, List.getElem?_map, List.getElem?_eq_getElem hi', Option.map_some, Option.getD_some]
    exact fits_lo8 _
end StrChars.Road
namespace StrChars.Road
open Jvm Sem ClassFile Op Lib Jvm.Stand Jvm.Free Jvm.Free.XT
/-- WHAT COMES BACK, in the writer's own shape -/
def QV (Z : State) (x : Addr) (N : Int32) (bs : List Int32) (h : Heap) (n0 : Nat) (v : Option Value) (h' : Heap) (L : List Loc) : Prop := v = none ∧ RoadKit.Fr n0 L ∧ RoadKit.Keep h h' [x] ∧ RoadKit.Exa Z h' x ST ∧ RoadKit.Fld Z h' x ST "coder" "B" (.int 0) ∧
  ∃ (t : Addr) (kb : ClassId), n0 ≤ t ∧ h.size ≤ t ∧ ¬ t = x ∧ RoadKit.Fld Z h' x ST "value" "[B" (.ref t) ∧ RoadKit.Arv Z h' t kb .byte N (bs.map Value.int) (.int 0)
/-- **new String(chars) AT A CALL, FOR THE WRITER**: a char[] of n known ints, each 0 to 255 -/
theorem backV {p : Program} {l : Launch} {e : Env} {R : Room} {s : State} {args : Array Value} {below : List Frame} {len W : Nat} {Z : State} {a0 : Array Value} {h : Heap} (hZ : Z.Warmed39 s.vm) (hw : ∀ d ∈ words, d.before a0 Z = true) {kI : Nat} (wi : (Jvm.Cond.instantiable ST kI).before a0 Z = true)
    {x b : Addr} {kC : ClassId} {cs bs : List Int32} {d v0 c0 : Value} {z N : Int32} {n n0 : Nat} (hx0 : n0 ≤ x) (hh0 : n0 ≤ h.size) (E : RoadKit.Exa Z h x ST) (V : RoadKit.Fld Z h x ST "value" "[B" v0) (C : RoadKit.Fld Z h x ST "coder" "B" c0) (K : RoadKit.Arv Z h b kC .char N (cs.map Value.int) d) (S : RoadKit.Sta Z h ST "COMPACT_STRINGS" "Z" (.int z)) (hz : ¬ z = 0)
    (hn : cs.length = n) (hN : N = Int32.ofNat n) (l0 : 0 < n) (l2 : n ≤ 4000) (hp : ∀ c ∈ cs, ¬ c < 0 ∧ ¬ (255 : Int32) < c) (hb : bs = cs.map (fun c => c.toInt8.toInt32)) (hfr : 4 ≤ R.frames) (hlo : W + 65 ≤ R.locals) :
    Back l R p e below s args (⟨"java/lang/String", "<init>", "([C)V"⟩ : MethodName) len W (fun P a => a = #[.ref x, .ref b] ∧ P.U.heap = h ∧ P.cells + 1 ≤ R.cells ∧ P.slots + n ≤ R.slots)
      (fun P _ v B => ∃ L, QV Z x N bs h n0 v B.U.heap L ∧ B.locs = P.locs ++ L ∧ B.cells = P.cells + 1 ∧ B.slots = P.slots + n) := by
  subst hn hN hb
  refine Back.mono (backArv hZ hw wi E V C K S hz (n32 (by omega)) l0 (by omega) (fun c hc => (hp c hc).2) hfr hlo) (fun P a hp => hp) (fun P a v B hp hq => ?_)
  obtain ⟨L, ⟨q1, q2, q3, q4, q5, q6, q7, ⟨kb, v1, v2⟩, q9⟩, hl, hc, hs⟩ := hq
  exact ⟨L, ⟨q1, fun y hy => by rw [q2 y hy]; exact hx0, q3, q5, q7, h.size, kb, hh0, Nat.le_refl _, Nat.ne_of_gt E.lt, q6, by rw [List.map_map]; exact v2⟩, hl, hc, hs⟩
end StrChars.Road
namespace StrChars
open Jvm Sem ClassFile Op Lib Jvm.Stand Jvm.Free.XT Jvm.Free.ALB Jvm.Free.JM Jvm.Free
open Jvm.Lib.Cold (StaticIs)
def hi8 (x : Int32) : Int32 := lo8 (x >>> ((8 : Int32) &&& 31))
end StrChars
namespace StrChars
open Jvm Sem ClassFile Op Lib Jvm.Stand Jvm.Free.XT Jvm.Free.ALB Jvm.Free.JM Jvm.Free
open Jvm.Lib.Cold (StaticIs)
/-- the array's cell V codes the n chars f 0 .. f (n - 1) by the coder cd, as the JDK does: coder 1 just where some char is above 255 -/
def Cod (cd : Int32) (n : Nat) (f : Nat → Int32) (V : Cell) : Prop := (cd = 0 ∧ V.slots.size = n ∧ ∀ j, j < n → V.slots[j]? = some (.int (lo8 (f j))) ∧ ¬ 255 < f j) ∨ (cd = 1 ∧ V.slots.size = 2 * n ∧ (∀ j, j < n → V.slots[2 * j]? = some (.int (lo8 (f j))) ∧ V.slots[2 * j + 1]? = some (.int (hi8 (f j)))) ∧ ∃ j, j < n ∧ 255 < f j)
/-- **x is a String of the n chars f 0 .. f (n - 1)**, Latin-1 or UTF-16; its array at t has the cell V -/
def Txt (x t : Addr) (V : Cell) (cd : Int32) (n : Nat) (f : Nat → Int32) (U : State) : Prop := Exact "java/lang/String" x U ∧ Has x "java/lang/String" "value" "[B" (.ref t) U ∧ Has x "java/lang/String" "coder" "B" (.int cd) U ∧ XT.Arr .byte t V U ∧ Cod cd n f V ∧ ∀ j, j < n → ¬ f j < 0 ∧ ¬ 65535 < f j
theorem Txt.mv {x t : Addr} {V : Cell} {cd : Int32} {n : Nat} {f : Nat → Int32} {U U' : State} (h : Txt x t V cd n f U) (hal : U.vm.Alike U'.vm) (hh : U'.heap = U.heap) : Txt x t V cd n f U' := ⟨h.1.mv hal hh, h.2.1.mv hal hh, h.2.2.1.mv hal hh, h.2.2.2.1.mv hal hh, h.2.2.2.2⟩
end StrChars
namespace StrChars.Road
open Jvm Sem ClassFile Op Lib Jvm.Stand Jvm.Free Jvm.Free.XT
open Jvm.Lib.Cold (StaticIs)
/-- the bytes of the chars cs, low before high -/
def wideBytes : List Int32 → List Value
  | [] => []
  | c :: cs => .int (lo8 c) :: .int (hi8 c) :: wideBytes cs
theorem wide_lo (d : Value) : ∀ (cs : List Int32) (j : Nat), j < cs.length → (wideBytes cs).getD (2 * j) d = .int (lo8 (cs.getD j 0))
  | [], j, h => absurd h (Nat.not_lt_zero j)
  | c :: cs, 0, _ => rfl
  | c :: cs, j + 1, h => by
    have q := wide_lo d cs j (by simpa using h)
    rw [show 2 * (j + 1) = 2 * j + 1 + 1 from by omega]
    simpa [wideBytes] using q
theorem wide_hi (d : Value) : ∀ (cs : List Int32) (j : Nat), j < cs.length → (wideBytes cs).getD (2 * j + 1) d = .int (hi8 (cs.getD j 0))
  | [], j, h => absurd h (Nat.not_lt_zero j)
  | c :: cs, 0, _ => rfl
  | c :: cs, j + 1, h => by
    have q := wide_hi d cs j (by simpa using h)
    rw [show 2 * (j + 1) + 1 = 2 * j + 1 + 1 + 1 from by omega]
    simpa [wideBytes] using q
theorem low_at (d : Value) (cs : List Int32) (j : Nat) (h : j < cs.length) : (cs.map fun c => Value.int (lo8 c)).getD j d = .int (lo8 (cs.getD j 0)) := by
  simp [List.getD_eq_getElem?_getD, h]
/-- an array of N2 bytes vs codes the chars cs by the coder cd -/
def CodA (cs : List Int32) (cd N2 : Int32) (vs : List Value) : Prop := (cd = 0 ∧ N2 = Int32.ofNat cs.length ∧ vs = (cs.map fun c => Value.int (lo8 c)) ∧ ∀ c ∈ cs, ¬ 255 < c) ∨ (cd = 1 ∧ N2 = Int32.ofNat (2 * cs.length) ∧ vs = wideBytes cs ∧ ∃ c ∈ cs, 255 < c)
theorem CodA.cod {cs : List Int32} {cd N2 : Int32} {vs : List Value} {V : Cell} (h : CodA cs cd N2 vs) (hn : 2 * cs.length < 2 ^ 31) (hs : V.slots.size = N2.toNatClampNeg) (hv : RoadKit.Has V vs (.int 0)) : Cod cd cs.length (fun j => cs.getD j 0) V := by
  rcases h with ⟨rfl, rfl, rfl, h⟩ | ⟨rfl, rfl, rfl, c, hc, hw⟩
  · rw [n32 (by omega)] at hs
    exact Or.inl ⟨rfl, hs, fun j hj => ⟨by rw [hv j (by omega), low_at _ _ _ hj], by
      have e : cs.getD j 0 = cs[j] := by simp [List.getD_eq_getElem?_getD, hj]
      show ¬ 255 < cs.getD j 0
      rw [e]; exact h _ (List.getElem_mem _)⟩⟩
  · rw [n32 (by omega)] at hs
    obtain ⟨j, hj, rfl⟩ := List.getElem_of_mem hc
    exact Or.inr ⟨rfl, hs, fun j hj => ⟨by rw [hv _ (by omega), wide_lo _ _ _ hj], by rw [hv _ (by omega), wide_hi _ _ _ hj]⟩, j, hj, by
      have e : cs.getD j 0 = cs[j] := by simp [List.getD_eq_getElem?_getD, hj]
      show 255 < cs.getD j 0
      rw [e]; exact hw⟩
/-- an object of exactly java/lang/String, its two fields found: as the laws ask it -/
theorem strObj {Z U : State} {a0 : Array Value} {kI : Nat} (wi : (Jvm.Cond.instantiable ST kI).before a0 Z = true) (al : Z.vm.Alike U.vm) {x : Addr} {v0 c0 : Value} (E : RoadKit.Exa Z U.heap x ST) (V : RoadKit.Fld Z U.heap x ST "value" "[B" v0) (C : RoadKit.Fld Z U.heap x ST "coder" "B" c0) :
    ∃ (D : Cell) (fV fC : Field), Blank ST x D U ∧ Found ST "value" "[B" fV U ∧ Found ST "coder" "B" fC U ∧ D.slots[fV.slot]? = some v0 ∧ D.slots[fC.slot]? = some c0 ∧ RoadKit.slotOf Z ST "value" "[B" = fV.slot ∧ RoadKit.slotOf Z ST "coder" "B" = fC.slot := by
  obtain ⟨D, cfV, kV, iV, fV, hD, gV, stV, knV, obV, asV, slV⟩ := V
  obtain ⟨D', cfC, kC, iC, fC, hD', gC, stC, -, -, asC, slC⟩ := C
  cases hD.symm.trans hD'
  obtain ⟨D2, kD, e1, e2, e3, e4, e5⟩ := E
  cases hD.symm.trans e1
  obtain ⟨c2, k2, i1, i2, i3, -⟩ := Cond.instantiable_spec wi
  cases e2.symm.trans i1
  cases e3.symm.trans i2
  obtain ⟨kU, u1, u2⟩ := al.2.2 _ _ e3
  exact ⟨D, fV, fC, ⟨hD, ⟨knV, fun q hq => by rw [hq] at obV; cases obV⟩, by rw [al.findClass]; exact e2, kU, u1, by rw [u2]; exact i3, by rw [u2]; exact e5 i3⟩, ⟨SBG.found_only al ⟨cfV, kV, iV, gV⟩, stV⟩, ⟨SBG.found_only al ⟨cfC, kC, iC, gC⟩, stC⟩, slV, slC, by simp [RoadKit.slotOf, gV], by simp [RoadKit.slotOf, gC]⟩
end StrChars.Road
namespace StrChars
open Jvm Sem ClassFile Op Lib Jvm.Stand Jvm.Free.XT Jvm.Free.ALB Jvm.Free.JM Jvm.Free
open Jvm.Lib.Cold (StaticIs)
namespace Emp
def yN : MethodName := ⟨"java/lang/String", "isEmpty", "()Z"⟩
abbrev yB : ByteArray := jdk_42_method_55_code
theorem d0 : decode yB 0 = .ok (.aload_n 0, 1) := by decide +kernel
theorem d1 : decode yB 1 = .ok (.getfield 9, 3) := by decide +kernel
theorem d4 : decode yB 4 = .ok (.arraylength, 1) := by decide +kernel
theorem d5 : decode yB 5 = .ok (.ifCond (.ne) 7, 3) := by decide +kernel
theorem d8 : decode yB 8 = .ok (.iconst 1, 1) := by decide +kernel
theorem d9 : decode yB 9 = .ok (.goto 4, 3) := by decide +kernel
theorem d12 : decode yB 12 = .ok (.iconst 0, 1) := by decide +kernel
theorem d13 : decode yB 13 = .ok (.ireturn, 1) := by decide +kernel
def site : List Cond := [.fieldLink "java/lang/String" 9 "java/lang/String" "value" "[B"]
def tab : Cond := tabOf yN yB 1 (some .boolean) site
def P (x t : Addr) (V : Cell) (cd : Int32) (n : Nat) (f : Nat → Int32) (args : Array Value) (s : State) : Prop := args = #[.ref x] ∧ Txt x t V cd n f s
def E (n : Nat) (r : Option Value) (s u : State) : Prop := XT.PureE (some (.int (if n = 0 then 1 else 0))) r s u
/-- isEmpty() of a String of n chars -/
theorem law (l : Launch) (x t : Addr) (V : Cell) (cd : Int32) (n : Nat) (f : Nat → Int32) : Law l yN 1 0 0 0 yB 1 (some .boolean) site (P x t V cd n f) (E n) [] 0 0 := by
  refine Law.of_walk (plainFor_of_name (by decide +kernel)) (by decide +kernel) (by decide +kernel) (by decide) (fun _ _ h => by rw [h.1]; rfl) (fun _ U U' hal hh h => ⟨h.1, h.2.mv hal hh⟩) (fun r U U' V V' h1 hal h2 h => XT.PureE.mv r U U' V V' h1 hal h2 h) ?_
  intro p e s m args below meth c s₁ X0 hexec hbytes hml hret hlk hnm hown hh0 W hP
  obtain ⟨rfl, hx⟩ := hP
  have v31 := hx.2.2.2.1.2.2.2
  have c1 : Steps p.tables e below (s₁.setTop (entryFrame m #[.ref x] 1)) (s₁.setTop (mkF m 1 #[.val (.ref x)] [.ref x])) := Steps.trans (entry rfl) (by
    show Steps p.tables e below (s₁.setTop (mkF m 0 #[.val (.ref x)] [])) _
    refine XS.aloadN X0.here hexec rfl (hb hbytes d0) rfl rfl ?_
    exact Steps.refl _)
  obtain ⟨T2, X2, q2, st2⟩ := X0.hget hexec hown (wk W (.fieldLink "java/lang/String" 9 "java/lang/String" "value" "[B")) (hx.mv X0.warmed.alike hh0).2.1 (g := (mkF m 1 #[.val (.ref x)] [.ref x])) rfl (rest := []) rfl (hb hbytes d1)
  have hh2 := q2.trans hh0
  have hx2 := hx.mv X2.warmed.alike hh2
  have c3 : Steps p.tables e below (s₁.setTop (entryFrame m #[.ref x] 1)) (T2.setTop (mkF m 5 #[.val (.ref x)] [.int (Int32.ofNat V.slots.size)])) := (c1.trans (st2 _ (Steps.refl _))).trans (by
    refine X2.alen hexec hx2.2.2.2.1 rfl rfl (hb hbytes d4) ?_
    exact Steps.refl _)
  have hz : V.slots.size = 0 ↔ n = 0 := by
    rcases hx.2.2.2.2.1 with ⟨-, q, -⟩ | ⟨-, q, -⟩ <;> omega
  by_cases h0 : n = 0
  · have c4 : Steps p.tables e below (s₁.setTop (entryFrame m #[.ref x] 1)) (T2.setTop (mkF m 13 #[.val (.ref x)] [.int 1])) := c3.trans (by
      refine XS.ifNo X2.here hexec rfl (hb hbytes d5) rfl (i0_ne_f (by rw [hz.mpr h0]; rfl)) ?_
      refine iconstV X2.here hexec rfl 1 (hb hbytes d8) (by decide) ?_
      refine XS.goto X2.here hexec rfl (pc0 := 9) rfl (hb hbytes d9) (by decide) rfl ?_
      exact Steps.refl _)
    exact ⟨T2, some (.int 1), _, _, _, X2, rfl, rfl, rfl, (fun h => by cases h), ⟨by rw [if_pos h0], hh2⟩, fun fs hl => c4.trans (X2.ireturnOut hexec hret rfl (Or.inr (Or.inl rfl)) (hb hbytes d13) hl)⟩
  · have c4 : Steps p.tables e below (s₁.setTop (entryFrame m #[.ref x] 1)) (T2.setTop (mkF m 13 #[.val (.ref x)] [.int 0])) := c3.trans (by
      refine XS.ifYes X2.here hexec rfl (pc0 := 5) rfl (hb hbytes d5) rfl (i0_ne_t (nz32 v31 (by omega))) (by decide) rfl ?_
      refine iconstV X2.here hexec rfl 0 (hb hbytes d12) (by decide) ?_
      exact Steps.refl _)
    exact ⟨T2, some (.int 0), _, _, _, X2, rfl, rfl, rfl, (fun h => by cases h), ⟨by rw [if_neg h0], hh2⟩, fun fs hl => c4.trans (X2.ireturnOut hexec hret rfl (Or.inr (Or.inl rfl)) (hb hbytes d13) hl)⟩
theorem pays {l : Launch} {R : Room} {p : Program} {e : Env} {below : List Frame} {s : State} {sargs : Array Value} {len W : Nat} (x t : Addr) (V : Cell) (cd : Int32) (n : Nat) (f : Nat → Int32) (htab : tab.before sargs s = true) (hfr : 1 ≤ R.frames) (hlo : W + 12 ≤ R.locals) :
    Back l R p e below s sargs yN len W (fun A₁ a₁ => A₁.cells + 0 ≤ R.cells ∧ A₁.slots + 0 ≤ R.slots ∧ P x t V cd n f a₁ A₁.U) (fun A₁ _ v₁ B₁ => E n v₁ A₁.U B₁.U ∧ B₁.locs = A₁.locs ++ [] ∧ B₁.cells = A₁.cells + 0 ∧ B₁.slots = A₁.slots + 0) :=
  (law l x t V cd n f).pays htab hfr (by omega)
end Emp
end StrChars
namespace StrChars.Road
open Jvm Sem ClassFile Op Lib Jvm.Stand Jvm.Free Jvm.Free.XT
open Jvm.Lib.Cold (StaticIs)
/-- the words of String.isEmpty() -/
abbrev wordsEmp : List Jvm.Cond := [.code Emp.yN Emp.yB 1 (some .boolean), .initialized ST, .fieldLink ST 9 ST "value" "[B"]
theorem tabEmp_of {a : Array Value} {s : State} (h : ∀ w ∈ wordsEmp, w.before a s = true) : Emp.tab.before a s = true := unparts (wk h (.code Emp.yN Emp.yB 1 (some .boolean))) (wks h (.initialized Emp.yN.cls :: Emp.site))
theorem movedEmp {Z s : State} {a0 args : Array Value} (hZ : Z.Warmed39 s.vm) (hw : ∀ d ∈ wordsEmp, d.before a0 Z = true) : ∀ d ∈ wordsEmp, d.before args s = true := fun d hd => by
  have t : ∀ d ∈ wordsEmp, (d.onTables && d.keepsFace) = true := by decide +kernel
  exact RoadKit.mv hZ (hw d hd) (t d hd)
/-- the road's facts of a String, as the laws ask it -/
theorem txt_of {Z U : State} {a0 : Array Value} {kI : Nat} (wi : (Jvm.Cond.instantiable ST kI).before a0 Z = true) (al : Z.vm.Alike U.vm) {x t : Addr} {kb : ClassId} {cs : List Int32} {cd N2 : Int32} {vs : List Value} (E : RoadKit.Exa Z U.heap x ST) (V : RoadKit.Fld Z U.heap x ST "value" "[B" (.ref t)) (C : RoadKit.Fld Z U.heap x ST "coder" "B" (.int cd)) (K : RoadKit.Arv Z U.heap t kb .byte N2 vs (.int 0)) (hc : CodA cs cd N2 vs) (hb : ∀ c ∈ cs, ¬ c < 0 ∧ ¬ (65535 : Int32) < c) (l2 : cs.length ≤ 4000) :
    ∃ A, Txt x t A cd cs.length (fun j => cs.getD j 0) U := by
  obtain ⟨A, K1, K2, K3, K4, K5, K6⟩ := K
  have hcod := hc.cod (by omega) K3 K5
  obtain ⟨D, fV, fC, hB, F1, F2, g1, g2, -, -⟩ := strObj wi al E V C
  exact ⟨A, ⟨_, hB.2.2.1, D, hB.1, rfl, by cases q : D.vm <;> first | rfl | exact absurd q (hB.2.1.2 _)⟩, Has.of hB F1 g1, Has.of hB F2 g2, ⟨K1.1, State.isArrayOf_alike al K1.2.1, K1.2.2, by rcases hcod with ⟨-, q, -⟩ | ⟨-, q, -⟩ <;> omega⟩, hcod, fun j hj => by
    have e : cs.getD j 0 = cs[j] := by simp [List.getD_eq_getElem?_getD, hj]
    show ¬ cs.getD j 0 < 0 ∧ ¬ 65535 < cs.getD j 0
    rw [e]; exact hb _ (List.getElem_mem _)⟩
/-- **isEmpty() OF SUCH A STRING** -/
theorem empW {p : Program} {l : Launch} {e : Env} {R : Room} {s : State} {args : Array Value} {below : List Frame} {len W : Nat} {Z : State} {a0 : Array Value} {h : Heap} (hZ : Z.Warmed39 s.vm) (hw : ∀ d ∈ wordsEmp, d.before a0 Z = true) {kI : Nat} (wi : (Jvm.Cond.instantiable ST kI).before a0 Z = true)
    {x t : Addr} {kb : ClassId} {cs : List Int32} {cd N2 : Int32} {vs : List Value} (E : RoadKit.Exa Z h x ST) (V : RoadKit.Fld Z h x ST "value" "[B" (.ref t)) (C : RoadKit.Fld Z h x ST "coder" "B" (.int cd)) (K : RoadKit.Arv Z h t kb .byte N2 vs (.int 0)) (hc : CodA cs cd N2 vs) (hb : ∀ c ∈ cs, ¬ c < 0 ∧ ¬ (65535 : Int32) < c) (l2 : cs.length ≤ 4000) (hfr : 1 ≤ R.frames) (hlo : W + 12 ≤ R.locals) :
    Back l R p e below s args (⟨"java/lang/String", "isEmpty", "()Z"⟩ : MethodName) len W (fun P a => a = #[.ref x] ∧ P.U.heap = h ∧ P.cells + 0 ≤ R.cells ∧ P.slots + 0 ≤ R.slots)
      (fun P _ v B => ∃ L, (v = some (.int (if cs.length = 0 then 1 else 0)) ∧ L = [] ∧ B.U.heap = h) ∧ B.locs = P.locs ++ L ∧ B.cells = P.cells + 0 ∧ B.slots = P.slots + 0) := by
  intro m meth c P g ig mk a X hg hsize hdg hW hn hp'
  obtain ⟨rfl, rfl, r1, r2⟩ := hp'
  have al : Z.vm.Alike P.U.vm := hZ.alike.trans X.warmed.alike
  obtain ⟨A, hx⟩ := txt_of wi al E V C K hc hb l2
  obtain ⟨v, B, X', ⟨⟨hv, hh⟩, hl, hk, hs⟩, st⟩ := Emp.pays x t A cd cs.length (fun j => cs.getD j 0) (tabEmp_of (movedEmp hZ hw)) hfr hlo m meth c P g ig mk _ X hg hsize hdg hW hn ⟨r1, r2, rfl, hx⟩
  exact ⟨v, B, X', ⟨[], ⟨hv, rfl, hh⟩, hl, hk, hs⟩, st⟩
end StrChars.Road
namespace StrChars.Road
open Jvm Sem ClassFile Op Lib Jvm.Stand Jvm.Free Jvm.Free.XT
open Jvm.Lib.Cold (StaticIs)
/-- what backV says of its String, as the contracts of this text ask it: cs's low bytes, coder 0 -/
theorem codOf {cs : List Int32} {n : Nat} (hn : cs.length = n) (hb : ∀ c ∈ cs, ¬ 255 < c) : CodA cs 0 (Int32.ofNat n) ((cs.map lo8).map Value.int) := Or.inl ⟨rfl, by rw [hn], by simp [List.map_map, Function.comp_def], hb⟩
end StrChars.Road
end Jvm.Pilot.@@N@@
namespace Jvm.Pilot.@@N@@
open Jvm Jvm.ClassFile Sem Op Lib Jvm.Free Jvm.Stand Jvm.LawKit Jvm.RoadKit Bundle Jvm.Pilot.@@N@@.Jvm.D
theorem tw {Z : State} {a0 : Array Value} (hw : ∀ d ∈ tables_1, d.before a0 Z = true) (i : Nat) {d : Jvm.Cond} (h : tables_1[i]? = some d) : d.before a0 Z = true := hw d (List.mem_of_getElem? h)
abbrev MF (l : Launch) (Z : State) (y : MethodName) (cd : Jvm.Cond) (ws : List Jvm.Cond) (rm : Room) (A : Array Value) (h0 : Heap) (Q : Option Value → Heap → List Loc → Prop) : Prop := MetFree l y (head1 (cd :: ws) rm) (fun a U => a = A ∧ Z.Warmed39 U.vm ∧ U.heap = h0) (fun _ _ _ _ _ => True) (fun _ U o U' => ∃ v L, o = .returned v ∧ Q v U'.heap L ∧ FrameEnd U o U' L rm.cells rm.slots)
def Fine (p : Program) (e : Env) (below : List Frame) (s : State) (n0 : Nat) (S0 : State) : Prop := ∃ s₂ o, Steps p.tables e below S0 s₂ ∧ s₂.status = .running ∧ Ended s₂ below o ∧ ∃ v L, o = .returned v ∧ (v = some (.int (1 : Int32)) ∧ Fr n0 L) ∧ FrameEnd s o s₂ L room_1.cells room_1.slots
theorem Fine.pre {p : Program} {e : Env} {below : List Frame} {s S0 S1 : State} {n0 : Nat} (k : ∀ t, Steps p.tables e below S1 t → Steps p.tables e below S0 t) (h : Fine p e below s n0 S1) : Fine p e below s n0 S0 := by
  obtain ⟨u, o, h1, h2⟩ := h; exact ⟨u, o, k _ h1, h2⟩
def FineW (p : Program) (e : Env) (below : List Frame) (s : State) (n0 : Nat) (S0 : State) : Prop := ∃ s₂ o, Steps p.tables e below S0 s₂ ∧ s₂.status = .running ∧ Ended s₂ below o ∧ ∃ v L, o = .returned v ∧ (v = some (.int (1 : Int32)) ∧ Fr n0 L) ∧ ReturnedEndW s o s₂ L room_1.cells room_1.slots
theorem FineW.pre {p : Program} {e : Env} {below : List Frame} {s S0 S1 : State} {n0 : Nat} (k : ∀ t, Steps p.tables e below S1 t → Steps p.tables e below S0 t) (h : FineW p e below s n0 S1) : FineW p e below s n0 S0 := by
  obtain ⟨u, o, h1, h2⟩ := h; exact ⟨u, o, k _ h1, h2⟩
abbrev MFW (l : Launch) (Z : State) (y : MethodName) (cd : Jvm.Cond) (ws : List Jvm.Cond) (rm : Room) (A : Array Value) (h0 : Heap) (Q : Option Value → Heap → List Loc → Prop) : Prop := MetFree l y (head1 (cd :: ws) rm) (fun a U => a = A ∧ Z.Warmed39 U.vm ∧ U.heap = h0) (fun _ _ _ _ _ => True) (fun _ U o U' => ∃ v L, o = .returned v ∧ Q v U'.heap L ∧ ReturnedEndW U o U' L rm.cells rm.slots)
abbrev SF (p : Program) (e : Env) (below : List Frame) (T : State) (g : JFrame) (t : State) : Prop := Steps p.tables e below (T.setTop g) t
abbrev HW (Z : State) (a0 : Array Value) : Prop := ∀ d ∈ tables_1, d.before a0 Z = true
theorem own_chars (x : Int32) : ¬ nar .char ((x &&& (255 : Int32)).toUInt32.toUInt16.toUInt32.toInt32) < 0 ∧ ¬ (255 : Int32) < nar .char ((x &&& (255 : Int32)).toUInt32.toUInt16.toUInt32.toInt32) := by
  have t : ∀ k : Fin 256, ¬ nar .char ((Int32.ofNat k.val).toUInt32.toUInt16.toUInt32.toInt32) < 0 ∧ ¬ (255 : Int32) < nar .char ((Int32.ofNat k.val).toUInt32.toUInt16.toUInt32.toInt32) := by decide +kernel
  have h : (x &&& 255).toBitVec.toNat < 256 := by
    simp only [Int32.toBitVec_and, BitVec.toNat_and]
    exact Nat.lt_succ_of_le Nat.and_le_right
  have e : (x &&& 255) = Int32.ofNat (x &&& 255).toBitVec.toNat := by
    apply Int32.toBitVec_inj.mp
    show _ = BitVec.ofNat 32 _
    rw [BitVec.ofNat_toNat]; simp
  rw [e]
  exact t ⟨_, h⟩
theorem own_up (cs : List Int32) (h : ∀ c ∈ cs, ¬ c < 0 ∧ ¬ (255 : Int32) < c) : ∀ c ∈ cs, ¬ c < 0 ∧ ¬ (65535 : Int32) < c := fun c hc => ⟨(h c hc).1, fun q => (h c hc).2 (by rw [Int32.lt_iff_toInt_lt] at q ⊢; have e1 : (65535 : Int32).toInt = 65535 := rfl; have e2 : (255 : Int32).toInt = 255 := rfl; omega)⟩
theorem d1_0 : decode method_2_code 0 = .ok (.iload_n 1, 1) := by decide +kernel
theorem d1_1 : decode method_2_code 1 = .ok (.sipush 255, 3) := by decide +kernel
theorem d1_4 : decode method_2_code 4 = .ok (.iand, 1) := by decide +kernel
theorem d1_5 : decode method_2_code 5 = .ok (.i2c, 1) := by decide +kernel
theorem d1_6 : decode method_2_code 6 = .ok (.istore_n 3, 1) := by decide +kernel
theorem d1_7 : decode method_2_code 7 = .ok (.iload_n 2, 1) := by decide +kernel
theorem d1_8 : decode method_2_code 8 = .ok (.sipush 255, 3) := by decide +kernel
theorem d1_11 : decode method_2_code 11 = .ok (.iand, 1) := by decide +kernel
theorem d1_12 : decode method_2_code 12 = .ok (.i2c, 1) := by decide +kernel
theorem d1_13 : decode method_2_code 13 = .ok (.istore 4, 2) := by decide +kernel
theorem d1_15 : decode method_2_code 15 = .ok (.iload_n 0, 1) := by decide +kernel
theorem d1_16 : decode method_2_code 16 = .ok (.iconst 1, 1) := by decide +kernel
theorem d1_17 : decode method_2_code 17 = .ok (.iand, 1) := by decide +kernel
theorem d1_18 : decode method_2_code 18 = .ok (.ifCond .eq 23, 3) := by decide +kernel
theorem d1_41 : decode method_2_code 41 = .ok (.new 7, 3) := by decide +kernel
theorem d1_44 : decode method_2_code 44 = .ok (.dup, 1) := by decide +kernel
theorem d1_45 : decode method_2_code 45 = .ok (.iconst 1, 1) := by decide +kernel
theorem d1_46 : decode method_2_code 46 = .ok (.newarray .char, 2) := by decide +kernel
theorem d1_48 : decode method_2_code 48 = .ok (.dup, 1) := by decide +kernel
theorem d1_49 : decode method_2_code 49 = .ok (.iconst 0, 1) := by decide +kernel
theorem d1_50 : decode method_2_code 50 = .ok (.iload_n 3, 1) := by decide +kernel
theorem d1_51 : decode method_2_code 51 = .ok (.castore, 1) := by decide +kernel
theorem d1_52 : decode method_2_code 52 = .ok (.invokespecial 9, 3) := by decide +kernel
theorem own_words : ∀ d ∈ StrChars.Road.words, d ∈ tables_1 := by decide +kernel
theorem pd_0 : parseMethodDescriptor "([C)V" = some ⟨[(.array .char)], none⟩ := by decide +kernel
theorem d1_55 : decode method_2_code 55 = .ok (.areturn, 1) := by decide +kernel
theorem pn_0 : plainName "com/example/qedbox/qedbox/KeywordHasDomainPinLaw" = true := by first | (simp [plainName, overriddenIn]; done) | decide +kernel
theorem ef_0 (m : MethodId) (x0 : Int32) (x1 : Int32) (x2 : Int32) : entryFrame m #[(.int x0), (.int x1), (.int x2)] 5 = mkF m 0 #[.val (.int x0), .val (.int x1), .val (.int x2), .unset, .unset] [] := by first | (simp [entryFrame, mkF, argsToLocals, Value.category]; done) | rfl
-- KeywordHasDomainPinLaw.draw 
def Q1_1 (Z : State) (u1 : Int32) (u2 : Int32) (u3 : Int32) (GC : Int32) (h0 : Heap) (n0 : Nat) (v : Option Value) (h : Heap) (L : List Loc) : Prop := ∃ e1x : Addr, ∃ e2x : Addr, ∃ e3x : ClassId, h0.size ≤ e1x ∧ h0.size ≤ e2x ∧ e1x ≠ e2x ∧ v = some (.ref e1x) ∧ Fr n0 L ∧ Keep h0 h [] ∧ Exa Z h e1x "java/lang/String" ∧ Fld Z h e1x "java/lang/String" "coder" "B" (.int 0) ∧ Fld Z h e1x "java/lang/String" "value" "[B" (.ref e2x) ∧ Arv Z h e2x e3x .byte (1 : Int32) (((([(nar .char ((u2 &&& (255 : Int32)).toUInt32.toUInt16.toUInt32.toInt32))] : List Int32)).map (fun c => c.toInt8.toInt32)).map Value.int) (.int (0 : Int32))
set_option maxRecDepth 65536 in
set_option maxHeartbeats 40000000 in
theorem rm1_1 (l : Launch) (Z : State) (a0 : Array Value) (hw : HW Z a0) (ws : List Jvm.Cond) (u1 : Int32) (u2 : Int32) (u3 : Int32) (GC : Int32) (h0 : Heap) (n0 : Nat) (Z0 : n0 ≤ h0.size) (P1 : (((u1.toUInt32 >>> ((1 : Int32) &&& 31).toUInt32).toInt32) &&& (1 : Int32)) = (0 : Int32)) (Sg0 : Sta Z Z.heap "java/lang/String" "COMPACT_STRINGS" "Z" (.int GC)) (P3 : Old Z n0 h0) (nzGC : ¬ (GC = (0 : Int32))) :
    MF l Z (⟨"com/example/qedbox/qedbox/KeywordHasDomainPinLaw", "draw", "(III)Ljava/lang/String;"⟩ : MethodName) (Jvm.Cond.code (⟨"com/example/qedbox/qedbox/KeywordHasDomainPinLaw", "draw", "(III)Ljava/lang/String;"⟩ : MethodName) method_2_code 5 (some (.object "java/lang/String"))) ws ({ frames := 4, cells := 3, slots := 6, locals := 66 } : Room) #[(.int ((u1.toUInt32 >>> ((1 : Int32) &&& 31).toUInt32).toInt32)), (.int u2), (.int u3)] h0 (Q1_1 Z u1 u2 u3 GC h0 n0) := by
  refine MetFree.of_bodySF (plainFor_of_name pn_0) hisR ?_
  intro p e s m args below meth c s₁ Bd hml0 hP hK
  obtain ⟨rfl, hZ, hh⟩ := hP
  have hx := Bd.exec
  have hby := Bd.bytes
  have hml : c.maxLocals = 5 := hml0
  have hown : s.vm.findClass "com/example/qedbox/qedbox/KeywordHasDomainPinLaw" = some m.cls := findClass_of_methodNamed Bd.named
  have hnm := (name_of_methodNamed Bd.named Bd.method).1
  have X0 : Stand p l e ({ frames := 4, cells := 3, slots := 6, locals := 66 } : Room) s m #[(.int ((u1.toUInt32 >>> ((1 : Int32) &&& 31).toUInt32).toInt32)), (.int u2), (.int u3)] below meth c s₁ [] 0 0 := Stand.of_body Bd
  have e0 : s₁.heap = h0 := by rw [← hh, Bd.state]; rfl
  have N0 := Fr.nil n0
  have pre0 : ∀ t, SF p e below s₁ (mkF m 0 #[iv ((u1.toUInt32 >>> ((1 : Int32) &&& 31).toUInt32).toInt32), iv u2, iv u3, .unset, .unset] []) t → SF p e below s₁ (entryFrame m #[(.int ((u1.toUInt32 >>> ((1 : Int32) &&& 31).toUInt32).toInt32)), (.int u2), (.int u3)] 5) t := fun t k => castTop (ef_0 m ((u1.toUInt32 >>> ((1 : Int32) &&& 31).toUInt32).toInt32) u2 u3) k
  obtain ⟨T1, h1, X1, e1, E1, A1, D1, -, st1⟩ := newO X0 hx hZ hown (tw hw 4 rfl) (tw hw 5 rfl) (tw hw 6 rfl) e0 (g := (mkF m 41 #[iv ((u1.toUInt32 >>> ((1 : Int32) &&& 31).toUInt32).toInt32), iv u2, iv u3, iv ((u2 &&& (255 : Int32)).toUInt32.toUInt16.toUInt32.toInt32), iv ((u3 &&& (255 : Int32)).toUInt32.toUInt16.toUInt32.toInt32)] [])) rfl (hb hby d1_41) (by decide) (by decide)
  obtain ⟨e1x, g1⟩ : ∃ z, z = h0.size := ⟨_, rfl⟩
  rw [← g1] at A1 D1 st1
  have K1 : Keep h0 h1 [] := (Keep.refl h0 []).ext E1
  have Fn2 : Fld Z h1 e1x "java/lang/String" "coder" "B" (.int 0) := D1 (Or.inr (tw hw 31 rfl)) (ty := .byte) (by decide)
  have Fn3 : Fld Z h1 e1x "java/lang/String" "value" "[B" .null := D1 (Or.inr (tw hw 33 rfl)) (ty := (.array .byte)) (by decide)
  obtain ⟨T4, h4, w8x, X4, e4, E4, A4, st4⟩ := newP X1 hx hZ (tw hw 7 rfl) e1 (g := (mkF m 46 #[iv ((u1.toUInt32 >>> ((1 : Int32) &&& 31).toUInt32).toInt32), iv u2, iv u3, iv ((u2 &&& (255 : Int32)).toUInt32.toUInt16.toUInt32.toInt32), iv ((u3 &&& (255 : Int32)).toUInt32.toUInt16.toUInt32.toInt32)] [(.int 1), (.ref e1x), (.ref e1x)])) rfl (hb hby d1_46) rfl (by decide) (cap := 1) (by decide) (by decide) (by decide) (by decide)
  obtain ⟨w7x, g4⟩ : ∃ z, z = h1.size := ⟨_, rfl⟩
  rw [← g4] at A4 st4
  have K4 : Keep h0 h4 [] := K1.ext E4
  have V4 : Arv Z h4 w7x w8x .char (1 : Int32) [(.int 0)] (.int (0 : Int32)) := (Arv.new A4 (by decide)).pad (pad_rep [] (.int (0 : Int32)) 1)
  obtain ⟨cl5, Ar5, q5, S5, N5z, H5, G5⟩ := id V4
  have hin5 : ¬ ((0 : Int32) < 0 ∨ cl5.slots.size ≤ ((0 : Int32)).toNatClampNeg) := inb_of S5 ⟨by decide, by decide⟩
  obtain ⟨T6, h6, X6, e6, W6, st6⟩ := stC X4 hx hZ e4 Ar5 (j := (0 : Int32)) hin5 (g := (mkF m 51 #[iv ((u1.toUInt32 >>> ((1 : Int32) &&& 31).toUInt32).toInt32), iv u2, iv u3, iv ((u2 &&& (255 : Int32)).toUInt32.toUInt16.toUInt32.toInt32), iv ((u3 &&& (255 : Int32)).toUInt32.toUInt16.toUInt32.toInt32)] [(.int ((u2 &&& (255 : Int32)).toUInt32.toUInt16.toUInt32.toInt32)), (.int 0), (.ref w7x), (.ref w7x), (.ref e1x), (.ref e1x)])) rfl rfl (hb hby d1_51)
  have Z1 : n0 ≤ h1.size := Nat.le_trans Z0 E1.1
  have g_b3 : n0 ≤ w7x := Nat.le_trans Z1 (Nat.le_of_eq g4.symm)
  have sz0_b3 : h0.size ≤ w7x := Nat.le_trans K1.1 (Nat.le_of_eq g4.symm)
  have K6 : Keep h0 h6 [] := K4.wr W6 (Or.inr sz0_b3)
  have N6 := Fr.snoc X6 N0 g_b3
  have V6 : Arv Z h6 w7x w8x .char (1 : Int32) [(.int (nar .char ((u2 &&& (255 : Int32)).toUInt32.toUInt16.toUInt32.toInt32)))] (.int (0 : Int32)) := Arv.set Ar5 q5 S5 N5z H5 G5 (fits_nar_char _) W6 0 rfl (Nat.le_of_ble_eq_true rfl)
  have F2_7 : Exa Z h4 e1x "java/lang/String" := A1.ext E4
  have F3_8 : Exa Z h6 e1x "java/lang/String" := F2_7.wr W6
  have F2_9 : Fld Z h4 e1x "java/lang/String" "value" "[B" .null := Fn3.ext E4
  have F3_10 : Fld Z h6 e1x "java/lang/String" "value" "[B" .null := F2_9.other W6 (Or.inl (Nat.ne_of_lt (Nat.lt_of_lt_of_le A1.lt (Nat.le_of_eq g4.symm))))
  have F2_11 : Fld Z h4 e1x "java/lang/String" "coder" "B" (.int 0) := Fn2.ext E4
  have F3_12 : Fld Z h6 e1x "java/lang/String" "coder" "B" (.int 0) := F2_11.other W6 (Or.inl (Nat.ne_of_lt (Nat.lt_of_lt_of_le A1.lt (Nat.le_of_eq g4.symm))))
  have hwwords : ∀ d ∈ StrChars.Road.words, d.before a0 Z = true := fun d hd => hw d (own_words d hd)
  have hp13 : ∀ c ∈ ([(nar .char ((u2 &&& (255 : Int32)).toUInt32.toUInt16.toUInt32.toInt32))] : List Int32), ¬ c < 0 ∧ ¬ (255 : Int32) < c := by
    intro c hc
    simp only [List.mem_cons, List.not_mem_nil, or_false] at hc
    subst hc
    · exact own_chars u2
  have O1 : Old Z n0 h1 := P3.ext E1
  have O4 : Old Z n0 h4 := O1.ext E4
  have O6 : Old Z n0 h6 := O4.wr W6 g_b3
  have g_b1 : n0 ≤ e1x := Nat.le_trans Z0 (Nat.le_of_eq g1.symm)
  have Z4 : n0 ≤ h4.size := Nat.le_trans Z1 E4.1
  have Z6 : n0 ≤ h6.size := Nat.le_trans Z4 (Keep.of_wr W6).1
  obtain ⟨_, _, ⟨T14, L14, k14x, n14⟩, -, X14, ⟨Lc14, hQ14, l14, y14, z14⟩, st14⟩ := X6.specialBack hx (y := (⟨"java/lang/String", "<init>", "([C)V"⟩ : MethodName)) rfl hown (mvT hZ (tw hw 8 rfl)) (mvT hZ (tw hw 9 rfl)) (mvT hZ (tw hw 10 rfl)) (by decide) (StrChars.Road.backV (W := 1) hZ hwwords (kI := 4) (tw hw 5 rfl) (cs := ([(nar .char ((u2 &&& (255 : Int32)).toUInt32.toUInt16.toUInt32.toInt32))] : List Int32)) (bs := ((([(nar .char ((u2 &&& (255 : Int32)).toUInt32.toUInt16.toUInt32.toInt32))] : List Int32)).map (fun c => c.toInt8.toInt32))) (n := 1) g_b1 Z6 F3_8 F3_10 F3_12 V6 (Sg0.ext O6.2) nzGC rfl rfl (by decide) (by decide) hp13 rfl (by decide) (by decide)) (g := (mkF m 52 #[iv ((u1.toUInt32 >>> ((1 : Int32) &&& 31).toUInt32).toInt32), iv u2, iv u3, iv ((u2 &&& (255 : Int32)).toUInt32.toUInt16.toUInt32.toInt32), iv ((u3 &&& (255 : Int32)).toUInt32.toUInt16.toUInt32.toInt32)] [(.ref w7x), (.ref e1x), (.ref e1x)])) rfl (by rw [hml]; rfl) (Steps.refl _) (a := e1x) (argsL := [(.ref w7x)]) (rest := [(.ref e1x)]) (lenOf pd_0 rfl) rfl (by show 2 * 0 + _ ≤ _; exact Nat.le_of_eq rfl) (hb hby d1_52) (fun _ _ => ⟨rfl, e6, (by decide : 2 + 1 ≤ _), (by decide : 5 + 1 ≤ _)⟩)
  dsimp only [Pt.U, Pt.locs, Pt.cells, Pt.slots] at X14 l14 y14 z14 st14 hQ14
  subst l14 y14 z14
  obtain ⟨rfl, N14q, K14c, Fx14, Fc14, e2x, e3x, gt14, bz_b4, ne14, Fv14, Va14⟩ := hQ14
  have sz0_b1 : h0.size ≤ e1x := Nat.le_trans (Keep.refl h0 []).1 (Nat.le_of_eq g1.symm)
  have K14 : Keep h0 T14.heap [] := K6.trans K14c (allS (Or.inr sz0_b1) all0)
  have N14 := Fr.app N6 N14q
  have sz0_b4 : h0.size ≤ e2x := Nat.le_trans K6.1 bz_b4
  have lt_b1_2 : e1x < h4.size := Nat.lt_of_lt_of_le A1.lt E4.1
  have lt_b1_3 : e1x < h6.size := Nat.lt_of_lt_of_le lt_b1_2 (Keep.of_wr W6).1
  obtain ⟨fs, hr, hrun, hended, hW, hsame⟩ := X14.leave (v := some (.ref e1x)) (fun h => by rw [Bd.returns] at h; cases h)
  refine ⟨_, _, pre0 _ ?_, hrun, hended, _, _, rfl, ?_, ⟨_, rfl⟩, hW, hsame.mono (by decide) (by decide)⟩
  · show SF p e below s₁ (mkF m 0 #[iv ((u1.toUInt32 >>> ((1 : Int32) &&& 31).toUInt32).toInt32), iv u2, iv u3, .unset, .unset] []) _
    refine XS.iloadN X0.here hx rfl (hb hby d1_0) rfl ?_
    refine XS.sipush X0.here hx rfl (hb hby d1_1) ?_
    show SF p e below s₁ (mkF m 4 #[iv ((u1.toUInt32 >>> ((1 : Int32) &&& 31).toUInt32).toInt32), iv u2, iv u3, .unset, .unset] [(.int 255), (.int u2)]) _
    refine XS.iand X0.here hx rfl (hb hby d1_4) rfl ?_
    show SF p e below s₁ (mkF m 5 #[iv ((u1.toUInt32 >>> ((1 : Int32) &&& 31).toUInt32).toInt32), iv u2, iv u3, .unset, .unset] [(.int (u2 &&& (255 : Int32)))]) _
    refine XS.i2c X0.here hx rfl (hb hby d1_5) rfl ?_
    show SF p e below s₁ (mkF m 6 #[iv ((u1.toUInt32 >>> ((1 : Int32) &&& 31).toUInt32).toInt32), iv u2, iv u3, .unset, .unset] [(.int ((u2 &&& (255 : Int32)).toUInt32.toUInt16.toUInt32.toInt32))]) _
    refine XS.istoreN X0.here hx rfl (hb hby d1_6) rfl (l' := #[iv ((u1.toUInt32 >>> ((1 : Int32) &&& 31).toUInt32).toInt32), iv u2, iv u3, iv ((u2 &&& (255 : Int32)).toUInt32.toUInt16.toUInt32.toInt32), .unset]) rfl ?_
    refine XS.iloadN X0.here hx rfl (hb hby d1_7) rfl ?_
    show SF p e below s₁ (mkF m 8 #[iv ((u1.toUInt32 >>> ((1 : Int32) &&& 31).toUInt32).toInt32), iv u2, iv u3, iv ((u2 &&& (255 : Int32)).toUInt32.toUInt16.toUInt32.toInt32), .unset] [(.int u3)]) _
    refine XS.sipush X0.here hx rfl (hb hby d1_8) ?_
    show SF p e below s₁ (mkF m 11 #[iv ((u1.toUInt32 >>> ((1 : Int32) &&& 31).toUInt32).toInt32), iv u2, iv u3, iv ((u2 &&& (255 : Int32)).toUInt32.toUInt16.toUInt32.toInt32), .unset] [(.int 255), (.int u3)]) _
    refine XS.iand X0.here hx rfl (hb hby d1_11) rfl ?_
    show SF p e below s₁ (mkF m 12 #[iv ((u1.toUInt32 >>> ((1 : Int32) &&& 31).toUInt32).toInt32), iv u2, iv u3, iv ((u2 &&& (255 : Int32)).toUInt32.toUInt16.toUInt32.toInt32), .unset] [(.int (u3 &&& (255 : Int32)))]) _
    refine XS.i2c X0.here hx rfl (hb hby d1_12) rfl ?_
    show SF p e below s₁ (mkF m 13 #[iv ((u1.toUInt32 >>> ((1 : Int32) &&& 31).toUInt32).toInt32), iv u2, iv u3, iv ((u2 &&& (255 : Int32)).toUInt32.toUInt16.toUInt32.toInt32), .unset] [(.int ((u3 &&& (255 : Int32)).toUInt32.toUInt16.toUInt32.toInt32))]) _
    refine XS.istore X0.here hx rfl (hb hby d1_13) rfl (l' := #[iv ((u1.toUInt32 >>> ((1 : Int32) &&& 31).toUInt32).toInt32), iv u2, iv u3, iv ((u2 &&& (255 : Int32)).toUInt32.toUInt16.toUInt32.toInt32), iv ((u3 &&& (255 : Int32)).toUInt32.toUInt16.toUInt32.toInt32)]) rfl ?_
    refine XS.iloadN X0.here hx rfl (hb hby d1_15) rfl ?_
    show SF p e below s₁ (mkF m 16 #[iv ((u1.toUInt32 >>> ((1 : Int32) &&& 31).toUInt32).toInt32), iv u2, iv u3, iv ((u2 &&& (255 : Int32)).toUInt32.toUInt16.toUInt32.toInt32), iv ((u3 &&& (255 : Int32)).toUInt32.toUInt16.toUInt32.toInt32)] [(.int ((u1.toUInt32 >>> ((1 : Int32) &&& 31).toUInt32).toInt32))]) _
    refine XS.iconst X0.here hx rfl (hb hby d1_16) ?_
    show SF p e below s₁ (mkF m 17 #[iv ((u1.toUInt32 >>> ((1 : Int32) &&& 31).toUInt32).toInt32), iv u2, iv u3, iv ((u2 &&& (255 : Int32)).toUInt32.toUInt16.toUInt32.toInt32), iv ((u3 &&& (255 : Int32)).toUInt32.toUInt16.toUInt32.toInt32)] [(.int 1), (.int ((u1.toUInt32 >>> ((1 : Int32) &&& 31).toUInt32).toInt32))]) _
    refine XS.iand X0.here hx rfl (hb hby d1_17) rfl ?_
    show SF p e below s₁ (mkF m 18 #[iv ((u1.toUInt32 >>> ((1 : Int32) &&& 31).toUInt32).toInt32), iv u2, iv u3, iv ((u2 &&& (255 : Int32)).toUInt32.toUInt16.toUInt32.toInt32), iv ((u3 &&& (255 : Int32)).toUInt32.toUInt16.toUInt32.toInt32)] [(.int (((u1.toUInt32 >>> ((1 : Int32) &&& 31).toUInt32).toInt32) &&& (1 : Int32)))]) _
    refine XS.ifYes X0.here hx rfl (pc0 := 18) (pc' := 41) rfl (hb hby d1_18) rfl ((if0 _ _).trans (teq P1).1) (by decide) (by decide) ?_
    show SF p e below s₁ (mkF m 41 #[iv ((u1.toUInt32 >>> ((1 : Int32) &&& 31).toUInt32).toInt32), iv u2, iv u3, iv ((u2 &&& (255 : Int32)).toUInt32.toUInt16.toUInt32.toInt32), iv ((u3 &&& (255 : Int32)).toUInt32.toUInt16.toUInt32.toInt32)] []) _
    refine st1 _ ?_
    show SF p e below T1 (mkF m 44 #[iv ((u1.toUInt32 >>> ((1 : Int32) &&& 31).toUInt32).toInt32), iv u2, iv u3, iv ((u2 &&& (255 : Int32)).toUInt32.toUInt16.toUInt32.toInt32), iv ((u3 &&& (255 : Int32)).toUInt32.toUInt16.toUInt32.toInt32)] [(.ref e1x)]) _
    refine XS.dup X1.here hx rfl (hb hby d1_44) rfl rfl ?_
    refine XS.iconst X1.here hx rfl (hb hby d1_45) ?_
    show SF p e below T1 (mkF m 46 #[iv ((u1.toUInt32 >>> ((1 : Int32) &&& 31).toUInt32).toInt32), iv u2, iv u3, iv ((u2 &&& (255 : Int32)).toUInt32.toUInt16.toUInt32.toInt32), iv ((u3 &&& (255 : Int32)).toUInt32.toUInt16.toUInt32.toInt32)] [(.int 1), (.ref e1x), (.ref e1x)]) _
    refine st4 _ ?_
    show SF p e below T4 (mkF m 48 #[iv ((u1.toUInt32 >>> ((1 : Int32) &&& 31).toUInt32).toInt32), iv u2, iv u3, iv ((u2 &&& (255 : Int32)).toUInt32.toUInt16.toUInt32.toInt32), iv ((u3 &&& (255 : Int32)).toUInt32.toUInt16.toUInt32.toInt32)] [(.ref w7x), (.ref e1x), (.ref e1x)]) _
    refine XS.dup X4.here hx rfl (hb hby d1_48) rfl rfl ?_
    refine XS.iconst X4.here hx rfl (hb hby d1_49) ?_
    show SF p e below T4 (mkF m 50 #[iv ((u1.toUInt32 >>> ((1 : Int32) &&& 31).toUInt32).toInt32), iv u2, iv u3, iv ((u2 &&& (255 : Int32)).toUInt32.toUInt16.toUInt32.toInt32), iv ((u3 &&& (255 : Int32)).toUInt32.toUInt16.toUInt32.toInt32)] [(.int 0), (.ref w7x), (.ref w7x), (.ref e1x), (.ref e1x)]) _
    refine XS.iloadN X4.here hx rfl (hb hby d1_50) rfl ?_
    show SF p e below T4 (mkF m 51 #[iv ((u1.toUInt32 >>> ((1 : Int32) &&& 31).toUInt32).toInt32), iv u2, iv u3, iv ((u2 &&& (255 : Int32)).toUInt32.toUInt16.toUInt32.toInt32), iv ((u3 &&& (255 : Int32)).toUInt32.toUInt16.toUInt32.toInt32)] [(.int ((u2 &&& (255 : Int32)).toUInt32.toUInt16.toUInt32.toInt32)), (.int 0), (.ref w7x), (.ref w7x), (.ref e1x), (.ref e1x)]) _
    refine st6 _ ?_
    show SF p e below T6 (mkF m 52 #[iv ((u1.toUInt32 >>> ((1 : Int32) &&& 31).toUInt32).toInt32), iv u2, iv u3, iv ((u2 &&& (255 : Int32)).toUInt32.toUInt16.toUInt32.toInt32), iv ((u3 &&& (255 : Int32)).toUInt32.toUInt16.toUInt32.toInt32)] [(.ref w7x), (.ref e1x), (.ref e1x)]) _
    refine st14.trans ?_
    show SF p e below T14 (mkF m 55 #[iv ((u1.toUInt32 >>> ((1 : Int32) &&& 31).toUInt32).toInt32), iv u2, iv u3, iv ((u2 &&& (255 : Int32)).toUInt32.toUInt16.toUInt32.toInt32), iv ((u3 &&& (255 : Int32)).toUInt32.toUInt16.toUInt32.toInt32)] [(.ref e1x)]) _
    exact own_retR X14 hx Bd.returns rfl rfl (hb hby d1_55) hr
  · show Q1_1 Z u1 u2 u3 GC h0 n0 _ T14.heap _
    exact ⟨e1x, e2x, e3x, sz0_b1, sz0_b4, (Nat.ne_of_lt (Nat.lt_of_lt_of_le lt_b1_3 bz_b4)), rfl, N14, K14, Fx14, Fc14, Fv14, Va14⟩
theorem pd_1 : parseMethodDescriptor "(III)Ljava/lang/String;" = some ⟨[.int, .int, .int], some (.object "java/lang/String")⟩ := by decide +kernel
-- KeywordHasDomainPinLaw.draw 
def Q1_2 (Z : State) (u1 : Int32) (u2 : Int32) (u3 : Int32) (GC : Int32) (h0 : Heap) (n0 : Nat) (v : Option Value) (h : Heap) (L : List Loc) : Prop := ∃ e1x : Addr, ∃ e2x : Addr, ∃ e3x : ClassId, h0.size ≤ e1x ∧ h0.size ≤ e2x ∧ e1x ≠ e2x ∧ v = some (.ref e1x) ∧ Fr n0 L ∧ Keep h0 h [] ∧ Exa Z h e1x "java/lang/String" ∧ Fld Z h e1x "java/lang/String" "coder" "B" (.int 0) ∧ Fld Z h e1x "java/lang/String" "value" "[B" (.ref e2x) ∧ Arv Z h e2x e3x .byte (1 : Int32) (((([(nar .char ((u2 &&& (255 : Int32)).toUInt32.toUInt16.toUInt32.toInt32))] : List Int32)).map (fun c => c.toInt8.toInt32)).map Value.int) (.int (0 : Int32))
set_option maxRecDepth 65536 in
set_option maxHeartbeats 40000000 in
theorem rm1_2 (l : Launch) (Z : State) (a0 : Array Value) (hw : HW Z a0) (ws : List Jvm.Cond) (u1 : Int32) (u2 : Int32) (u3 : Int32) (GC : Int32) (h0 : Heap) (n0 : Nat) (Z0 : n0 ≤ h0.size) (P1 : (((u1.toUInt32 >>> ((2 : Int32) &&& 31).toUInt32).toInt32) &&& (1 : Int32)) = (0 : Int32)) (Sg0 : Sta Z Z.heap "java/lang/String" "COMPACT_STRINGS" "Z" (.int GC)) (P3 : Old Z n0 h0) (nzGC : ¬ (GC = (0 : Int32))) :
    MF l Z (⟨"com/example/qedbox/qedbox/KeywordHasDomainPinLaw", "draw", "(III)Ljava/lang/String;"⟩ : MethodName) (Jvm.Cond.code (⟨"com/example/qedbox/qedbox/KeywordHasDomainPinLaw", "draw", "(III)Ljava/lang/String;"⟩ : MethodName) method_2_code 5 (some (.object "java/lang/String"))) ws ({ frames := 4, cells := 3, slots := 6, locals := 66 } : Room) #[(.int ((u1.toUInt32 >>> ((2 : Int32) &&& 31).toUInt32).toInt32)), (.int u2), (.int u3)] h0 (Q1_2 Z u1 u2 u3 GC h0 n0) := by
  refine MetFree.of_bodySF (plainFor_of_name pn_0) hisR ?_
  intro p e s m args below meth c s₁ Bd hml0 hP hK
  obtain ⟨rfl, hZ, hh⟩ := hP
  have hx := Bd.exec
  have hby := Bd.bytes
  have hml : c.maxLocals = 5 := hml0
  have hown : s.vm.findClass "com/example/qedbox/qedbox/KeywordHasDomainPinLaw" = some m.cls := findClass_of_methodNamed Bd.named
  have hnm := (name_of_methodNamed Bd.named Bd.method).1
  have X0 : Stand p l e ({ frames := 4, cells := 3, slots := 6, locals := 66 } : Room) s m #[(.int ((u1.toUInt32 >>> ((2 : Int32) &&& 31).toUInt32).toInt32)), (.int u2), (.int u3)] below meth c s₁ [] 0 0 := Stand.of_body Bd
  have e0 : s₁.heap = h0 := by rw [← hh, Bd.state]; rfl
  have N0 := Fr.nil n0
  have pre0 : ∀ t, SF p e below s₁ (mkF m 0 #[iv ((u1.toUInt32 >>> ((2 : Int32) &&& 31).toUInt32).toInt32), iv u2, iv u3, .unset, .unset] []) t → SF p e below s₁ (entryFrame m #[(.int ((u1.toUInt32 >>> ((2 : Int32) &&& 31).toUInt32).toInt32)), (.int u2), (.int u3)] 5) t := fun t k => castTop (ef_0 m ((u1.toUInt32 >>> ((2 : Int32) &&& 31).toUInt32).toInt32) u2 u3) k
  obtain ⟨T1, h1, X1, e1, E1, A1, D1, -, st1⟩ := newO X0 hx hZ hown (tw hw 4 rfl) (tw hw 5 rfl) (tw hw 6 rfl) e0 (g := (mkF m 41 #[iv ((u1.toUInt32 >>> ((2 : Int32) &&& 31).toUInt32).toInt32), iv u2, iv u3, iv ((u2 &&& (255 : Int32)).toUInt32.toUInt16.toUInt32.toInt32), iv ((u3 &&& (255 : Int32)).toUInt32.toUInt16.toUInt32.toInt32)] [])) rfl (hb hby d1_41) (by decide) (by decide)
  obtain ⟨e1x, g1⟩ : ∃ z, z = h0.size := ⟨_, rfl⟩
  rw [← g1] at A1 D1 st1
  have K1 : Keep h0 h1 [] := (Keep.refl h0 []).ext E1
  have Fn2 : Fld Z h1 e1x "java/lang/String" "coder" "B" (.int 0) := D1 (Or.inr (tw hw 31 rfl)) (ty := .byte) (by decide)
  have Fn3 : Fld Z h1 e1x "java/lang/String" "value" "[B" .null := D1 (Or.inr (tw hw 33 rfl)) (ty := (.array .byte)) (by decide)
  obtain ⟨T4, h4, w8x, X4, e4, E4, A4, st4⟩ := newP X1 hx hZ (tw hw 7 rfl) e1 (g := (mkF m 46 #[iv ((u1.toUInt32 >>> ((2 : Int32) &&& 31).toUInt32).toInt32), iv u2, iv u3, iv ((u2 &&& (255 : Int32)).toUInt32.toUInt16.toUInt32.toInt32), iv ((u3 &&& (255 : Int32)).toUInt32.toUInt16.toUInt32.toInt32)] [(.int 1), (.ref e1x), (.ref e1x)])) rfl (hb hby d1_46) rfl (by decide) (cap := 1) (by decide) (by decide) (by decide) (by decide)
  obtain ⟨w7x, g4⟩ : ∃ z, z = h1.size := ⟨_, rfl⟩
  rw [← g4] at A4 st4
  have K4 : Keep h0 h4 [] := K1.ext E4
  have V4 : Arv Z h4 w7x w8x .char (1 : Int32) [(.int 0)] (.int (0 : Int32)) := (Arv.new A4 (by decide)).pad (pad_rep [] (.int (0 : Int32)) 1)
  obtain ⟨cl5, Ar5, q5, S5, N5z, H5, G5⟩ := id V4
  have hin5 : ¬ ((0 : Int32) < 0 ∨ cl5.slots.size ≤ ((0 : Int32)).toNatClampNeg) := inb_of S5 ⟨by decide, by decide⟩
  obtain ⟨T6, h6, X6, e6, W6, st6⟩ := stC X4 hx hZ e4 Ar5 (j := (0 : Int32)) hin5 (g := (mkF m 51 #[iv ((u1.toUInt32 >>> ((2 : Int32) &&& 31).toUInt32).toInt32), iv u2, iv u3, iv ((u2 &&& (255 : Int32)).toUInt32.toUInt16.toUInt32.toInt32), iv ((u3 &&& (255 : Int32)).toUInt32.toUInt16.toUInt32.toInt32)] [(.int ((u2 &&& (255 : Int32)).toUInt32.toUInt16.toUInt32.toInt32)), (.int 0), (.ref w7x), (.ref w7x), (.ref e1x), (.ref e1x)])) rfl rfl (hb hby d1_51)
  have Z1 : n0 ≤ h1.size := Nat.le_trans Z0 E1.1
  have g_b11 : n0 ≤ w7x := Nat.le_trans Z1 (Nat.le_of_eq g4.symm)
  have sz0_b11 : h0.size ≤ w7x := Nat.le_trans K1.1 (Nat.le_of_eq g4.symm)
  have K6 : Keep h0 h6 [] := K4.wr W6 (Or.inr sz0_b11)
  have N6 := Fr.snoc X6 N0 g_b11
  have V6 : Arv Z h6 w7x w8x .char (1 : Int32) [(.int (nar .char ((u2 &&& (255 : Int32)).toUInt32.toUInt16.toUInt32.toInt32)))] (.int (0 : Int32)) := Arv.set Ar5 q5 S5 N5z H5 G5 (fits_nar_char _) W6 0 rfl (Nat.le_of_ble_eq_true rfl)
  have F2_7 : Exa Z h4 e1x "java/lang/String" := A1.ext E4
  have F3_8 : Exa Z h6 e1x "java/lang/String" := F2_7.wr W6
  have F2_9 : Fld Z h4 e1x "java/lang/String" "value" "[B" .null := Fn3.ext E4
  have F3_10 : Fld Z h6 e1x "java/lang/String" "value" "[B" .null := F2_9.other W6 (Or.inl (Nat.ne_of_lt (Nat.lt_of_lt_of_le A1.lt (Nat.le_of_eq g4.symm))))
  have F2_11 : Fld Z h4 e1x "java/lang/String" "coder" "B" (.int 0) := Fn2.ext E4
  have F3_12 : Fld Z h6 e1x "java/lang/String" "coder" "B" (.int 0) := F2_11.other W6 (Or.inl (Nat.ne_of_lt (Nat.lt_of_lt_of_le A1.lt (Nat.le_of_eq g4.symm))))
  have hwwords : ∀ d ∈ StrChars.Road.words, d.before a0 Z = true := fun d hd => hw d (own_words d hd)
  have hp13 : ∀ c ∈ ([(nar .char ((u2 &&& (255 : Int32)).toUInt32.toUInt16.toUInt32.toInt32))] : List Int32), ¬ c < 0 ∧ ¬ (255 : Int32) < c := by
    intro c hc
    simp only [List.mem_cons, List.not_mem_nil, or_false] at hc
    subst hc
    · exact own_chars u2
  have O1 : Old Z n0 h1 := P3.ext E1
  have O4 : Old Z n0 h4 := O1.ext E4
  have O6 : Old Z n0 h6 := O4.wr W6 g_b11
  have g_b9 : n0 ≤ e1x := Nat.le_trans Z0 (Nat.le_of_eq g1.symm)
  have Z4 : n0 ≤ h4.size := Nat.le_trans Z1 E4.1
  have Z6 : n0 ≤ h6.size := Nat.le_trans Z4 (Keep.of_wr W6).1
  obtain ⟨_, _, ⟨T14, L14, k14x, n14⟩, -, X14, ⟨Lc14, hQ14, l14, y14, z14⟩, st14⟩ := X6.specialBack hx (y := (⟨"java/lang/String", "<init>", "([C)V"⟩ : MethodName)) rfl hown (mvT hZ (tw hw 8 rfl)) (mvT hZ (tw hw 9 rfl)) (mvT hZ (tw hw 10 rfl)) (by decide) (StrChars.Road.backV (W := 1) hZ hwwords (kI := 4) (tw hw 5 rfl) (cs := ([(nar .char ((u2 &&& (255 : Int32)).toUInt32.toUInt16.toUInt32.toInt32))] : List Int32)) (bs := ((([(nar .char ((u2 &&& (255 : Int32)).toUInt32.toUInt16.toUInt32.toInt32))] : List Int32)).map (fun c => c.toInt8.toInt32))) (n := 1) g_b9 Z6 F3_8 F3_10 F3_12 V6 (Sg0.ext O6.2) nzGC rfl rfl (by decide) (by decide) hp13 rfl (by decide) (by decide)) (g := (mkF m 52 #[iv ((u1.toUInt32 >>> ((2 : Int32) &&& 31).toUInt32).toInt32), iv u2, iv u3, iv ((u2 &&& (255 : Int32)).toUInt32.toUInt16.toUInt32.toInt32), iv ((u3 &&& (255 : Int32)).toUInt32.toUInt16.toUInt32.toInt32)] [(.ref w7x), (.ref e1x), (.ref e1x)])) rfl (by rw [hml]; rfl) (Steps.refl _) (a := e1x) (argsL := [(.ref w7x)]) (rest := [(.ref e1x)]) (lenOf pd_0 rfl) rfl (by show 2 * 0 + _ ≤ _; exact Nat.le_of_eq rfl) (hb hby d1_52) (fun _ _ => ⟨rfl, e6, (by decide : 2 + 1 ≤ _), (by decide : 5 + 1 ≤ _)⟩)
  dsimp only [Pt.U, Pt.locs, Pt.cells, Pt.slots] at X14 l14 y14 z14 st14 hQ14
  subst l14 y14 z14
  obtain ⟨rfl, N14q, K14c, Fx14, Fc14, e2x, e3x, gt14, bz_b12, ne14, Fv14, Va14⟩ := hQ14
  have sz0_b9 : h0.size ≤ e1x := Nat.le_trans (Keep.refl h0 []).1 (Nat.le_of_eq g1.symm)
  have K14 : Keep h0 T14.heap [] := K6.trans K14c (allS (Or.inr sz0_b9) all0)
  have N14 := Fr.app N6 N14q
  have sz0_b12 : h0.size ≤ e2x := Nat.le_trans K6.1 bz_b12
  have lt_b9_2 : e1x < h4.size := Nat.lt_of_lt_of_le A1.lt E4.1
  have lt_b9_3 : e1x < h6.size := Nat.lt_of_lt_of_le lt_b9_2 (Keep.of_wr W6).1
  obtain ⟨fs, hr, hrun, hended, hW, hsame⟩ := X14.leave (v := some (.ref e1x)) (fun h => by rw [Bd.returns] at h; cases h)
  refine ⟨_, _, pre0 _ ?_, hrun, hended, _, _, rfl, ?_, ⟨_, rfl⟩, hW, hsame.mono (by decide) (by decide)⟩
  · show SF p e below s₁ (mkF m 0 #[iv ((u1.toUInt32 >>> ((2 : Int32) &&& 31).toUInt32).toInt32), iv u2, iv u3, .unset, .unset] []) _
    refine XS.iloadN X0.here hx rfl (hb hby d1_0) rfl ?_
    refine XS.sipush X0.here hx rfl (hb hby d1_1) ?_
    show SF p e below s₁ (mkF m 4 #[iv ((u1.toUInt32 >>> ((2 : Int32) &&& 31).toUInt32).toInt32), iv u2, iv u3, .unset, .unset] [(.int 255), (.int u2)]) _
    refine XS.iand X0.here hx rfl (hb hby d1_4) rfl ?_
    show SF p e below s₁ (mkF m 5 #[iv ((u1.toUInt32 >>> ((2 : Int32) &&& 31).toUInt32).toInt32), iv u2, iv u3, .unset, .unset] [(.int (u2 &&& (255 : Int32)))]) _
    refine XS.i2c X0.here hx rfl (hb hby d1_5) rfl ?_
    show SF p e below s₁ (mkF m 6 #[iv ((u1.toUInt32 >>> ((2 : Int32) &&& 31).toUInt32).toInt32), iv u2, iv u3, .unset, .unset] [(.int ((u2 &&& (255 : Int32)).toUInt32.toUInt16.toUInt32.toInt32))]) _
    refine XS.istoreN X0.here hx rfl (hb hby d1_6) rfl (l' := #[iv ((u1.toUInt32 >>> ((2 : Int32) &&& 31).toUInt32).toInt32), iv u2, iv u3, iv ((u2 &&& (255 : Int32)).toUInt32.toUInt16.toUInt32.toInt32), .unset]) rfl ?_
    refine XS.iloadN X0.here hx rfl (hb hby d1_7) rfl ?_
    show SF p e below s₁ (mkF m 8 #[iv ((u1.toUInt32 >>> ((2 : Int32) &&& 31).toUInt32).toInt32), iv u2, iv u3, iv ((u2 &&& (255 : Int32)).toUInt32.toUInt16.toUInt32.toInt32), .unset] [(.int u3)]) _
    refine XS.sipush X0.here hx rfl (hb hby d1_8) ?_
    show SF p e below s₁ (mkF m 11 #[iv ((u1.toUInt32 >>> ((2 : Int32) &&& 31).toUInt32).toInt32), iv u2, iv u3, iv ((u2 &&& (255 : Int32)).toUInt32.toUInt16.toUInt32.toInt32), .unset] [(.int 255), (.int u3)]) _
    refine XS.iand X0.here hx rfl (hb hby d1_11) rfl ?_
    show SF p e below s₁ (mkF m 12 #[iv ((u1.toUInt32 >>> ((2 : Int32) &&& 31).toUInt32).toInt32), iv u2, iv u3, iv ((u2 &&& (255 : Int32)).toUInt32.toUInt16.toUInt32.toInt32), .unset] [(.int (u3 &&& (255 : Int32)))]) _
    refine XS.i2c X0.here hx rfl (hb hby d1_12) rfl ?_
    show SF p e below s₁ (mkF m 13 #[iv ((u1.toUInt32 >>> ((2 : Int32) &&& 31).toUInt32).toInt32), iv u2, iv u3, iv ((u2 &&& (255 : Int32)).toUInt32.toUInt16.toUInt32.toInt32), .unset] [(.int ((u3 &&& (255 : Int32)).toUInt32.toUInt16.toUInt32.toInt32))]) _
    refine XS.istore X0.here hx rfl (hb hby d1_13) rfl (l' := #[iv ((u1.toUInt32 >>> ((2 : Int32) &&& 31).toUInt32).toInt32), iv u2, iv u3, iv ((u2 &&& (255 : Int32)).toUInt32.toUInt16.toUInt32.toInt32), iv ((u3 &&& (255 : Int32)).toUInt32.toUInt16.toUInt32.toInt32)]) rfl ?_
    refine XS.iloadN X0.here hx rfl (hb hby d1_15) rfl ?_
    show SF p e below s₁ (mkF m 16 #[iv ((u1.toUInt32 >>> ((2 : Int32) &&& 31).toUInt32).toInt32), iv u2, iv u3, iv ((u2 &&& (255 : Int32)).toUInt32.toUInt16.toUInt32.toInt32), iv ((u3 &&& (255 : Int32)).toUInt32.toUInt16.toUInt32.toInt32)] [(.int ((u1.toUInt32 >>> ((2 : Int32) &&& 31).toUInt32).toInt32))]) _
    refine XS.iconst X0.here hx rfl (hb hby d1_16) ?_
    show SF p e below s₁ (mkF m 17 #[iv ((u1.toUInt32 >>> ((2 : Int32) &&& 31).toUInt32).toInt32), iv u2, iv u3, iv ((u2 &&& (255 : Int32)).toUInt32.toUInt16.toUInt32.toInt32), iv ((u3 &&& (255 : Int32)).toUInt32.toUInt16.toUInt32.toInt32)] [(.int 1), (.int ((u1.toUInt32 >>> ((2 : Int32) &&& 31).toUInt32).toInt32))]) _
    refine XS.iand X0.here hx rfl (hb hby d1_17) rfl ?_
    show SF p e below s₁ (mkF m 18 #[iv ((u1.toUInt32 >>> ((2 : Int32) &&& 31).toUInt32).toInt32), iv u2, iv u3, iv ((u2 &&& (255 : Int32)).toUInt32.toUInt16.toUInt32.toInt32), iv ((u3 &&& (255 : Int32)).toUInt32.toUInt16.toUInt32.toInt32)] [(.int (((u1.toUInt32 >>> ((2 : Int32) &&& 31).toUInt32).toInt32) &&& (1 : Int32)))]) _
    refine XS.ifYes X0.here hx rfl (pc0 := 18) (pc' := 41) rfl (hb hby d1_18) rfl ((if0 _ _).trans (teq P1).1) (by decide) (by decide) ?_
    show SF p e below s₁ (mkF m 41 #[iv ((u1.toUInt32 >>> ((2 : Int32) &&& 31).toUInt32).toInt32), iv u2, iv u3, iv ((u2 &&& (255 : Int32)).toUInt32.toUInt16.toUInt32.toInt32), iv ((u3 &&& (255 : Int32)).toUInt32.toUInt16.toUInt32.toInt32)] []) _
    refine st1 _ ?_
    show SF p e below T1 (mkF m 44 #[iv ((u1.toUInt32 >>> ((2 : Int32) &&& 31).toUInt32).toInt32), iv u2, iv u3, iv ((u2 &&& (255 : Int32)).toUInt32.toUInt16.toUInt32.toInt32), iv ((u3 &&& (255 : Int32)).toUInt32.toUInt16.toUInt32.toInt32)] [(.ref e1x)]) _
    refine XS.dup X1.here hx rfl (hb hby d1_44) rfl rfl ?_
    refine XS.iconst X1.here hx rfl (hb hby d1_45) ?_
    show SF p e below T1 (mkF m 46 #[iv ((u1.toUInt32 >>> ((2 : Int32) &&& 31).toUInt32).toInt32), iv u2, iv u3, iv ((u2 &&& (255 : Int32)).toUInt32.toUInt16.toUInt32.toInt32), iv ((u3 &&& (255 : Int32)).toUInt32.toUInt16.toUInt32.toInt32)] [(.int 1), (.ref e1x), (.ref e1x)]) _
    refine st4 _ ?_
    show SF p e below T4 (mkF m 48 #[iv ((u1.toUInt32 >>> ((2 : Int32) &&& 31).toUInt32).toInt32), iv u2, iv u3, iv ((u2 &&& (255 : Int32)).toUInt32.toUInt16.toUInt32.toInt32), iv ((u3 &&& (255 : Int32)).toUInt32.toUInt16.toUInt32.toInt32)] [(.ref w7x), (.ref e1x), (.ref e1x)]) _
    refine XS.dup X4.here hx rfl (hb hby d1_48) rfl rfl ?_
    refine XS.iconst X4.here hx rfl (hb hby d1_49) ?_
    show SF p e below T4 (mkF m 50 #[iv ((u1.toUInt32 >>> ((2 : Int32) &&& 31).toUInt32).toInt32), iv u2, iv u3, iv ((u2 &&& (255 : Int32)).toUInt32.toUInt16.toUInt32.toInt32), iv ((u3 &&& (255 : Int32)).toUInt32.toUInt16.toUInt32.toInt32)] [(.int 0), (.ref w7x), (.ref w7x), (.ref e1x), (.ref e1x)]) _
    refine XS.iloadN X4.here hx rfl (hb hby d1_50) rfl ?_
    show SF p e below T4 (mkF m 51 #[iv ((u1.toUInt32 >>> ((2 : Int32) &&& 31).toUInt32).toInt32), iv u2, iv u3, iv ((u2 &&& (255 : Int32)).toUInt32.toUInt16.toUInt32.toInt32), iv ((u3 &&& (255 : Int32)).toUInt32.toUInt16.toUInt32.toInt32)] [(.int ((u2 &&& (255 : Int32)).toUInt32.toUInt16.toUInt32.toInt32)), (.int 0), (.ref w7x), (.ref w7x), (.ref e1x), (.ref e1x)]) _
    refine st6 _ ?_
    show SF p e below T6 (mkF m 52 #[iv ((u1.toUInt32 >>> ((2 : Int32) &&& 31).toUInt32).toInt32), iv u2, iv u3, iv ((u2 &&& (255 : Int32)).toUInt32.toUInt16.toUInt32.toInt32), iv ((u3 &&& (255 : Int32)).toUInt32.toUInt16.toUInt32.toInt32)] [(.ref w7x), (.ref e1x), (.ref e1x)]) _
    refine st14.trans ?_
    show SF p e below T14 (mkF m 55 #[iv ((u1.toUInt32 >>> ((2 : Int32) &&& 31).toUInt32).toInt32), iv u2, iv u3, iv ((u2 &&& (255 : Int32)).toUInt32.toUInt16.toUInt32.toInt32), iv ((u3 &&& (255 : Int32)).toUInt32.toUInt16.toUInt32.toInt32)] [(.ref e1x)]) _
    exact own_retR X14 hx Bd.returns rfl rfl (hb hby d1_55) hr
  · show Q1_2 Z u1 u2 u3 GC h0 n0 _ T14.heap _
    exact ⟨e1x, e2x, e3x, sz0_b9, sz0_b12, (Nat.ne_of_lt (Nat.lt_of_lt_of_le lt_b9_3 bz_b12)), rfl, N14, K14, Fx14, Fc14, Fv14, Va14⟩
theorem d8_0 : decode prog_8_method_1_code 0 = .ok (.aload_n 0, 1) := by decide +kernel
theorem d8_1 : decode prog_8_method_1_code 1 = .ok (.invokespecial 1, 3) := by decide +kernel
theorem d9_0 : decode jdk_30_method_1_code 0 = .ok (.aload_n 0, 1) := by decide +kernel
theorem d9_1 : decode jdk_30_method_1_code 1 = .ok (.invokespecial 1, 3) := by decide +kernel
theorem d9_4 : decode jdk_30_method_1_code 4 = .ok (.return_, 1) := by decide +kernel
theorem pn_1 : plainName "java/lang/Record" = true := by first | (simp [plainName, overriddenIn]; done) | decide +kernel
theorem ef_1 (m : MethodId) (x0 : Addr) : entryFrame m #[(.ref x0)] 1 = mkF m 0 #[.val (.ref x0)] [] := by first | (simp [entryFrame, mkF, argsToLocals, Value.category]; done) | rfl
-- Record.init 
def Q9_3 (Z : State) (u1 : Addr) (h0 : Heap) (n0 : Nat) (v : Option Value) (h : Heap) (L : List Loc) : Prop := v = none ∧ Fr n0 L ∧ h = h0
set_option maxRecDepth 65536 in
set_option maxHeartbeats 40000000 in
theorem rm9_3 (l : Launch) (Z : State) (a0 : Array Value) (hw : HW Z a0) (ws : List Jvm.Cond) (u1 : Addr) (h0 : Heap) (n0 : Nat) (Z0 : n0 ≤ h0.size) :
    MF l Z (⟨"java/lang/Record", "<init>", "()V"⟩ : MethodName) (Jvm.Cond.code (⟨"java/lang/Record", "<init>", "()V"⟩ : MethodName) jdk_30_method_1_code 1 none) ws ({ frames := 1, cells := 0, slots := 0, locals := 12 } : Room) #[(.ref u1)] h0 (Q9_3 Z u1 h0 n0) := by
  refine MetFree.of_bodySF (plainFor_of_name pn_1) hisR ?_
  intro p e s m args below meth c s₁ Bd hml0 hP hK
  obtain ⟨rfl, hZ, hh⟩ := hP
  have hx := Bd.exec
  have hby := Bd.bytes
  have hml : c.maxLocals = 1 := hml0
  have hown : s.vm.findClass "java/lang/Record" = some m.cls := findClass_of_methodNamed Bd.named
  have hnm := (name_of_methodNamed Bd.named Bd.method).1
  have X0 : Stand p l e ({ frames := 1, cells := 0, slots := 0, locals := 12 } : Room) s m #[(.ref u1)] below meth c s₁ [] 0 0 := Stand.of_body Bd
  have e0 : s₁.heap = h0 := by rw [← hh, Bd.state]; rfl
  have N0 := Fr.nil n0
  have pre0 : ∀ t, SF p e below s₁ (mkF m 0 #[rv u1] []) t → SF p e below s₁ (entryFrame m #[(.ref u1)] 1) t := fun t k => castTop (ef_1 m u1) k
  obtain ⟨T1, X1, e1, st1⟩ := initO X0 hx hZ hown (tw hw 45 rfl) (tw hw 16 rfl) (tw hw 17 rfl) e0 (g := (mkF m 1 #[rv u1] [(.ref u1)])) rfl (by rw [hml]; rfl) rfl (hb hby d9_1) (by decide) (W := 0) (by show 2 * 0 + _ ≤ _; exact Nat.le_of_eq rfl) (by decide)
  obtain ⟨fs, hr, hrun, hended, hW, hsame⟩ := X1.leave (v := none) (fun _ => rfl)
  refine ⟨_, _, pre0 _ ?_, hrun, hended, _, _, rfl, ?_, ⟨_, rfl⟩, hW, hsame.mono (by decide) (by decide)⟩
  · show SF p e below s₁ (mkF m 0 #[rv u1] []) _
    refine XS.aloadN X0.here hx rfl (hb hby d9_0) rfl rfl ?_
    show SF p e below s₁ (mkF m 1 #[rv u1] [(.ref u1)]) _
    refine st1 _ ?_
    show SF p e below T1 (mkF m 4 #[rv u1] []) _
    exact X1.returnOut hx Bd.returns (hb hby d9_4) hr
  · show Q9_3 Z u1 h0 n0 _ T1.heap _
    rw [e1]
    exact ⟨rfl, N0, rfl⟩
theorem pd_2 : parseMethodDescriptor "()V" = some ⟨[], none⟩ := by decide +kernel
theorem d8_4 : decode prog_8_method_1_code 4 = .ok (.aload_n 2, 1) := by decide +kernel
theorem d8_5 : decode prog_8_method_1_code 5 = .ok (.ldc 7, 2) := by decide +kernel
theorem own_strA : ∀ d ∈ Bundle.stringAtoms, d ∈ tables_1 := by decide +kernel
theorem d8_7 : decode prog_8_method_1_code 7 = .ok (.invokestatic 9, 3) := by decide +kernel
theorem d10_0 : decode jdk_31_method_11_code 0 = .ok (.aload_n 0, 1) := by decide +kernel
theorem d10_1 : decode jdk_31_method_11_code 1 = .ok (.ifnonnull 12, 3) := by decide +kernel
theorem d10_13 : decode jdk_31_method_11_code 13 = .ok (.aload_n 0, 1) := by decide +kernel
theorem d10_14 : decode jdk_31_method_11_code 14 = .ok (.areturn, 1) := by decide +kernel
theorem pn_2 : plainName "java/util/Objects" = true := by first | (simp [plainName, overriddenIn]; done) | decide +kernel
theorem ef_2 (m : MethodId) (x0 : Addr) (x1 : Addr) : entryFrame m #[(.ref x0), (.ref x1)] 2 = mkF m 0 #[.val (.ref x0), .val (.ref x1)] [] := by first | (simp [entryFrame, mkF, argsToLocals, Value.category]; done) | rfl
-- Objects.requireNonNull 
def Q10_4 (Z : State) (u1 : Addr) (u2 : Addr) (h0 : Heap) (n0 : Nat) (v : Option Value) (h : Heap) (L : List Loc) : Prop := v = some (.ref u1) ∧ Fr n0 L ∧ h = h0
set_option maxRecDepth 65536 in
set_option maxHeartbeats 40000000 in
theorem rm10_4 (l : Launch) (Z : State) (a0 : Array Value) (hw : HW Z a0) (ws : List Jvm.Cond) (u1 : Addr) (u2 : Addr) (h0 : Heap) (n0 : Nat) (Z0 : n0 ≤ h0.size) :
    MF l Z (⟨"java/util/Objects", "requireNonNull", "(Ljava/lang/Object;Ljava/lang/String;)Ljava/lang/Object;"⟩ : MethodName) (Jvm.Cond.code (⟨"java/util/Objects", "requireNonNull", "(Ljava/lang/Object;Ljava/lang/String;)Ljava/lang/Object;"⟩ : MethodName) jdk_31_method_11_code 2 (some (.object "java/lang/Object"))) ws ({ frames := 0, cells := 0, slots := 0, locals := 0 } : Room) #[(.ref u1), (.ref u2)] h0 (Q10_4 Z u1 u2 h0 n0) := by
  refine MetFree.of_bodySF (plainFor_of_name pn_2) hisR ?_
  intro p e s m args below meth c s₁ Bd hml0 hP hK
  obtain ⟨rfl, hZ, hh⟩ := hP
  have hx := Bd.exec
  have hby := Bd.bytes
  have hml : c.maxLocals = 2 := hml0
  have hown : s.vm.findClass "java/util/Objects" = some m.cls := findClass_of_methodNamed Bd.named
  have hnm := (name_of_methodNamed Bd.named Bd.method).1
  have X0 : Stand p l e ({ frames := 0, cells := 0, slots := 0, locals := 0 } : Room) s m #[(.ref u1), (.ref u2)] below meth c s₁ [] 0 0 := Stand.of_body Bd
  have e0 : s₁.heap = h0 := by rw [← hh, Bd.state]; rfl
  have N0 := Fr.nil n0
  have pre0 : ∀ t, SF p e below s₁ (mkF m 0 #[rv u1, rv u2] []) t → SF p e below s₁ (entryFrame m #[(.ref u1), (.ref u2)] 2) t := fun t k => castTop (ef_2 m u1 u2) k
  obtain ⟨fs, hr, hrun, hended, hW, hsame⟩ := X0.leave (v := some (.ref u1)) (fun h => by rw [Bd.returns] at h; cases h)
  refine ⟨_, _, pre0 _ ?_, hrun, hended, _, _, rfl, ?_, ⟨_, rfl⟩, hW, hsame.mono (by decide) (by decide)⟩
  · show SF p e below s₁ (mkF m 0 #[rv u1, rv u2] []) _
    refine XS.aloadN X0.here hx rfl (hb hby d10_0) rfl rfl ?_
    show SF p e below s₁ (mkF m 1 #[rv u1, rv u2] [(.ref u1)]) _
    refine XS.ifnonnullYes X0.here hx rfl (pc0 := 1) (pc' := 13) rfl (hb hby d10_1) rfl (by decide) (by decide) ?_
    show SF p e below s₁ (mkF m 13 #[rv u1, rv u2] []) _
    refine XS.aloadN X0.here hx rfl (hb hby d10_13) rfl rfl ?_
    show SF p e below s₁ (mkF m 14 #[rv u1, rv u2] [(.ref u1)]) _
    exact own_retR X0 hx Bd.returns rfl rfl (hb hby d10_14) hr
  · show Q10_4 Z u1 u2 h0 n0 _ s₁.heap _
    rw [e0]
    exact ⟨rfl, N0, rfl⟩
theorem pd_3 : parseMethodDescriptor "(Ljava/lang/Object;Ljava/lang/String;)Ljava/lang/Object;" = some ⟨[(.object "java/lang/Object"), (.object "java/lang/String")], some (.object "java/lang/Object")⟩ := by decide +kernel
theorem d8_10 : decode prog_8_method_1_code 10 = .ok (.pop, 1) := by decide +kernel
theorem d8_11 : decode prog_8_method_1_code 11 = .ok (.aload_n 1, 1) := by decide +kernel
theorem d8_12 : decode prog_8_method_1_code 12 = .ok (.ifnull 20, 3) := by decide +kernel
theorem d8_32 : decode prog_8_method_1_code 32 = .ok (.aload_n 2, 1) := by decide +kernel
theorem d8_33 : decode prog_8_method_1_code 33 = .ok (.invokevirtual 15, 3) := by decide +kernel
theorem own_wordsEmp : ∀ d ∈ StrChars.Road.wordsEmp, d ∈ tables_1 := by decide +kernel
theorem pd_4 : parseMethodDescriptor "()Z" = some ⟨[], some .boolean⟩ := by decide +kernel
theorem d8_36 : decode prog_8_method_1_code 36 = .ok (.ifCond .eq 13, 3) := by decide +kernel
theorem d8_49 : decode prog_8_method_1_code 49 = .ok (.aload_n 0, 1) := by decide +kernel
theorem d8_50 : decode prog_8_method_1_code 50 = .ok (.aload_n 1, 1) := by decide +kernel
theorem d8_51 : decode prog_8_method_1_code 51 = .ok (.putfield 30, 3) := by decide +kernel
theorem d8_54 : decode prog_8_method_1_code 54 = .ok (.aload_n 0, 1) := by decide +kernel
theorem d8_55 : decode prog_8_method_1_code 55 = .ok (.aload_n 2, 1) := by decide +kernel
theorem d8_56 : decode prog_8_method_1_code 56 = .ok (.putfield 36, 3) := by decide +kernel
theorem d8_59 : decode prog_8_method_1_code 59 = .ok (.return_, 1) := by decide +kernel
theorem pn_3 : plainName "com/example/qedbox/qedbox/Keyword" = true := by first | (simp [plainName, overriddenIn]; done) | decide +kernel
theorem ef_3 (m : MethodId) (x0 : Addr) (x2 : Addr) : entryFrame m #[(.ref x0), .null, (.ref x2)] 3 = mkF m 0 #[.val (.ref x0), .val .null, .val (.ref x2)] [] := by first | (simp [entryFrame, mkF, argsToLocals, Value.category]; done) | rfl
-- Keyword.init 
def Q8_5 (Z : State) (u1 : Addr) (u2 : Addr) (u3 : Addr) (u4 : ClassId) (u5 : Int32) (h0 : Heap) (n0 : Nat) (v : Option Value) (h : Heap) (L : List Loc) : Prop := v = none ∧ Fr n0 L ∧ Keep h0 h [u1] ∧ Exa Z h u1 "com/example/qedbox/qedbox/Keyword" ∧ Fld Z h u1 "com/example/qedbox/qedbox/Keyword" "domain" "Ljava/lang/String;" .null ∧ Fld Z h u1 "com/example/qedbox/qedbox/Keyword" "value" "Ljava/lang/String;" (.ref u2)
set_option maxRecDepth 65536 in
set_option maxHeartbeats 40000000 in
theorem rm8_5 (l : Launch) (Z : State) (a0 : Array Value) (hw : HW Z a0) (ws : List Jvm.Cond) (u1 : Addr) (u2 : Addr) (u3 : Addr) (u4 : ClassId) (u5 : Int32) (h0 : Heap) (n0 : Nat) (Z0 : n0 ≤ h0.size) (P1 : Exa Z h0 u2 "java/lang/String") (P2 : Fld Z h0 u2 "java/lang/String" "value" "[B" (.ref u3)) (P3 : Fld Z h0 u2 "java/lang/String" "coder" "B" (.int 0)) (P4 : Arv Z h0 u3 u4 .byte (1 : Int32) (((([(nar .char ((u5 &&& (255 : Int32)).toUInt32.toUInt16.toUInt32.toInt32))] : List Int32)).map (fun c => c.toInt8.toInt32)).map Value.int) (.int (0 : Int32))) (P5 : Exa Z h0 u1 "com/example/qedbox/qedbox/Keyword") (P6 : Fld Z h0 u1 "com/example/qedbox/qedbox/Keyword" "domain" "Ljava/lang/String;" .null) (P7 : Fld Z h0 u1 "com/example/qedbox/qedbox/Keyword" "value" "Ljava/lang/String;" .null) (P8 : n0 ≤ u1) :
    MFW l Z (⟨"com/example/qedbox/qedbox/Keyword", "<init>", "(Ljava/lang/String;Ljava/lang/String;)V"⟩ : MethodName) (Jvm.Cond.code (⟨"com/example/qedbox/qedbox/Keyword", "<init>", "(Ljava/lang/String;Ljava/lang/String;)V"⟩ : MethodName) prog_8_method_1_code 3 none) ws ({ frames := 2, cells := 2, slots := 24, locals := 24 } : Room) #[(.ref u1), .null, (.ref u2)] h0 (Q8_5 Z u1 u2 u3 u4 u5 h0 n0) := by
  refine MetFree.of_bodySF (plainFor_of_name pn_3) hisR ?_
  intro p e s m args below meth c s₁ Bd hml0 hP hK
  obtain ⟨rfl, hZ, hh⟩ := hP
  have hx := Bd.exec
  have hby := Bd.bytes
  have hml : c.maxLocals = 3 := hml0
  have hown : s.vm.findClass "com/example/qedbox/qedbox/Keyword" = some m.cls := findClass_of_methodNamed Bd.named
  have hnm := (name_of_methodNamed Bd.named Bd.method).1
  have X0 : Stand p l e ({ frames := 2, cells := 2, slots := 24, locals := 24 } : Room) s m #[(.ref u1), .null, (.ref u2)] below meth c s₁ [] 0 0 := Stand.of_body Bd
  have e0 : s₁.heap = h0 := by rw [← hh, Bd.state]; rfl
  have N0 := Fr.nil n0
  have pre0 : ∀ t, SF p e below s₁ (mkF m 0 #[rv u1, .val .null, rv u2] []) t → SF p e below s₁ (entryFrame m #[(.ref u1), .null, (.ref u2)] 3) t := fun t k => castTop (ef_3 m u1 u2) k
  obtain ⟨_, _, ⟨T1, L1, k1x, n1⟩, -, X1, ⟨Lc1, hQ1, l1, y1, z1⟩, st1⟩ := X0.specialBack hx (y := (⟨"java/lang/Record", "<init>", "()V"⟩ : MethodName)) rfl hown (mvT hZ (tw hw 40 rfl)) (mvT hZ (tw hw 41 rfl)) (mvT hZ (tw hw 44 rfl)) (by decide) (backOf (W := 0) (rm9_3 l Z a0 hw [] u1 h0 n0 Z0 ) hZ (tw hw 44 rfl) (tw hw 43 rfl) (by decide) (by decide)) (g := (mkF m 1 #[rv u1, .val .null, rv u2] [(.ref u1)])) rfl (by rw [hml]; rfl) (Steps.refl _) (a := u1) (argsL := []) (rest := []) (lenOf pd_2 rfl) rfl (by show 2 * 0 + _ ≤ _; exact Nat.le_of_eq rfl) (hb hby d8_1) (fun _ _ => ⟨rfl, e0, (by decide : 0 + 0 ≤ _), (by decide : 0 + 0 ≤ _)⟩)
  dsimp only [Pt.U, Pt.locs, Pt.cells, Pt.slots] at X1 l1 y1 z1 st1 hQ1
  subst l1 y1 z1
  obtain ⟨rfl, N1q, e1⟩ := hQ1
  have N1 := Fr.app N0 N1q
  have hwSA : ∀ d ∈ Bundle.stringAtoms, d.before a0 Z = true := fun d hd => hw d (own_strA d hd)
  have hS0 : s.Since s.vm h0.size := State.WarmedH.since (State.WarmedH.refl s) _
  have hk0 : h0.size ≤ h0.size := Nat.le_refl _
  obtain ⟨w6x, T2, h2, kq2, X2, e2, E2, hS2, hk2, hZ2, hown2, st2⟩ := ldcS (s := s) (vm0 := s.vm) X1 hx hZ hown (tw hw 46 rfl) hwSA e1 hS0 hk0 (g := (mkF m 5 #[rv u1, .val .null, rv u2] [(.ref u2)])) rfl (hb hby d8_5) (n := 20) (by decide) (by decide) (by decide) (by decide)
  have K2 : Keep h0 h2 [u1] := (Keep.refl h0 [u1]).ext E2
  have Z2 : n0 ≤ h2.size := Nat.le_trans Z0 E2.1
  obtain ⟨_, _, ⟨T3, L3, k3x, n3⟩, -, X3, ⟨Lc3, hQ3, l3, y3, z3⟩, st3⟩ := Jvm.LawKit.callS X2 hx (y := (⟨"java/util/Objects", "requireNonNull", "(Ljava/lang/Object;Ljava/lang/String;)Ljava/lang/Object;"⟩ : MethodName)) hown2 (mvT hZ2 (tw hw 49 rfl)) (mvT hZ2 (tw hw 50 rfl)) (mvT hZ2 (tw hw 51 rfl)) (mvT hZ2 (tw hw 52 rfl)) (by decide) (backOf (W := 0) (rm10_4 l Z a0 hw [] u2 w6x h2 n0 Z2 ) hZ2 (tw hw 52 rfl) (tw hw 51 rfl) (by decide) (by decide)) (g := (mkF m 7 #[rv u1, .val .null, rv u2] [(.ref w6x), (.ref u2)])) rfl (by rw [hml]; rfl) (argsL := [(.ref u2), (.ref w6x)]) (rest := []) (lenOf pd_3 rfl) rfl (by show 2 * 0 + _ ≤ _; exact Nat.le_of_eq rfl) (hb hby d8_7) (fun _ _ => ⟨rfl, e2, (by decide : 2 + 0 ≤ _), (by decide : 24 + 0 ≤ _)⟩)
  dsimp only [Pt.U, Pt.locs, Pt.cells, Pt.slots] at X3 l3 y3 z3 st3 hQ3
  subst l3 y3 z3
  obtain ⟨rfl, N3q, e3⟩ := hQ3
  have N3 := Fr.app N1 N3q
  have F1_4 : Exa Z h2 u2 "java/lang/String" := P1.ext E2
  have hwwordsEmp : ∀ d ∈ StrChars.Road.wordsEmp, d.before a0 Z = true := fun d hd => hw d (own_wordsEmp d hd)
  have F1_5 : Fld Z h2 u2 "java/lang/String" "value" "[B" (.ref u3) := P2.ext E2
  have F1_6 : Fld Z h2 u2 "java/lang/String" "coder" "B" (.int 0) := P3.ext E2
  have F1_7 : Arv Z h2 u3 u4 .byte (1 : Int32) (((([(nar .char ((u5 &&& (255 : Int32)).toUInt32.toUInt16.toUInt32.toInt32))] : List Int32)).map (fun c => c.toInt8.toInt32)).map Value.int) (.int (0 : Int32)) := P4.ext E2
  have hp8 : ∀ c ∈ ([(nar .char ((u5 &&& (255 : Int32)).toUInt32.toUInt16.toUInt32.toInt32))] : List Int32), ¬ c < 0 ∧ ¬ (255 : Int32) < c := by
    intro c hc
    simp only [List.mem_cons, List.not_mem_nil, or_false] at hc
    subst hc
    · exact own_chars u5
  have hcd9 : StrChars.Road.CodA ([(nar .char ((u5 &&& (255 : Int32)).toUInt32.toUInt16.toUInt32.toInt32))] : List Int32) 0 (1 : Int32) (((([(nar .char ((u5 &&& (255 : Int32)).toUInt32.toUInt16.toUInt32.toInt32))] : List Int32)).map (fun c => c.toInt8.toInt32)).map Value.int) := StrChars.Road.codOf (n := 1) rfl (fun c hc => (hp8 c hc).2)
  have hbd9 : ∀ c ∈ ([(nar .char ((u5 &&& (255 : Int32)).toUInt32.toUInt16.toUInt32.toInt32))] : List Int32), ¬ c < 0 ∧ ¬ (65535 : Int32) < c := own_up _ hp8
  obtain ⟨cq10, kq10, q10a, q10b, q10c⟩ := isOf hZ2 e3 F1_4
  obtain ⟨_, _, ⟨T10, L10, k10x, n10⟩, -, X10, ⟨Lc10, hQ10, l10, y10, z10⟩, st10⟩ := X3.virtualBack hx (y := (⟨"java/lang/String", "isEmpty", "()Z"⟩ : MethodName)) (z := (⟨"java/lang/String", "isEmpty", "()Z"⟩ : MethodName)) hown2 (mvT hZ2 (tw hw 53 rfl)) (mvT hZ2 (tw hw 54 rfl)) (notFace_of_selects (args := #[]) (mvT hZ2 (tw hw 56 rfl))) (mvT hZ2 (tw hw 56 rfl)) (mvT hZ2 (tw hw 55 rfl)) (by decide) (StrChars.Road.empW (W := 0) hZ2 hwwordsEmp (kI := 4) (tw hw 5 rfl) F1_4 F1_5 F1_6 F1_7 hcd9 hbd9 (Nat.le_of_ble_eq_true rfl) (by decide) (by decide)) q10a q10c (g := (mkF m 33 #[rv u1, .val .null, rv u2] [(.ref u2)])) rfl (by rw [hml]; rfl) (Steps.refl _) (argsL := []) (rest := []) (lenOf pd_4 rfl) rfl (by show 2 * 0 + _ ≤ _; exact Nat.le_of_eq rfl) (hb hby d8_33) (fun _ _ => ⟨rfl, e3, (by decide : 2 + 0 ≤ _), (by decide : 24 + 0 ≤ _)⟩)
  dsimp only [Pt.U, Pt.locs, Pt.cells, Pt.slots] at X10 l10 y10 z10 st10 hQ10
  subst l10 y10 z10
  obtain ⟨rfl, rfl, e10⟩ := hQ10
  have N10 := Fr.app N3 (Fr.nil n0)
  have F1_11 : Exa Z h2 u1 "com/example/qedbox/qedbox/Keyword" := P5.ext E2
  have F1_12 : Fld Z h2 u1 "com/example/qedbox/qedbox/Keyword" "domain" "Ljava/lang/String;" .null := P6.ext E2
  have F1_13 : Fld Z h2 u1 "com/example/qedbox/qedbox/Keyword" "value" "Ljava/lang/String;" .null := P7.ext E2
  obtain ⟨T14, h14, X14, e14, W14, st14⟩ := putF X10 hx hZ2 hown2 (host := "") (Or.inl (tw hw 58 rfl)) Via.refl e10 F1_12 F1_11 (Or.inr ⟨(tw hw 59 rfl), rfl, hnm⟩) (tw hw 35 rfl) (ty := (.object "java/lang/String")) (by decide) rfl rfl (g := (mkF m 51 #[rv u1, .val .null, rv u2] [.null, (.ref u1)])) rfl rfl (hb hby d8_51)
  have K14 : Keep h0 h14 [u1] := K2.wr W14 (Or.inl (List.mem_of_getElem? (i := 0) rfl))
  have N14 := Fr.snoc X14 N10 P8
  have Fw14 : Fld Z h14 u1 "com/example/qedbox/qedbox/Keyword" "domain" "Ljava/lang/String;" .null := F1_12.same W14
  have F2_15 : Exa Z h14 u1 "com/example/qedbox/qedbox/Keyword" := F1_11.wr W14
  have F2_16 : Fld Z h14 u1 "com/example/qedbox/qedbox/Keyword" "value" "Ljava/lang/String;" .null := F1_13.other W14 (Or.inr (slot_ne (Or.inr (tw hw 61 rfl)) (Or.inr (tw hw 59 rfl)) (by decide) (t := (.object "java/lang/String")) (t' := (.object "java/lang/String")) (by decide) (by decide)))
  obtain ⟨T17, h17, X17, e17, W17, st17⟩ := putF X14 hx hZ2 hown2 (host := "") (Or.inl (tw hw 60 rfl)) Via.refl e14 F2_16 F2_15 (Or.inr ⟨(tw hw 61 rfl), rfl, hnm⟩) (tw hw 35 rfl) (ty := (.object "java/lang/String")) (by decide) rfl rfl (g := (mkF m 56 #[rv u1, .val .null, rv u2] [(.ref u2), (.ref u1)])) rfl rfl (hb hby d8_56)
  have K17 : Keep h0 h17 [u1] := K14.wr W17 (Or.inl (List.mem_of_getElem? (i := 0) rfl))
  have N17 := Fr.snoc X17 N14 P8
  have Fw17 : Fld Z h17 u1 "com/example/qedbox/qedbox/Keyword" "value" "Ljava/lang/String;" (.ref u2) := F2_16.same W17
  have F3_18 : Exa Z h17 u1 "com/example/qedbox/qedbox/Keyword" := F2_15.wr W17
  have F3_19 : Fld Z h17 u1 "com/example/qedbox/qedbox/Keyword" "domain" "Ljava/lang/String;" .null := Fw14.other W17 (Or.inr (slot_ne (Or.inr (tw hw 59 rfl)) (Or.inr (tw hw 61 rfl)) (by decide) (t := (.object "java/lang/String")) (t' := (.object "java/lang/String")) (by decide) (by decide)))
  have hkk14_2 : kq2 ≤ h14.size := Nat.le_trans hk2 (Keep.of_wr W14).1
  have hkk17_3 : kq2 ≤ h17.size := Nat.le_trans hkk14_2 (Keep.of_wr W17).1
  obtain ⟨fs, hr, hrun, hended, hRW⟩ := X17.leaveW hS2 (by rw [e17]; exact hkk17_3) (v := none) (fun _ => rfl)
  refine ⟨_, _, pre0 _ ?_, hrun, hended, _, _, rfl, ?_, hRW.1, hRW.2.1, hRW.2.2.1, hRW.2.2.2.mono (by decide) (by decide)⟩
  · show SF p e below s₁ (mkF m 0 #[rv u1, .val .null, rv u2] []) _
    refine XS.aloadN X0.here hx rfl (hb hby d8_0) rfl rfl ?_
    show SF p e below s₁ (mkF m 1 #[rv u1, .val .null, rv u2] [(.ref u1)]) _
    refine st1.trans ?_
    show SF p e below T1 (mkF m 4 #[rv u1, .val .null, rv u2] []) _
    refine XS.aloadN X1.here hx rfl (hb hby d8_4) rfl rfl ?_
    show SF p e below T1 (mkF m 5 #[rv u1, .val .null, rv u2] [(.ref u2)]) _
    refine st2 _ ?_
    show SF p e below T2 (mkF m 7 #[rv u1, .val .null, rv u2] [(.ref w6x), (.ref u2)]) _
    refine st3 _ ?_
    show SF p e below T3 (mkF m 10 #[rv u1, .val .null, rv u2] [(.ref u2)]) _
    refine XS.pop X3.here hx rfl (hb hby d8_10) rfl rfl ?_
    refine XS.aloadN X3.here hx rfl (hb hby d8_11) rfl rfl ?_
    show SF p e below T3 (mkF m 12 #[rv u1, .val .null, rv u2] [.null]) _
    refine XS.ifnullYes X3.here hx rfl (pc0 := 12) (pc' := 32) rfl (hb hby d8_12) rfl (by decide) (by decide) ?_
    show SF p e below T3 (mkF m 32 #[rv u1, .val .null, rv u2] []) _
    refine XS.aloadN X3.here hx rfl (hb hby d8_32) rfl rfl ?_
    show SF p e below T3 (mkF m 33 #[rv u1, .val .null, rv u2] [(.ref u2)]) _
    refine st10.trans ?_
    show SF p e below T10 (mkF m 36 #[rv u1, .val .null, rv u2] [(.int 0)]) _
    refine XS.ifYes X10.here hx rfl (pc0 := 36) (pc' := 49) rfl (hb hby d8_36) rfl ((if0 _ _).trans (teq (by decide : (0 : Int32) = (0 : Int32))).1) (by decide) (by decide) ?_
    show SF p e below T10 (mkF m 49 #[rv u1, .val .null, rv u2] []) _
    refine XS.aloadN X10.here hx rfl (hb hby d8_49) rfl rfl ?_
    refine XS.aloadN X10.here hx rfl (hb hby d8_50) rfl rfl ?_
    show SF p e below T10 (mkF m 51 #[rv u1, .val .null, rv u2] [.null, (.ref u1)]) _
    refine st14 _ ?_
    show SF p e below T14 (mkF m 54 #[rv u1, .val .null, rv u2] []) _
    refine XS.aloadN X14.here hx rfl (hb hby d8_54) rfl rfl ?_
    refine XS.aloadN X14.here hx rfl (hb hby d8_55) rfl rfl ?_
    show SF p e below T14 (mkF m 56 #[rv u1, .val .null, rv u2] [(.ref u2), (.ref u1)]) _
    refine st17 _ ?_
    show SF p e below T17 (mkF m 59 #[rv u1, .val .null, rv u2] []) _
    exact X17.returnOut hx Bd.returns (hb hby d8_59) hr
  · show Q8_5 Z u1 u2 u3 u4 u5 h0 n0 _ T17.heap _
    rw [e17]
    exact ⟨rfl, N17, K17, F3_18, F3_19, Fw17⟩
theorem pd_5 : parseMethodDescriptor "(Ljava/lang/String;Ljava/lang/String;)V" = some ⟨[(.object "java/lang/String"), (.object "java/lang/String")], none⟩ := by decide +kernel
theorem d12_0 : decode prog_8_method_3_code 0 = .ok (.aload_n 0, 1) := by decide +kernel
theorem d12_1 : decode prog_8_method_3_code 1 = .ok (.getfield 30, 3) := by decide +kernel
theorem d12_4 : decode prog_8_method_3_code 4 = .ok (.ifnull 7, 3) := by decide +kernel
theorem d12_11 : decode prog_8_method_3_code 11 = .ok (.iconst 0, 1) := by decide +kernel
theorem d12_12 : decode prog_8_method_3_code 12 = .ok (.ireturn, 1) := by decide +kernel
theorem ef_4 (m : MethodId) (x0 : Addr) : entryFrame m #[(.ref x0)] 1 = mkF m 0 #[.val (.ref x0)] [] := by first | (simp [entryFrame, mkF, argsToLocals, Value.category]; done) | rfl
-- Keyword.hasDomain 
def Q12_6 (Z : State) (u1 : Addr) (h0 : Heap) (n0 : Nat) (v : Option Value) (h : Heap) (L : List Loc) : Prop := v = some (.int 0) ∧ Fr n0 L ∧ h = h0
set_option maxRecDepth 65536 in
set_option maxHeartbeats 40000000 in
theorem rm12_6 (l : Launch) (Z : State) (a0 : Array Value) (hw : HW Z a0) (ws : List Jvm.Cond) (u1 : Addr) (h0 : Heap) (n0 : Nat) (Z0 : n0 ≤ h0.size) (P1 : Fld Z h0 u1 "com/example/qedbox/qedbox/Keyword" "domain" "Ljava/lang/String;" .null) :
    MF l Z (⟨"com/example/qedbox/qedbox/Keyword", "hasDomain", "()Z"⟩ : MethodName) (Jvm.Cond.code (⟨"com/example/qedbox/qedbox/Keyword", "hasDomain", "()Z"⟩ : MethodName) prog_8_method_3_code 1 (some .boolean)) ws ({ frames := 0, cells := 0, slots := 0, locals := 0 } : Room) #[(.ref u1)] h0 (Q12_6 Z u1 h0 n0) := by
  refine MetFree.of_bodySF (plainFor_of_name pn_3) hisR ?_
  intro p e s m args below meth c s₁ Bd hml0 hP hK
  obtain ⟨rfl, hZ, hh⟩ := hP
  have hx := Bd.exec
  have hby := Bd.bytes
  have hml : c.maxLocals = 1 := hml0
  have hown : s.vm.findClass "com/example/qedbox/qedbox/Keyword" = some m.cls := findClass_of_methodNamed Bd.named
  have hnm := (name_of_methodNamed Bd.named Bd.method).1
  have X0 : Stand p l e ({ frames := 0, cells := 0, slots := 0, locals := 0 } : Room) s m #[(.ref u1)] below meth c s₁ [] 0 0 := Stand.of_body Bd
  have e0 : s₁.heap = h0 := by rw [← hh, Bd.state]; rfl
  have N0 := Fr.nil n0
  have pre0 : ∀ t, SF p e below s₁ (mkF m 0 #[rv u1] []) t → SF p e below s₁ (entryFrame m #[(.ref u1)] 1) t := fun t k => castTop (ef_4 m u1) k
  obtain ⟨T1, X1, e1, st1⟩ := getF X0 hx hZ hown (host := "") (Or.inl (tw hw 58 rfl)) Via.refl e0 P1 (g := (mkF m 1 #[rv u1] [(.ref u1)])) rfl rfl (hb hby d12_1)
  obtain ⟨fs, hr, hrun, hended, hW, hsame⟩ := X1.leave (v := some (.int 0)) (fun h => by rw [Bd.returns] at h; cases h)
  refine ⟨_, _, pre0 _ ?_, hrun, hended, _, _, rfl, ?_, ⟨_, rfl⟩, hW, hsame.mono (by decide) (by decide)⟩
  · show SF p e below s₁ (mkF m 0 #[rv u1] []) _
    refine XS.aloadN X0.here hx rfl (hb hby d12_0) rfl rfl ?_
    show SF p e below s₁ (mkF m 1 #[rv u1] [(.ref u1)]) _
    refine st1 _ ?_
    show SF p e below T1 (mkF m 4 #[rv u1] [.null]) _
    refine XS.ifnullYes X1.here hx rfl (pc0 := 4) (pc' := 11) rfl (hb hby d12_4) rfl (by decide) (by decide) ?_
    show SF p e below T1 (mkF m 11 #[rv u1] []) _
    refine XS.iconst X1.here hx rfl (hb hby d12_11) ?_
    show SF p e below T1 (mkF m 12 #[rv u1] [(.int 0)]) _
    exact retN X1 hx (t := .boolean) Bd.returns (by simp) (hb hby d12_12) hr
  · show Q12_6 Z u1 h0 n0 _ T1.heap _
    rw [e1]
    exact ⟨rfl, N0, rfl⟩
theorem d13_0 : decode prog_8_method_8_code 0 = .ok (.aload_n 0, 1) := by decide +kernel
theorem d13_1 : decode prog_8_method_8_code 1 = .ok (.getfield 30, 3) := by decide +kernel
theorem d13_4 : decode prog_8_method_8_code 4 = .ok (.areturn, 1) := by decide +kernel
theorem ef_5 (m : MethodId) (x0 : Addr) : entryFrame m #[(.ref x0)] 1 = mkF m 0 #[.val (.ref x0)] [] := by first | (simp [entryFrame, mkF, argsToLocals, Value.category]; done) | rfl
-- Keyword.domain 
def Q13_7 (Z : State) (u1 : Addr) (h0 : Heap) (n0 : Nat) (v : Option Value) (h : Heap) (L : List Loc) : Prop := v = some .null ∧ Fr n0 L ∧ h = h0
set_option maxRecDepth 65536 in
set_option maxHeartbeats 40000000 in
theorem rm13_7 (l : Launch) (Z : State) (a0 : Array Value) (hw : HW Z a0) (ws : List Jvm.Cond) (u1 : Addr) (h0 : Heap) (n0 : Nat) (Z0 : n0 ≤ h0.size) (P1 : Fld Z h0 u1 "com/example/qedbox/qedbox/Keyword" "domain" "Ljava/lang/String;" .null) :
    MF l Z (⟨"com/example/qedbox/qedbox/Keyword", "domain", "()Ljava/lang/String;"⟩ : MethodName) (Jvm.Cond.code (⟨"com/example/qedbox/qedbox/Keyword", "domain", "()Ljava/lang/String;"⟩ : MethodName) prog_8_method_8_code 1 (some (.object "java/lang/String"))) ws ({ frames := 0, cells := 0, slots := 0, locals := 0 } : Room) #[(.ref u1)] h0 (Q13_7 Z u1 h0 n0) := by
  refine MetFree.of_bodySF (plainFor_of_name pn_3) hisR ?_
  intro p e s m args below meth c s₁ Bd hml0 hP hK
  obtain ⟨rfl, hZ, hh⟩ := hP
  have hx := Bd.exec
  have hby := Bd.bytes
  have hml : c.maxLocals = 1 := hml0
  have hown : s.vm.findClass "com/example/qedbox/qedbox/Keyword" = some m.cls := findClass_of_methodNamed Bd.named
  have hnm := (name_of_methodNamed Bd.named Bd.method).1
  have X0 : Stand p l e ({ frames := 0, cells := 0, slots := 0, locals := 0 } : Room) s m #[(.ref u1)] below meth c s₁ [] 0 0 := Stand.of_body Bd
  have e0 : s₁.heap = h0 := by rw [← hh, Bd.state]; rfl
  have N0 := Fr.nil n0
  have pre0 : ∀ t, SF p e below s₁ (mkF m 0 #[rv u1] []) t → SF p e below s₁ (entryFrame m #[(.ref u1)] 1) t := fun t k => castTop (ef_5 m u1) k
  obtain ⟨T1, X1, e1, st1⟩ := getF X0 hx hZ hown (host := "") (Or.inl (tw hw 58 rfl)) Via.refl e0 P1 (g := (mkF m 1 #[rv u1] [(.ref u1)])) rfl rfl (hb hby d13_1)
  obtain ⟨fs, hr, hrun, hended, hW, hsame⟩ := X1.leave (v := some .null) (fun h => by rw [Bd.returns] at h; cases h)
  refine ⟨_, _, pre0 _ ?_, hrun, hended, _, _, rfl, ?_, ⟨_, rfl⟩, hW, hsame.mono (by decide) (by decide)⟩
  · show SF p e below s₁ (mkF m 0 #[rv u1] []) _
    refine XS.aloadN X0.here hx rfl (hb hby d13_0) rfl rfl ?_
    show SF p e below s₁ (mkF m 1 #[rv u1] [(.ref u1)]) _
    refine st1 _ ?_
    show SF p e below T1 (mkF m 4 #[rv u1] [.null]) _
    exact own_retR X1 hx Bd.returns rfl rfl (hb hby d13_4) hr
  · show Q13_7 Z u1 h0 n0 _ T1.heap _
    rw [e1]
    exact ⟨rfl, N0, rfl⟩
theorem pd_6 : parseMethodDescriptor "()Ljava/lang/String;" = some ⟨[], some (.object "java/lang/String")⟩ := by decide +kernel
theorem d1_21 : decode method_2_code 21 = .ok (.new 7, 3) := by decide +kernel
theorem d1_24 : decode method_2_code 24 = .ok (.dup, 1) := by decide +kernel
theorem d1_25 : decode method_2_code 25 = .ok (.iconst 2, 1) := by decide +kernel
theorem d1_26 : decode method_2_code 26 = .ok (.newarray .char, 2) := by decide +kernel
theorem d1_28 : decode method_2_code 28 = .ok (.dup, 1) := by decide +kernel
theorem d1_29 : decode method_2_code 29 = .ok (.iconst 0, 1) := by decide +kernel
theorem d1_30 : decode method_2_code 30 = .ok (.iload_n 3, 1) := by decide +kernel
theorem d1_31 : decode method_2_code 31 = .ok (.castore, 1) := by decide +kernel
theorem d1_32 : decode method_2_code 32 = .ok (.dup, 1) := by decide +kernel
theorem d1_33 : decode method_2_code 33 = .ok (.iconst 1, 1) := by decide +kernel
theorem d1_34 : decode method_2_code 34 = .ok (.iload 4, 2) := by decide +kernel
theorem d1_36 : decode method_2_code 36 = .ok (.castore, 1) := by decide +kernel
theorem d1_37 : decode method_2_code 37 = .ok (.invokespecial 9, 3) := by decide +kernel
theorem d1_40 : decode method_2_code 40 = .ok (.areturn, 1) := by decide +kernel
-- KeywordHasDomainPinLaw.draw 
def Q1_8 (Z : State) (u1 : Int32) (u2 : Int32) (u3 : Int32) (GC : Int32) (h0 : Heap) (n0 : Nat) (v : Option Value) (h : Heap) (L : List Loc) : Prop := ∃ e1x : Addr, ∃ e2x : Addr, ∃ e3x : ClassId, h0.size ≤ e1x ∧ h0.size ≤ e2x ∧ e1x ≠ e2x ∧ v = some (.ref e1x) ∧ Fr n0 L ∧ Keep h0 h [] ∧ Exa Z h e1x "java/lang/String" ∧ Fld Z h e1x "java/lang/String" "coder" "B" (.int 0) ∧ Fld Z h e1x "java/lang/String" "value" "[B" (.ref e2x) ∧ Arv Z h e2x e3x .byte (2 : Int32) (((([(nar .char ((u2 &&& (255 : Int32)).toUInt32.toUInt16.toUInt32.toInt32)), (nar .char ((u3 &&& (255 : Int32)).toUInt32.toUInt16.toUInt32.toInt32))] : List Int32)).map (fun c => c.toInt8.toInt32)).map Value.int) (.int (0 : Int32))
set_option maxRecDepth 65536 in
set_option maxHeartbeats 40000000 in
theorem rm1_8 (l : Launch) (Z : State) (a0 : Array Value) (hw : HW Z a0) (ws : List Jvm.Cond) (u1 : Int32) (u2 : Int32) (u3 : Int32) (GC : Int32) (h0 : Heap) (n0 : Nat) (Z0 : n0 ≤ h0.size) (P1 : ¬ ((((u1.toUInt32 >>> ((2 : Int32) &&& 31).toUInt32).toInt32) &&& (1 : Int32)) = (0 : Int32))) (Sg0 : Sta Z Z.heap "java/lang/String" "COMPACT_STRINGS" "Z" (.int GC)) (P3 : Old Z n0 h0) (nzGC : ¬ (GC = (0 : Int32))) :
    MF l Z (⟨"com/example/qedbox/qedbox/KeywordHasDomainPinLaw", "draw", "(III)Ljava/lang/String;"⟩ : MethodName) (Jvm.Cond.code (⟨"com/example/qedbox/qedbox/KeywordHasDomainPinLaw", "draw", "(III)Ljava/lang/String;"⟩ : MethodName) method_2_code 5 (some (.object "java/lang/String"))) ws ({ frames := 4, cells := 3, slots := 8, locals := 66 } : Room) #[(.int ((u1.toUInt32 >>> ((2 : Int32) &&& 31).toUInt32).toInt32)), (.int u2), (.int u3)] h0 (Q1_8 Z u1 u2 u3 GC h0 n0) := by
  refine MetFree.of_bodySF (plainFor_of_name pn_0) hisR ?_
  intro p e s m args below meth c s₁ Bd hml0 hP hK
  obtain ⟨rfl, hZ, hh⟩ := hP
  have hx := Bd.exec
  have hby := Bd.bytes
  have hml : c.maxLocals = 5 := hml0
  have hown : s.vm.findClass "com/example/qedbox/qedbox/KeywordHasDomainPinLaw" = some m.cls := findClass_of_methodNamed Bd.named
  have hnm := (name_of_methodNamed Bd.named Bd.method).1
  have X0 : Stand p l e ({ frames := 4, cells := 3, slots := 8, locals := 66 } : Room) s m #[(.int ((u1.toUInt32 >>> ((2 : Int32) &&& 31).toUInt32).toInt32)), (.int u2), (.int u3)] below meth c s₁ [] 0 0 := Stand.of_body Bd
  have e0 : s₁.heap = h0 := by rw [← hh, Bd.state]; rfl
  have N0 := Fr.nil n0
  have pre0 : ∀ t, SF p e below s₁ (mkF m 0 #[iv ((u1.toUInt32 >>> ((2 : Int32) &&& 31).toUInt32).toInt32), iv u2, iv u3, .unset, .unset] []) t → SF p e below s₁ (entryFrame m #[(.int ((u1.toUInt32 >>> ((2 : Int32) &&& 31).toUInt32).toInt32)), (.int u2), (.int u3)] 5) t := fun t k => castTop (ef_0 m ((u1.toUInt32 >>> ((2 : Int32) &&& 31).toUInt32).toInt32) u2 u3) k
  obtain ⟨T1, h1, X1, e1, E1, A1, D1, -, st1⟩ := newO X0 hx hZ hown (tw hw 4 rfl) (tw hw 5 rfl) (tw hw 6 rfl) e0 (g := (mkF m 21 #[iv ((u1.toUInt32 >>> ((2 : Int32) &&& 31).toUInt32).toInt32), iv u2, iv u3, iv ((u2 &&& (255 : Int32)).toUInt32.toUInt16.toUInt32.toInt32), iv ((u3 &&& (255 : Int32)).toUInt32.toUInt16.toUInt32.toInt32)] [])) rfl (hb hby d1_21) (by decide) (by decide)
  obtain ⟨e1x, g1⟩ : ∃ z, z = h0.size := ⟨_, rfl⟩
  rw [← g1] at A1 D1 st1
  have K1 : Keep h0 h1 [] := (Keep.refl h0 []).ext E1
  have Fn2 : Fld Z h1 e1x "java/lang/String" "coder" "B" (.int 0) := D1 (Or.inr (tw hw 31 rfl)) (ty := .byte) (by decide)
  have Fn3 : Fld Z h1 e1x "java/lang/String" "value" "[B" .null := D1 (Or.inr (tw hw 33 rfl)) (ty := (.array .byte)) (by decide)
  obtain ⟨T4, h4, w8x, X4, e4, E4, A4, st4⟩ := newP X1 hx hZ (tw hw 7 rfl) e1 (g := (mkF m 26 #[iv ((u1.toUInt32 >>> ((2 : Int32) &&& 31).toUInt32).toInt32), iv u2, iv u3, iv ((u2 &&& (255 : Int32)).toUInt32.toUInt16.toUInt32.toInt32), iv ((u3 &&& (255 : Int32)).toUInt32.toUInt16.toUInt32.toInt32)] [(.int 2), (.ref e1x), (.ref e1x)])) rfl (hb hby d1_26) rfl (by decide) (cap := 2) (by decide) (by decide) (by decide) (by decide)
  obtain ⟨w7x, g4⟩ : ∃ z, z = h1.size := ⟨_, rfl⟩
  rw [← g4] at A4 st4
  have K4 : Keep h0 h4 [] := K1.ext E4
  have V4 : Arv Z h4 w7x w8x .char (2 : Int32) [(.int 0), (.int 0)] (.int (0 : Int32)) := (Arv.new A4 (by decide)).pad (pad_rep [] (.int (0 : Int32)) 2)
  obtain ⟨cl5, Ar5, q5, S5, N5z, H5, G5⟩ := id V4
  have hin5 : ¬ ((0 : Int32) < 0 ∨ cl5.slots.size ≤ ((0 : Int32)).toNatClampNeg) := inb_of S5 ⟨by decide, by decide⟩
  obtain ⟨T6, h6, X6, e6, W6, st6⟩ := stC X4 hx hZ e4 Ar5 (j := (0 : Int32)) hin5 (g := (mkF m 31 #[iv ((u1.toUInt32 >>> ((2 : Int32) &&& 31).toUInt32).toInt32), iv u2, iv u3, iv ((u2 &&& (255 : Int32)).toUInt32.toUInt16.toUInt32.toInt32), iv ((u3 &&& (255 : Int32)).toUInt32.toUInt16.toUInt32.toInt32)] [(.int ((u2 &&& (255 : Int32)).toUInt32.toUInt16.toUInt32.toInt32)), (.int 0), (.ref w7x), (.ref w7x), (.ref e1x), (.ref e1x)])) rfl rfl (hb hby d1_31)
  have Z1 : n0 ≤ h1.size := Nat.le_trans Z0 E1.1
  have g_b11 : n0 ≤ w7x := Nat.le_trans Z1 (Nat.le_of_eq g4.symm)
  have sz0_b11 : h0.size ≤ w7x := Nat.le_trans K1.1 (Nat.le_of_eq g4.symm)
  have K6 : Keep h0 h6 [] := K4.wr W6 (Or.inr sz0_b11)
  have N6 := Fr.snoc X6 N0 g_b11
  have V6 : Arv Z h6 w7x w8x .char (2 : Int32) [(.int (nar .char ((u2 &&& (255 : Int32)).toUInt32.toUInt16.toUInt32.toInt32))), (.int 0)] (.int (0 : Int32)) := Arv.set Ar5 q5 S5 N5z H5 G5 (fits_nar_char _) W6 0 rfl (Nat.le_of_ble_eq_true rfl)
  obtain ⟨cl7, Ar7, q7, S7, N7z, H7, G7⟩ := id V6
  have hin7 : ¬ ((1 : Int32) < 0 ∨ cl7.slots.size ≤ ((1 : Int32)).toNatClampNeg) := inb_of S7 ⟨by decide, by decide⟩
  obtain ⟨T8, h8, X8, e8, W8, st8⟩ := stC X6 hx hZ e6 Ar7 (j := (1 : Int32)) hin7 (g := (mkF m 36 #[iv ((u1.toUInt32 >>> ((2 : Int32) &&& 31).toUInt32).toInt32), iv u2, iv u3, iv ((u2 &&& (255 : Int32)).toUInt32.toUInt16.toUInt32.toInt32), iv ((u3 &&& (255 : Int32)).toUInt32.toUInt16.toUInt32.toInt32)] [(.int ((u3 &&& (255 : Int32)).toUInt32.toUInt16.toUInt32.toInt32)), (.int 1), (.ref w7x), (.ref w7x), (.ref e1x), (.ref e1x)])) rfl rfl (hb hby d1_36)
  have K8 : Keep h0 h8 [] := K6.wr W8 (Or.inr sz0_b11)
  have N8 := Fr.snoc X8 N6 g_b11
  have V8 : Arv Z h8 w7x w8x .char (2 : Int32) [(.int (nar .char ((u2 &&& (255 : Int32)).toUInt32.toUInt16.toUInt32.toInt32))), (.int (nar .char ((u3 &&& (255 : Int32)).toUInt32.toUInt16.toUInt32.toInt32)))] (.int (0 : Int32)) := Arv.set Ar7 q7 S7 N7z H7 G7 (fits_nar_char _) W8 1 rfl (Nat.le_of_ble_eq_true rfl)
  have F2_9 : Exa Z h4 e1x "java/lang/String" := A1.ext E4
  have F3_10 : Exa Z h6 e1x "java/lang/String" := F2_9.wr W6
  have F4_11 : Exa Z h8 e1x "java/lang/String" := F3_10.wr W8
  have F2_12 : Fld Z h4 e1x "java/lang/String" "value" "[B" .null := Fn3.ext E4
  have F3_13 : Fld Z h6 e1x "java/lang/String" "value" "[B" .null := F2_12.other W6 (Or.inl (Nat.ne_of_lt (Nat.lt_of_lt_of_le A1.lt (Nat.le_of_eq g4.symm))))
  have F4_14 : Fld Z h8 e1x "java/lang/String" "value" "[B" .null := F3_13.other W8 (Or.inl (Nat.ne_of_lt (Nat.lt_of_lt_of_le A1.lt (Nat.le_of_eq g4.symm))))
  have F2_15 : Fld Z h4 e1x "java/lang/String" "coder" "B" (.int 0) := Fn2.ext E4
  have F3_16 : Fld Z h6 e1x "java/lang/String" "coder" "B" (.int 0) := F2_15.other W6 (Or.inl (Nat.ne_of_lt (Nat.lt_of_lt_of_le A1.lt (Nat.le_of_eq g4.symm))))
  have F4_17 : Fld Z h8 e1x "java/lang/String" "coder" "B" (.int 0) := F3_16.other W8 (Or.inl (Nat.ne_of_lt (Nat.lt_of_lt_of_le A1.lt (Nat.le_of_eq g4.symm))))
  have hwwords : ∀ d ∈ StrChars.Road.words, d.before a0 Z = true := fun d hd => hw d (own_words d hd)
  have hp18 : ∀ c ∈ ([(nar .char ((u2 &&& (255 : Int32)).toUInt32.toUInt16.toUInt32.toInt32)), (nar .char ((u3 &&& (255 : Int32)).toUInt32.toUInt16.toUInt32.toInt32))] : List Int32), ¬ c < 0 ∧ ¬ (255 : Int32) < c := by
    intro c hc
    simp only [List.mem_cons, List.not_mem_nil, or_false] at hc
    rcases hc with rfl | rfl
    · exact own_chars u2
    · exact own_chars u3
  have O1 : Old Z n0 h1 := P3.ext E1
  have O4 : Old Z n0 h4 := O1.ext E4
  have O6 : Old Z n0 h6 := O4.wr W6 g_b11
  have O8 : Old Z n0 h8 := O6.wr W8 g_b11
  have g_b9 : n0 ≤ e1x := Nat.le_trans Z0 (Nat.le_of_eq g1.symm)
  have Z4 : n0 ≤ h4.size := Nat.le_trans Z1 E4.1
  have Z6 : n0 ≤ h6.size := Nat.le_trans Z4 (Keep.of_wr W6).1
  have Z8 : n0 ≤ h8.size := Nat.le_trans Z6 (Keep.of_wr W8).1
  obtain ⟨_, _, ⟨T19, L19, k19x, n19⟩, -, X19, ⟨Lc19, hQ19, l19, y19, z19⟩, st19⟩ := X8.specialBack hx (y := (⟨"java/lang/String", "<init>", "([C)V"⟩ : MethodName)) rfl hown (mvT hZ (tw hw 8 rfl)) (mvT hZ (tw hw 9 rfl)) (mvT hZ (tw hw 10 rfl)) (by decide) (StrChars.Road.backV (W := 1) hZ hwwords (kI := 4) (tw hw 5 rfl) (cs := ([(nar .char ((u2 &&& (255 : Int32)).toUInt32.toUInt16.toUInt32.toInt32)), (nar .char ((u3 &&& (255 : Int32)).toUInt32.toUInt16.toUInt32.toInt32))] : List Int32)) (bs := ((([(nar .char ((u2 &&& (255 : Int32)).toUInt32.toUInt16.toUInt32.toInt32)), (nar .char ((u3 &&& (255 : Int32)).toUInt32.toUInt16.toUInt32.toInt32))] : List Int32)).map (fun c => c.toInt8.toInt32))) (n := 2) g_b9 Z8 F4_11 F4_14 F4_17 V8 (Sg0.ext O8.2) nzGC rfl rfl (by decide) (by decide) hp18 rfl (by decide) (by decide)) (g := (mkF m 37 #[iv ((u1.toUInt32 >>> ((2 : Int32) &&& 31).toUInt32).toInt32), iv u2, iv u3, iv ((u2 &&& (255 : Int32)).toUInt32.toUInt16.toUInt32.toInt32), iv ((u3 &&& (255 : Int32)).toUInt32.toUInt16.toUInt32.toInt32)] [(.ref w7x), (.ref e1x), (.ref e1x)])) rfl (by rw [hml]; rfl) (Steps.refl _) (a := e1x) (argsL := [(.ref w7x)]) (rest := [(.ref e1x)]) (lenOf pd_0 rfl) rfl (by show 2 * 0 + _ ≤ _; exact Nat.le_of_eq rfl) (hb hby d1_37) (fun _ _ => ⟨rfl, e8, (by decide : 2 + 1 ≤ _), (by decide : 6 + 2 ≤ _)⟩)
  dsimp only [Pt.U, Pt.locs, Pt.cells, Pt.slots] at X19 l19 y19 z19 st19 hQ19
  subst l19 y19 z19
  obtain ⟨rfl, N19q, K19c, Fx19, Fc19, e2x, e3x, gt19, bz_b12, ne19, Fv19, Va19⟩ := hQ19
  have sz0_b9 : h0.size ≤ e1x := Nat.le_trans (Keep.refl h0 []).1 (Nat.le_of_eq g1.symm)
  have K19 : Keep h0 T19.heap [] := K8.trans K19c (allS (Or.inr sz0_b9) all0)
  have N19 := Fr.app N8 N19q
  have sz0_b12 : h0.size ≤ e2x := Nat.le_trans K8.1 bz_b12
  have lt_b9_2 : e1x < h4.size := Nat.lt_of_lt_of_le A1.lt E4.1
  have lt_b9_3 : e1x < h6.size := Nat.lt_of_lt_of_le lt_b9_2 (Keep.of_wr W6).1
  have lt_b9_4 : e1x < h8.size := Nat.lt_of_lt_of_le lt_b9_3 (Keep.of_wr W8).1
  obtain ⟨fs, hr, hrun, hended, hW, hsame⟩ := X19.leave (v := some (.ref e1x)) (fun h => by rw [Bd.returns] at h; cases h)
  refine ⟨_, _, pre0 _ ?_, hrun, hended, _, _, rfl, ?_, ⟨_, rfl⟩, hW, hsame.mono (by decide) (by decide)⟩
  · show SF p e below s₁ (mkF m 0 #[iv ((u1.toUInt32 >>> ((2 : Int32) &&& 31).toUInt32).toInt32), iv u2, iv u3, .unset, .unset] []) _
    refine XS.iloadN X0.here hx rfl (hb hby d1_0) rfl ?_
    refine XS.sipush X0.here hx rfl (hb hby d1_1) ?_
    show SF p e below s₁ (mkF m 4 #[iv ((u1.toUInt32 >>> ((2 : Int32) &&& 31).toUInt32).toInt32), iv u2, iv u3, .unset, .unset] [(.int 255), (.int u2)]) _
    refine XS.iand X0.here hx rfl (hb hby d1_4) rfl ?_
    show SF p e below s₁ (mkF m 5 #[iv ((u1.toUInt32 >>> ((2 : Int32) &&& 31).toUInt32).toInt32), iv u2, iv u3, .unset, .unset] [(.int (u2 &&& (255 : Int32)))]) _
    refine XS.i2c X0.here hx rfl (hb hby d1_5) rfl ?_
    show SF p e below s₁ (mkF m 6 #[iv ((u1.toUInt32 >>> ((2 : Int32) &&& 31).toUInt32).toInt32), iv u2, iv u3, .unset, .unset] [(.int ((u2 &&& (255 : Int32)).toUInt32.toUInt16.toUInt32.toInt32))]) _
    refine XS.istoreN X0.here hx rfl (hb hby d1_6) rfl (l' := #[iv ((u1.toUInt32 >>> ((2 : Int32) &&& 31).toUInt32).toInt32), iv u2, iv u3, iv ((u2 &&& (255 : Int32)).toUInt32.toUInt16.toUInt32.toInt32), .unset]) rfl ?_
    refine XS.iloadN X0.here hx rfl (hb hby d1_7) rfl ?_
    show SF p e below s₁ (mkF m 8 #[iv ((u1.toUInt32 >>> ((2 : Int32) &&& 31).toUInt32).toInt32), iv u2, iv u3, iv ((u2 &&& (255 : Int32)).toUInt32.toUInt16.toUInt32.toInt32), .unset] [(.int u3)]) _
    refine XS.sipush X0.here hx rfl (hb hby d1_8) ?_
    show SF p e below s₁ (mkF m 11 #[iv ((u1.toUInt32 >>> ((2 : Int32) &&& 31).toUInt32).toInt32), iv u2, iv u3, iv ((u2 &&& (255 : Int32)).toUInt32.toUInt16.toUInt32.toInt32), .unset] [(.int 255), (.int u3)]) _
    refine XS.iand X0.here hx rfl (hb hby d1_11) rfl ?_
    show SF p e below s₁ (mkF m 12 #[iv ((u1.toUInt32 >>> ((2 : Int32) &&& 31).toUInt32).toInt32), iv u2, iv u3, iv ((u2 &&& (255 : Int32)).toUInt32.toUInt16.toUInt32.toInt32), .unset] [(.int (u3 &&& (255 : Int32)))]) _
    refine XS.i2c X0.here hx rfl (hb hby d1_12) rfl ?_
    show SF p e below s₁ (mkF m 13 #[iv ((u1.toUInt32 >>> ((2 : Int32) &&& 31).toUInt32).toInt32), iv u2, iv u3, iv ((u2 &&& (255 : Int32)).toUInt32.toUInt16.toUInt32.toInt32), .unset] [(.int ((u3 &&& (255 : Int32)).toUInt32.toUInt16.toUInt32.toInt32))]) _
    refine XS.istore X0.here hx rfl (hb hby d1_13) rfl (l' := #[iv ((u1.toUInt32 >>> ((2 : Int32) &&& 31).toUInt32).toInt32), iv u2, iv u3, iv ((u2 &&& (255 : Int32)).toUInt32.toUInt16.toUInt32.toInt32), iv ((u3 &&& (255 : Int32)).toUInt32.toUInt16.toUInt32.toInt32)]) rfl ?_
    refine XS.iloadN X0.here hx rfl (hb hby d1_15) rfl ?_
    show SF p e below s₁ (mkF m 16 #[iv ((u1.toUInt32 >>> ((2 : Int32) &&& 31).toUInt32).toInt32), iv u2, iv u3, iv ((u2 &&& (255 : Int32)).toUInt32.toUInt16.toUInt32.toInt32), iv ((u3 &&& (255 : Int32)).toUInt32.toUInt16.toUInt32.toInt32)] [(.int ((u1.toUInt32 >>> ((2 : Int32) &&& 31).toUInt32).toInt32))]) _
    refine XS.iconst X0.here hx rfl (hb hby d1_16) ?_
    show SF p e below s₁ (mkF m 17 #[iv ((u1.toUInt32 >>> ((2 : Int32) &&& 31).toUInt32).toInt32), iv u2, iv u3, iv ((u2 &&& (255 : Int32)).toUInt32.toUInt16.toUInt32.toInt32), iv ((u3 &&& (255 : Int32)).toUInt32.toUInt16.toUInt32.toInt32)] [(.int 1), (.int ((u1.toUInt32 >>> ((2 : Int32) &&& 31).toUInt32).toInt32))]) _
    refine XS.iand X0.here hx rfl (hb hby d1_17) rfl ?_
    show SF p e below s₁ (mkF m 18 #[iv ((u1.toUInt32 >>> ((2 : Int32) &&& 31).toUInt32).toInt32), iv u2, iv u3, iv ((u2 &&& (255 : Int32)).toUInt32.toUInt16.toUInt32.toInt32), iv ((u3 &&& (255 : Int32)).toUInt32.toUInt16.toUInt32.toInt32)] [(.int (((u1.toUInt32 >>> ((2 : Int32) &&& 31).toUInt32).toInt32) &&& (1 : Int32)))]) _
    refine XS.ifNo X0.here hx rfl (hb hby d1_18) rfl ((if0 _ _).trans (feq P1).1) ?_
    show SF p e below s₁ (mkF m 21 #[iv ((u1.toUInt32 >>> ((2 : Int32) &&& 31).toUInt32).toInt32), iv u2, iv u3, iv ((u2 &&& (255 : Int32)).toUInt32.toUInt16.toUInt32.toInt32), iv ((u3 &&& (255 : Int32)).toUInt32.toUInt16.toUInt32.toInt32)] []) _
    refine st1 _ ?_
    show SF p e below T1 (mkF m 24 #[iv ((u1.toUInt32 >>> ((2 : Int32) &&& 31).toUInt32).toInt32), iv u2, iv u3, iv ((u2 &&& (255 : Int32)).toUInt32.toUInt16.toUInt32.toInt32), iv ((u3 &&& (255 : Int32)).toUInt32.toUInt16.toUInt32.toInt32)] [(.ref e1x)]) _
    refine XS.dup X1.here hx rfl (hb hby d1_24) rfl rfl ?_
    refine XS.iconst X1.here hx rfl (hb hby d1_25) ?_
    show SF p e below T1 (mkF m 26 #[iv ((u1.toUInt32 >>> ((2 : Int32) &&& 31).toUInt32).toInt32), iv u2, iv u3, iv ((u2 &&& (255 : Int32)).toUInt32.toUInt16.toUInt32.toInt32), iv ((u3 &&& (255 : Int32)).toUInt32.toUInt16.toUInt32.toInt32)] [(.int 2), (.ref e1x), (.ref e1x)]) _
    refine st4 _ ?_
    show SF p e below T4 (mkF m 28 #[iv ((u1.toUInt32 >>> ((2 : Int32) &&& 31).toUInt32).toInt32), iv u2, iv u3, iv ((u2 &&& (255 : Int32)).toUInt32.toUInt16.toUInt32.toInt32), iv ((u3 &&& (255 : Int32)).toUInt32.toUInt16.toUInt32.toInt32)] [(.ref w7x), (.ref e1x), (.ref e1x)]) _
    refine XS.dup X4.here hx rfl (hb hby d1_28) rfl rfl ?_
    refine XS.iconst X4.here hx rfl (hb hby d1_29) ?_
    show SF p e below T4 (mkF m 30 #[iv ((u1.toUInt32 >>> ((2 : Int32) &&& 31).toUInt32).toInt32), iv u2, iv u3, iv ((u2 &&& (255 : Int32)).toUInt32.toUInt16.toUInt32.toInt32), iv ((u3 &&& (255 : Int32)).toUInt32.toUInt16.toUInt32.toInt32)] [(.int 0), (.ref w7x), (.ref w7x), (.ref e1x), (.ref e1x)]) _
    refine XS.iloadN X4.here hx rfl (hb hby d1_30) rfl ?_
    show SF p e below T4 (mkF m 31 #[iv ((u1.toUInt32 >>> ((2 : Int32) &&& 31).toUInt32).toInt32), iv u2, iv u3, iv ((u2 &&& (255 : Int32)).toUInt32.toUInt16.toUInt32.toInt32), iv ((u3 &&& (255 : Int32)).toUInt32.toUInt16.toUInt32.toInt32)] [(.int ((u2 &&& (255 : Int32)).toUInt32.toUInt16.toUInt32.toInt32)), (.int 0), (.ref w7x), (.ref w7x), (.ref e1x), (.ref e1x)]) _
    refine st6 _ ?_
    show SF p e below T6 (mkF m 32 #[iv ((u1.toUInt32 >>> ((2 : Int32) &&& 31).toUInt32).toInt32), iv u2, iv u3, iv ((u2 &&& (255 : Int32)).toUInt32.toUInt16.toUInt32.toInt32), iv ((u3 &&& (255 : Int32)).toUInt32.toUInt16.toUInt32.toInt32)] [(.ref w7x), (.ref e1x), (.ref e1x)]) _
    refine XS.dup X6.here hx rfl (hb hby d1_32) rfl rfl ?_
    refine XS.iconst X6.here hx rfl (hb hby d1_33) ?_
    show SF p e below T6 (mkF m 34 #[iv ((u1.toUInt32 >>> ((2 : Int32) &&& 31).toUInt32).toInt32), iv u2, iv u3, iv ((u2 &&& (255 : Int32)).toUInt32.toUInt16.toUInt32.toInt32), iv ((u3 &&& (255 : Int32)).toUInt32.toUInt16.toUInt32.toInt32)] [(.int 1), (.ref w7x), (.ref w7x), (.ref e1x), (.ref e1x)]) _
    refine XS.iload X6.here hx rfl (hb hby d1_34) rfl ?_
    show SF p e below T6 (mkF m 36 #[iv ((u1.toUInt32 >>> ((2 : Int32) &&& 31).toUInt32).toInt32), iv u2, iv u3, iv ((u2 &&& (255 : Int32)).toUInt32.toUInt16.toUInt32.toInt32), iv ((u3 &&& (255 : Int32)).toUInt32.toUInt16.toUInt32.toInt32)] [(.int ((u3 &&& (255 : Int32)).toUInt32.toUInt16.toUInt32.toInt32)), (.int 1), (.ref w7x), (.ref w7x), (.ref e1x), (.ref e1x)]) _
    refine st8 _ ?_
    show SF p e below T8 (mkF m 37 #[iv ((u1.toUInt32 >>> ((2 : Int32) &&& 31).toUInt32).toInt32), iv u2, iv u3, iv ((u2 &&& (255 : Int32)).toUInt32.toUInt16.toUInt32.toInt32), iv ((u3 &&& (255 : Int32)).toUInt32.toUInt16.toUInt32.toInt32)] [(.ref w7x), (.ref e1x), (.ref e1x)]) _
    refine st19.trans ?_
    show SF p e below T19 (mkF m 40 #[iv ((u1.toUInt32 >>> ((2 : Int32) &&& 31).toUInt32).toInt32), iv u2, iv u3, iv ((u2 &&& (255 : Int32)).toUInt32.toUInt16.toUInt32.toInt32), iv ((u3 &&& (255 : Int32)).toUInt32.toUInt16.toUInt32.toInt32)] [(.ref e1x)]) _
    exact own_retR X19 hx Bd.returns rfl rfl (hb hby d1_40) hr
  · show Q1_8 Z u1 u2 u3 GC h0 n0 _ T19.heap _
    exact ⟨e1x, e2x, e3x, sz0_b9, sz0_b12, (Nat.ne_of_lt (Nat.lt_of_lt_of_le lt_b9_4 bz_b12)), rfl, N19, K19, Fx19, Fc19, Fv19, Va19⟩
-- Keyword.init 
def Q8_9 (Z : State) (u1 : Addr) (u2 : Addr) (u3 : Addr) (u4 : ClassId) (u5 : Int32) (u6 : Int32) (h0 : Heap) (n0 : Nat) (v : Option Value) (h : Heap) (L : List Loc) : Prop := v = none ∧ Fr n0 L ∧ Keep h0 h [u1] ∧ Exa Z h u1 "com/example/qedbox/qedbox/Keyword" ∧ Fld Z h u1 "com/example/qedbox/qedbox/Keyword" "domain" "Ljava/lang/String;" .null ∧ Fld Z h u1 "com/example/qedbox/qedbox/Keyword" "value" "Ljava/lang/String;" (.ref u2)
set_option maxRecDepth 65536 in
set_option maxHeartbeats 40000000 in
theorem rm8_9 (l : Launch) (Z : State) (a0 : Array Value) (hw : HW Z a0) (ws : List Jvm.Cond) (u1 : Addr) (u2 : Addr) (u3 : Addr) (u4 : ClassId) (u5 : Int32) (u6 : Int32) (h0 : Heap) (n0 : Nat) (Z0 : n0 ≤ h0.size) (P1 : Exa Z h0 u2 "java/lang/String") (P2 : Fld Z h0 u2 "java/lang/String" "value" "[B" (.ref u3)) (P3 : Fld Z h0 u2 "java/lang/String" "coder" "B" (.int 0)) (P4 : Arv Z h0 u3 u4 .byte (2 : Int32) (((([(nar .char ((u5 &&& (255 : Int32)).toUInt32.toUInt16.toUInt32.toInt32)), (nar .char ((u6 &&& (255 : Int32)).toUInt32.toUInt16.toUInt32.toInt32))] : List Int32)).map (fun c => c.toInt8.toInt32)).map Value.int) (.int (0 : Int32))) (P5 : Exa Z h0 u1 "com/example/qedbox/qedbox/Keyword") (P6 : Fld Z h0 u1 "com/example/qedbox/qedbox/Keyword" "domain" "Ljava/lang/String;" .null) (P7 : Fld Z h0 u1 "com/example/qedbox/qedbox/Keyword" "value" "Ljava/lang/String;" .null) (P8 : n0 ≤ u1) :
    MFW l Z (⟨"com/example/qedbox/qedbox/Keyword", "<init>", "(Ljava/lang/String;Ljava/lang/String;)V"⟩ : MethodName) (Jvm.Cond.code (⟨"com/example/qedbox/qedbox/Keyword", "<init>", "(Ljava/lang/String;Ljava/lang/String;)V"⟩ : MethodName) prog_8_method_1_code 3 none) ws ({ frames := 2, cells := 2, slots := 24, locals := 24 } : Room) #[(.ref u1), .null, (.ref u2)] h0 (Q8_9 Z u1 u2 u3 u4 u5 u6 h0 n0) := by
  refine MetFree.of_bodySF (plainFor_of_name pn_3) hisR ?_
  intro p e s m args below meth c s₁ Bd hml0 hP hK
  obtain ⟨rfl, hZ, hh⟩ := hP
  have hx := Bd.exec
  have hby := Bd.bytes
  have hml : c.maxLocals = 3 := hml0
  have hown : s.vm.findClass "com/example/qedbox/qedbox/Keyword" = some m.cls := findClass_of_methodNamed Bd.named
  have hnm := (name_of_methodNamed Bd.named Bd.method).1
  have X0 : Stand p l e ({ frames := 2, cells := 2, slots := 24, locals := 24 } : Room) s m #[(.ref u1), .null, (.ref u2)] below meth c s₁ [] 0 0 := Stand.of_body Bd
  have e0 : s₁.heap = h0 := by rw [← hh, Bd.state]; rfl
  have N0 := Fr.nil n0
  have pre0 : ∀ t, SF p e below s₁ (mkF m 0 #[rv u1, .val .null, rv u2] []) t → SF p e below s₁ (entryFrame m #[(.ref u1), .null, (.ref u2)] 3) t := fun t k => castTop (ef_3 m u1 u2) k
  obtain ⟨_, _, ⟨T1, L1, k1x, n1⟩, -, X1, ⟨Lc1, hQ1, l1, y1, z1⟩, st1⟩ := X0.specialBack hx (y := (⟨"java/lang/Record", "<init>", "()V"⟩ : MethodName)) rfl hown (mvT hZ (tw hw 40 rfl)) (mvT hZ (tw hw 41 rfl)) (mvT hZ (tw hw 44 rfl)) (by decide) (backOf (W := 0) (rm9_3 l Z a0 hw [] u1 h0 n0 Z0 ) hZ (tw hw 44 rfl) (tw hw 43 rfl) (by decide) (by decide)) (g := (mkF m 1 #[rv u1, .val .null, rv u2] [(.ref u1)])) rfl (by rw [hml]; rfl) (Steps.refl _) (a := u1) (argsL := []) (rest := []) (lenOf pd_2 rfl) rfl (by show 2 * 0 + _ ≤ _; exact Nat.le_of_eq rfl) (hb hby d8_1) (fun _ _ => ⟨rfl, e0, (by decide : 0 + 0 ≤ _), (by decide : 0 + 0 ≤ _)⟩)
  dsimp only [Pt.U, Pt.locs, Pt.cells, Pt.slots] at X1 l1 y1 z1 st1 hQ1
  subst l1 y1 z1
  obtain ⟨rfl, N1q, e1⟩ := hQ1
  have N1 := Fr.app N0 N1q
  have hwSA : ∀ d ∈ Bundle.stringAtoms, d.before a0 Z = true := fun d hd => hw d (own_strA d hd)
  have hS0 : s.Since s.vm h0.size := State.WarmedH.since (State.WarmedH.refl s) _
  have hk0 : h0.size ≤ h0.size := Nat.le_refl _
  obtain ⟨w7x, T2, h2, kq2, X2, e2, E2, hS2, hk2, hZ2, hown2, st2⟩ := ldcS (s := s) (vm0 := s.vm) X1 hx hZ hown (tw hw 46 rfl) hwSA e1 hS0 hk0 (g := (mkF m 5 #[rv u1, .val .null, rv u2] [(.ref u2)])) rfl (hb hby d8_5) (n := 20) (by decide) (by decide) (by decide) (by decide)
  have K2 : Keep h0 h2 [u1] := (Keep.refl h0 [u1]).ext E2
  have Z2 : n0 ≤ h2.size := Nat.le_trans Z0 E2.1
  obtain ⟨_, _, ⟨T3, L3, k3x, n3⟩, -, X3, ⟨Lc3, hQ3, l3, y3, z3⟩, st3⟩ := Jvm.LawKit.callS X2 hx (y := (⟨"java/util/Objects", "requireNonNull", "(Ljava/lang/Object;Ljava/lang/String;)Ljava/lang/Object;"⟩ : MethodName)) hown2 (mvT hZ2 (tw hw 49 rfl)) (mvT hZ2 (tw hw 50 rfl)) (mvT hZ2 (tw hw 51 rfl)) (mvT hZ2 (tw hw 52 rfl)) (by decide) (backOf (W := 0) (rm10_4 l Z a0 hw [] u2 w7x h2 n0 Z2 ) hZ2 (tw hw 52 rfl) (tw hw 51 rfl) (by decide) (by decide)) (g := (mkF m 7 #[rv u1, .val .null, rv u2] [(.ref w7x), (.ref u2)])) rfl (by rw [hml]; rfl) (argsL := [(.ref u2), (.ref w7x)]) (rest := []) (lenOf pd_3 rfl) rfl (by show 2 * 0 + _ ≤ _; exact Nat.le_of_eq rfl) (hb hby d8_7) (fun _ _ => ⟨rfl, e2, (by decide : 2 + 0 ≤ _), (by decide : 24 + 0 ≤ _)⟩)
  dsimp only [Pt.U, Pt.locs, Pt.cells, Pt.slots] at X3 l3 y3 z3 st3 hQ3
  subst l3 y3 z3
  obtain ⟨rfl, N3q, e3⟩ := hQ3
  have N3 := Fr.app N1 N3q
  have F1_4 : Exa Z h2 u2 "java/lang/String" := P1.ext E2
  have hwwordsEmp : ∀ d ∈ StrChars.Road.wordsEmp, d.before a0 Z = true := fun d hd => hw d (own_wordsEmp d hd)
  have F1_5 : Fld Z h2 u2 "java/lang/String" "value" "[B" (.ref u3) := P2.ext E2
  have F1_6 : Fld Z h2 u2 "java/lang/String" "coder" "B" (.int 0) := P3.ext E2
  have F1_7 : Arv Z h2 u3 u4 .byte (2 : Int32) (((([(nar .char ((u5 &&& (255 : Int32)).toUInt32.toUInt16.toUInt32.toInt32)), (nar .char ((u6 &&& (255 : Int32)).toUInt32.toUInt16.toUInt32.toInt32))] : List Int32)).map (fun c => c.toInt8.toInt32)).map Value.int) (.int (0 : Int32)) := P4.ext E2
  have hp8 : ∀ c ∈ ([(nar .char ((u5 &&& (255 : Int32)).toUInt32.toUInt16.toUInt32.toInt32)), (nar .char ((u6 &&& (255 : Int32)).toUInt32.toUInt16.toUInt32.toInt32))] : List Int32), ¬ c < 0 ∧ ¬ (255 : Int32) < c := by
    intro c hc
    simp only [List.mem_cons, List.not_mem_nil, or_false] at hc
    rcases hc with rfl | rfl
    · exact own_chars u5
    · exact own_chars u6
  have hcd9 : StrChars.Road.CodA ([(nar .char ((u5 &&& (255 : Int32)).toUInt32.toUInt16.toUInt32.toInt32)), (nar .char ((u6 &&& (255 : Int32)).toUInt32.toUInt16.toUInt32.toInt32))] : List Int32) 0 (2 : Int32) (((([(nar .char ((u5 &&& (255 : Int32)).toUInt32.toUInt16.toUInt32.toInt32)), (nar .char ((u6 &&& (255 : Int32)).toUInt32.toUInt16.toUInt32.toInt32))] : List Int32)).map (fun c => c.toInt8.toInt32)).map Value.int) := StrChars.Road.codOf (n := 2) rfl (fun c hc => (hp8 c hc).2)
  have hbd9 : ∀ c ∈ ([(nar .char ((u5 &&& (255 : Int32)).toUInt32.toUInt16.toUInt32.toInt32)), (nar .char ((u6 &&& (255 : Int32)).toUInt32.toUInt16.toUInt32.toInt32))] : List Int32), ¬ c < 0 ∧ ¬ (65535 : Int32) < c := own_up _ hp8
  obtain ⟨cq10, kq10, q10a, q10b, q10c⟩ := isOf hZ2 e3 F1_4
  obtain ⟨_, _, ⟨T10, L10, k10x, n10⟩, -, X10, ⟨Lc10, hQ10, l10, y10, z10⟩, st10⟩ := X3.virtualBack hx (y := (⟨"java/lang/String", "isEmpty", "()Z"⟩ : MethodName)) (z := (⟨"java/lang/String", "isEmpty", "()Z"⟩ : MethodName)) hown2 (mvT hZ2 (tw hw 53 rfl)) (mvT hZ2 (tw hw 54 rfl)) (notFace_of_selects (args := #[]) (mvT hZ2 (tw hw 56 rfl))) (mvT hZ2 (tw hw 56 rfl)) (mvT hZ2 (tw hw 55 rfl)) (by decide) (StrChars.Road.empW (W := 0) hZ2 hwwordsEmp (kI := 4) (tw hw 5 rfl) F1_4 F1_5 F1_6 F1_7 hcd9 hbd9 (Nat.le_of_ble_eq_true rfl) (by decide) (by decide)) q10a q10c (g := (mkF m 33 #[rv u1, .val .null, rv u2] [(.ref u2)])) rfl (by rw [hml]; rfl) (Steps.refl _) (argsL := []) (rest := []) (lenOf pd_4 rfl) rfl (by show 2 * 0 + _ ≤ _; exact Nat.le_of_eq rfl) (hb hby d8_33) (fun _ _ => ⟨rfl, e3, (by decide : 2 + 0 ≤ _), (by decide : 24 + 0 ≤ _)⟩)
  dsimp only [Pt.U, Pt.locs, Pt.cells, Pt.slots] at X10 l10 y10 z10 st10 hQ10
  subst l10 y10 z10
  obtain ⟨rfl, rfl, e10⟩ := hQ10
  have N10 := Fr.app N3 (Fr.nil n0)
  have F1_11 : Exa Z h2 u1 "com/example/qedbox/qedbox/Keyword" := P5.ext E2
  have F1_12 : Fld Z h2 u1 "com/example/qedbox/qedbox/Keyword" "domain" "Ljava/lang/String;" .null := P6.ext E2
  have F1_13 : Fld Z h2 u1 "com/example/qedbox/qedbox/Keyword" "value" "Ljava/lang/String;" .null := P7.ext E2
  obtain ⟨T14, h14, X14, e14, W14, st14⟩ := putF X10 hx hZ2 hown2 (host := "") (Or.inl (tw hw 58 rfl)) Via.refl e10 F1_12 F1_11 (Or.inr ⟨(tw hw 59 rfl), rfl, hnm⟩) (tw hw 35 rfl) (ty := (.object "java/lang/String")) (by decide) rfl rfl (g := (mkF m 51 #[rv u1, .val .null, rv u2] [.null, (.ref u1)])) rfl rfl (hb hby d8_51)
  have K14 : Keep h0 h14 [u1] := K2.wr W14 (Or.inl (List.mem_of_getElem? (i := 0) rfl))
  have N14 := Fr.snoc X14 N10 P8
  have Fw14 : Fld Z h14 u1 "com/example/qedbox/qedbox/Keyword" "domain" "Ljava/lang/String;" .null := F1_12.same W14
  have F2_15 : Exa Z h14 u1 "com/example/qedbox/qedbox/Keyword" := F1_11.wr W14
  have F2_16 : Fld Z h14 u1 "com/example/qedbox/qedbox/Keyword" "value" "Ljava/lang/String;" .null := F1_13.other W14 (Or.inr (slot_ne (Or.inr (tw hw 61 rfl)) (Or.inr (tw hw 59 rfl)) (by decide) (t := (.object "java/lang/String")) (t' := (.object "java/lang/String")) (by decide) (by decide)))
  obtain ⟨T17, h17, X17, e17, W17, st17⟩ := putF X14 hx hZ2 hown2 (host := "") (Or.inl (tw hw 60 rfl)) Via.refl e14 F2_16 F2_15 (Or.inr ⟨(tw hw 61 rfl), rfl, hnm⟩) (tw hw 35 rfl) (ty := (.object "java/lang/String")) (by decide) rfl rfl (g := (mkF m 56 #[rv u1, .val .null, rv u2] [(.ref u2), (.ref u1)])) rfl rfl (hb hby d8_56)
  have K17 : Keep h0 h17 [u1] := K14.wr W17 (Or.inl (List.mem_of_getElem? (i := 0) rfl))
  have N17 := Fr.snoc X17 N14 P8
  have Fw17 : Fld Z h17 u1 "com/example/qedbox/qedbox/Keyword" "value" "Ljava/lang/String;" (.ref u2) := F2_16.same W17
  have F3_18 : Exa Z h17 u1 "com/example/qedbox/qedbox/Keyword" := F2_15.wr W17
  have F3_19 : Fld Z h17 u1 "com/example/qedbox/qedbox/Keyword" "domain" "Ljava/lang/String;" .null := Fw14.other W17 (Or.inr (slot_ne (Or.inr (tw hw 59 rfl)) (Or.inr (tw hw 61 rfl)) (by decide) (t := (.object "java/lang/String")) (t' := (.object "java/lang/String")) (by decide) (by decide)))
  have hkk14_2 : kq2 ≤ h14.size := Nat.le_trans hk2 (Keep.of_wr W14).1
  have hkk17_3 : kq2 ≤ h17.size := Nat.le_trans hkk14_2 (Keep.of_wr W17).1
  obtain ⟨fs, hr, hrun, hended, hRW⟩ := X17.leaveW hS2 (by rw [e17]; exact hkk17_3) (v := none) (fun _ => rfl)
  refine ⟨_, _, pre0 _ ?_, hrun, hended, _, _, rfl, ?_, hRW.1, hRW.2.1, hRW.2.2.1, hRW.2.2.2.mono (by decide) (by decide)⟩
  · show SF p e below s₁ (mkF m 0 #[rv u1, .val .null, rv u2] []) _
    refine XS.aloadN X0.here hx rfl (hb hby d8_0) rfl rfl ?_
    show SF p e below s₁ (mkF m 1 #[rv u1, .val .null, rv u2] [(.ref u1)]) _
    refine st1.trans ?_
    show SF p e below T1 (mkF m 4 #[rv u1, .val .null, rv u2] []) _
    refine XS.aloadN X1.here hx rfl (hb hby d8_4) rfl rfl ?_
    show SF p e below T1 (mkF m 5 #[rv u1, .val .null, rv u2] [(.ref u2)]) _
    refine st2 _ ?_
    show SF p e below T2 (mkF m 7 #[rv u1, .val .null, rv u2] [(.ref w7x), (.ref u2)]) _
    refine st3 _ ?_
    show SF p e below T3 (mkF m 10 #[rv u1, .val .null, rv u2] [(.ref u2)]) _
    refine XS.pop X3.here hx rfl (hb hby d8_10) rfl rfl ?_
    refine XS.aloadN X3.here hx rfl (hb hby d8_11) rfl rfl ?_
    show SF p e below T3 (mkF m 12 #[rv u1, .val .null, rv u2] [.null]) _
    refine XS.ifnullYes X3.here hx rfl (pc0 := 12) (pc' := 32) rfl (hb hby d8_12) rfl (by decide) (by decide) ?_
    show SF p e below T3 (mkF m 32 #[rv u1, .val .null, rv u2] []) _
    refine XS.aloadN X3.here hx rfl (hb hby d8_32) rfl rfl ?_
    show SF p e below T3 (mkF m 33 #[rv u1, .val .null, rv u2] [(.ref u2)]) _
    refine st10.trans ?_
    show SF p e below T10 (mkF m 36 #[rv u1, .val .null, rv u2] [(.int 0)]) _
    refine XS.ifYes X10.here hx rfl (pc0 := 36) (pc' := 49) rfl (hb hby d8_36) rfl ((if0 _ _).trans (teq (by decide : (0 : Int32) = (0 : Int32))).1) (by decide) (by decide) ?_
    show SF p e below T10 (mkF m 49 #[rv u1, .val .null, rv u2] []) _
    refine XS.aloadN X10.here hx rfl (hb hby d8_49) rfl rfl ?_
    refine XS.aloadN X10.here hx rfl (hb hby d8_50) rfl rfl ?_
    show SF p e below T10 (mkF m 51 #[rv u1, .val .null, rv u2] [.null, (.ref u1)]) _
    refine st14 _ ?_
    show SF p e below T14 (mkF m 54 #[rv u1, .val .null, rv u2] []) _
    refine XS.aloadN X14.here hx rfl (hb hby d8_54) rfl rfl ?_
    refine XS.aloadN X14.here hx rfl (hb hby d8_55) rfl rfl ?_
    show SF p e below T14 (mkF m 56 #[rv u1, .val .null, rv u2] [(.ref u2), (.ref u1)]) _
    refine st17 _ ?_
    show SF p e below T17 (mkF m 59 #[rv u1, .val .null, rv u2] []) _
    exact X17.returnOut hx Bd.returns (hb hby d8_59) hr
  · show Q8_9 Z u1 u2 u3 u4 u5 u6 h0 n0 _ T17.heap _
    rw [e17]
    exact ⟨rfl, N17, K17, F3_18, F3_19, Fw17⟩
-- KeywordHasDomainPinLaw.draw 
def Q1_10 (Z : State) (u1 : Int32) (u2 : Int32) (u3 : Int32) (GC : Int32) (h0 : Heap) (n0 : Nat) (v : Option Value) (h : Heap) (L : List Loc) : Prop := ∃ e1x : Addr, ∃ e2x : Addr, ∃ e3x : ClassId, h0.size ≤ e1x ∧ h0.size ≤ e2x ∧ e1x ≠ e2x ∧ v = some (.ref e1x) ∧ Fr n0 L ∧ Keep h0 h [] ∧ Exa Z h e1x "java/lang/String" ∧ Fld Z h e1x "java/lang/String" "coder" "B" (.int 0) ∧ Fld Z h e1x "java/lang/String" "value" "[B" (.ref e2x) ∧ Arv Z h e2x e3x .byte (2 : Int32) (((([(nar .char ((u2 &&& (255 : Int32)).toUInt32.toUInt16.toUInt32.toInt32)), (nar .char ((u3 &&& (255 : Int32)).toUInt32.toUInt16.toUInt32.toInt32))] : List Int32)).map (fun c => c.toInt8.toInt32)).map Value.int) (.int (0 : Int32))
set_option maxRecDepth 65536 in
set_option maxHeartbeats 40000000 in
theorem rm1_10 (l : Launch) (Z : State) (a0 : Array Value) (hw : HW Z a0) (ws : List Jvm.Cond) (u1 : Int32) (u2 : Int32) (u3 : Int32) (GC : Int32) (h0 : Heap) (n0 : Nat) (Z0 : n0 ≤ h0.size) (P1 : ¬ ((((u1.toUInt32 >>> ((1 : Int32) &&& 31).toUInt32).toInt32) &&& (1 : Int32)) = (0 : Int32))) (Sg0 : Sta Z Z.heap "java/lang/String" "COMPACT_STRINGS" "Z" (.int GC)) (P3 : Old Z n0 h0) (nzGC : ¬ (GC = (0 : Int32))) :
    MF l Z (⟨"com/example/qedbox/qedbox/KeywordHasDomainPinLaw", "draw", "(III)Ljava/lang/String;"⟩ : MethodName) (Jvm.Cond.code (⟨"com/example/qedbox/qedbox/KeywordHasDomainPinLaw", "draw", "(III)Ljava/lang/String;"⟩ : MethodName) method_2_code 5 (some (.object "java/lang/String"))) ws ({ frames := 4, cells := 3, slots := 8, locals := 66 } : Room) #[(.int ((u1.toUInt32 >>> ((1 : Int32) &&& 31).toUInt32).toInt32)), (.int u2), (.int u3)] h0 (Q1_10 Z u1 u2 u3 GC h0 n0) := by
  refine MetFree.of_bodySF (plainFor_of_name pn_0) hisR ?_
  intro p e s m args below meth c s₁ Bd hml0 hP hK
  obtain ⟨rfl, hZ, hh⟩ := hP
  have hx := Bd.exec
  have hby := Bd.bytes
  have hml : c.maxLocals = 5 := hml0
  have hown : s.vm.findClass "com/example/qedbox/qedbox/KeywordHasDomainPinLaw" = some m.cls := findClass_of_methodNamed Bd.named
  have hnm := (name_of_methodNamed Bd.named Bd.method).1
  have X0 : Stand p l e ({ frames := 4, cells := 3, slots := 8, locals := 66 } : Room) s m #[(.int ((u1.toUInt32 >>> ((1 : Int32) &&& 31).toUInt32).toInt32)), (.int u2), (.int u3)] below meth c s₁ [] 0 0 := Stand.of_body Bd
  have e0 : s₁.heap = h0 := by rw [← hh, Bd.state]; rfl
  have N0 := Fr.nil n0
  have pre0 : ∀ t, SF p e below s₁ (mkF m 0 #[iv ((u1.toUInt32 >>> ((1 : Int32) &&& 31).toUInt32).toInt32), iv u2, iv u3, .unset, .unset] []) t → SF p e below s₁ (entryFrame m #[(.int ((u1.toUInt32 >>> ((1 : Int32) &&& 31).toUInt32).toInt32)), (.int u2), (.int u3)] 5) t := fun t k => castTop (ef_0 m ((u1.toUInt32 >>> ((1 : Int32) &&& 31).toUInt32).toInt32) u2 u3) k
  obtain ⟨T1, h1, X1, e1, E1, A1, D1, -, st1⟩ := newO X0 hx hZ hown (tw hw 4 rfl) (tw hw 5 rfl) (tw hw 6 rfl) e0 (g := (mkF m 21 #[iv ((u1.toUInt32 >>> ((1 : Int32) &&& 31).toUInt32).toInt32), iv u2, iv u3, iv ((u2 &&& (255 : Int32)).toUInt32.toUInt16.toUInt32.toInt32), iv ((u3 &&& (255 : Int32)).toUInt32.toUInt16.toUInt32.toInt32)] [])) rfl (hb hby d1_21) (by decide) (by decide)
  obtain ⟨e1x, g1⟩ : ∃ z, z = h0.size := ⟨_, rfl⟩
  rw [← g1] at A1 D1 st1
  have K1 : Keep h0 h1 [] := (Keep.refl h0 []).ext E1
  have Fn2 : Fld Z h1 e1x "java/lang/String" "coder" "B" (.int 0) := D1 (Or.inr (tw hw 31 rfl)) (ty := .byte) (by decide)
  have Fn3 : Fld Z h1 e1x "java/lang/String" "value" "[B" .null := D1 (Or.inr (tw hw 33 rfl)) (ty := (.array .byte)) (by decide)
  obtain ⟨T4, h4, w8x, X4, e4, E4, A4, st4⟩ := newP X1 hx hZ (tw hw 7 rfl) e1 (g := (mkF m 26 #[iv ((u1.toUInt32 >>> ((1 : Int32) &&& 31).toUInt32).toInt32), iv u2, iv u3, iv ((u2 &&& (255 : Int32)).toUInt32.toUInt16.toUInt32.toInt32), iv ((u3 &&& (255 : Int32)).toUInt32.toUInt16.toUInt32.toInt32)] [(.int 2), (.ref e1x), (.ref e1x)])) rfl (hb hby d1_26) rfl (by decide) (cap := 2) (by decide) (by decide) (by decide) (by decide)
  obtain ⟨w7x, g4⟩ : ∃ z, z = h1.size := ⟨_, rfl⟩
  rw [← g4] at A4 st4
  have K4 : Keep h0 h4 [] := K1.ext E4
  have V4 : Arv Z h4 w7x w8x .char (2 : Int32) [(.int 0), (.int 0)] (.int (0 : Int32)) := (Arv.new A4 (by decide)).pad (pad_rep [] (.int (0 : Int32)) 2)
  obtain ⟨cl5, Ar5, q5, S5, N5z, H5, G5⟩ := id V4
  have hin5 : ¬ ((0 : Int32) < 0 ∨ cl5.slots.size ≤ ((0 : Int32)).toNatClampNeg) := inb_of S5 ⟨by decide, by decide⟩
  obtain ⟨T6, h6, X6, e6, W6, st6⟩ := stC X4 hx hZ e4 Ar5 (j := (0 : Int32)) hin5 (g := (mkF m 31 #[iv ((u1.toUInt32 >>> ((1 : Int32) &&& 31).toUInt32).toInt32), iv u2, iv u3, iv ((u2 &&& (255 : Int32)).toUInt32.toUInt16.toUInt32.toInt32), iv ((u3 &&& (255 : Int32)).toUInt32.toUInt16.toUInt32.toInt32)] [(.int ((u2 &&& (255 : Int32)).toUInt32.toUInt16.toUInt32.toInt32)), (.int 0), (.ref w7x), (.ref w7x), (.ref e1x), (.ref e1x)])) rfl rfl (hb hby d1_31)
  have Z1 : n0 ≤ h1.size := Nat.le_trans Z0 E1.1
  have g_b3 : n0 ≤ w7x := Nat.le_trans Z1 (Nat.le_of_eq g4.symm)
  have sz0_b3 : h0.size ≤ w7x := Nat.le_trans K1.1 (Nat.le_of_eq g4.symm)
  have K6 : Keep h0 h6 [] := K4.wr W6 (Or.inr sz0_b3)
  have N6 := Fr.snoc X6 N0 g_b3
  have V6 : Arv Z h6 w7x w8x .char (2 : Int32) [(.int (nar .char ((u2 &&& (255 : Int32)).toUInt32.toUInt16.toUInt32.toInt32))), (.int 0)] (.int (0 : Int32)) := Arv.set Ar5 q5 S5 N5z H5 G5 (fits_nar_char _) W6 0 rfl (Nat.le_of_ble_eq_true rfl)
  obtain ⟨cl7, Ar7, q7, S7, N7z, H7, G7⟩ := id V6
  have hin7 : ¬ ((1 : Int32) < 0 ∨ cl7.slots.size ≤ ((1 : Int32)).toNatClampNeg) := inb_of S7 ⟨by decide, by decide⟩
  obtain ⟨T8, h8, X8, e8, W8, st8⟩ := stC X6 hx hZ e6 Ar7 (j := (1 : Int32)) hin7 (g := (mkF m 36 #[iv ((u1.toUInt32 >>> ((1 : Int32) &&& 31).toUInt32).toInt32), iv u2, iv u3, iv ((u2 &&& (255 : Int32)).toUInt32.toUInt16.toUInt32.toInt32), iv ((u3 &&& (255 : Int32)).toUInt32.toUInt16.toUInt32.toInt32)] [(.int ((u3 &&& (255 : Int32)).toUInt32.toUInt16.toUInt32.toInt32)), (.int 1), (.ref w7x), (.ref w7x), (.ref e1x), (.ref e1x)])) rfl rfl (hb hby d1_36)
  have K8 : Keep h0 h8 [] := K6.wr W8 (Or.inr sz0_b3)
  have N8 := Fr.snoc X8 N6 g_b3
  have V8 : Arv Z h8 w7x w8x .char (2 : Int32) [(.int (nar .char ((u2 &&& (255 : Int32)).toUInt32.toUInt16.toUInt32.toInt32))), (.int (nar .char ((u3 &&& (255 : Int32)).toUInt32.toUInt16.toUInt32.toInt32)))] (.int (0 : Int32)) := Arv.set Ar7 q7 S7 N7z H7 G7 (fits_nar_char _) W8 1 rfl (Nat.le_of_ble_eq_true rfl)
  have F2_9 : Exa Z h4 e1x "java/lang/String" := A1.ext E4
  have F3_10 : Exa Z h6 e1x "java/lang/String" := F2_9.wr W6
  have F4_11 : Exa Z h8 e1x "java/lang/String" := F3_10.wr W8
  have F2_12 : Fld Z h4 e1x "java/lang/String" "value" "[B" .null := Fn3.ext E4
  have F3_13 : Fld Z h6 e1x "java/lang/String" "value" "[B" .null := F2_12.other W6 (Or.inl (Nat.ne_of_lt (Nat.lt_of_lt_of_le A1.lt (Nat.le_of_eq g4.symm))))
  have F4_14 : Fld Z h8 e1x "java/lang/String" "value" "[B" .null := F3_13.other W8 (Or.inl (Nat.ne_of_lt (Nat.lt_of_lt_of_le A1.lt (Nat.le_of_eq g4.symm))))
  have F2_15 : Fld Z h4 e1x "java/lang/String" "coder" "B" (.int 0) := Fn2.ext E4
  have F3_16 : Fld Z h6 e1x "java/lang/String" "coder" "B" (.int 0) := F2_15.other W6 (Or.inl (Nat.ne_of_lt (Nat.lt_of_lt_of_le A1.lt (Nat.le_of_eq g4.symm))))
  have F4_17 : Fld Z h8 e1x "java/lang/String" "coder" "B" (.int 0) := F3_16.other W8 (Or.inl (Nat.ne_of_lt (Nat.lt_of_lt_of_le A1.lt (Nat.le_of_eq g4.symm))))
  have hwwords : ∀ d ∈ StrChars.Road.words, d.before a0 Z = true := fun d hd => hw d (own_words d hd)
  have hp18 : ∀ c ∈ ([(nar .char ((u2 &&& (255 : Int32)).toUInt32.toUInt16.toUInt32.toInt32)), (nar .char ((u3 &&& (255 : Int32)).toUInt32.toUInt16.toUInt32.toInt32))] : List Int32), ¬ c < 0 ∧ ¬ (255 : Int32) < c := by
    intro c hc
    simp only [List.mem_cons, List.not_mem_nil, or_false] at hc
    rcases hc with rfl | rfl
    · exact own_chars u2
    · exact own_chars u3
  have O1 : Old Z n0 h1 := P3.ext E1
  have O4 : Old Z n0 h4 := O1.ext E4
  have O6 : Old Z n0 h6 := O4.wr W6 g_b3
  have O8 : Old Z n0 h8 := O6.wr W8 g_b3
  have g_b1 : n0 ≤ e1x := Nat.le_trans Z0 (Nat.le_of_eq g1.symm)
  have Z4 : n0 ≤ h4.size := Nat.le_trans Z1 E4.1
  have Z6 : n0 ≤ h6.size := Nat.le_trans Z4 (Keep.of_wr W6).1
  have Z8 : n0 ≤ h8.size := Nat.le_trans Z6 (Keep.of_wr W8).1
  obtain ⟨_, _, ⟨T19, L19, k19x, n19⟩, -, X19, ⟨Lc19, hQ19, l19, y19, z19⟩, st19⟩ := X8.specialBack hx (y := (⟨"java/lang/String", "<init>", "([C)V"⟩ : MethodName)) rfl hown (mvT hZ (tw hw 8 rfl)) (mvT hZ (tw hw 9 rfl)) (mvT hZ (tw hw 10 rfl)) (by decide) (StrChars.Road.backV (W := 1) hZ hwwords (kI := 4) (tw hw 5 rfl) (cs := ([(nar .char ((u2 &&& (255 : Int32)).toUInt32.toUInt16.toUInt32.toInt32)), (nar .char ((u3 &&& (255 : Int32)).toUInt32.toUInt16.toUInt32.toInt32))] : List Int32)) (bs := ((([(nar .char ((u2 &&& (255 : Int32)).toUInt32.toUInt16.toUInt32.toInt32)), (nar .char ((u3 &&& (255 : Int32)).toUInt32.toUInt16.toUInt32.toInt32))] : List Int32)).map (fun c => c.toInt8.toInt32))) (n := 2) g_b1 Z8 F4_11 F4_14 F4_17 V8 (Sg0.ext O8.2) nzGC rfl rfl (by decide) (by decide) hp18 rfl (by decide) (by decide)) (g := (mkF m 37 #[iv ((u1.toUInt32 >>> ((1 : Int32) &&& 31).toUInt32).toInt32), iv u2, iv u3, iv ((u2 &&& (255 : Int32)).toUInt32.toUInt16.toUInt32.toInt32), iv ((u3 &&& (255 : Int32)).toUInt32.toUInt16.toUInt32.toInt32)] [(.ref w7x), (.ref e1x), (.ref e1x)])) rfl (by rw [hml]; rfl) (Steps.refl _) (a := e1x) (argsL := [(.ref w7x)]) (rest := [(.ref e1x)]) (lenOf pd_0 rfl) rfl (by show 2 * 0 + _ ≤ _; exact Nat.le_of_eq rfl) (hb hby d1_37) (fun _ _ => ⟨rfl, e8, (by decide : 2 + 1 ≤ _), (by decide : 6 + 2 ≤ _)⟩)
  dsimp only [Pt.U, Pt.locs, Pt.cells, Pt.slots] at X19 l19 y19 z19 st19 hQ19
  subst l19 y19 z19
  obtain ⟨rfl, N19q, K19c, Fx19, Fc19, e2x, e3x, gt19, bz_b4, ne19, Fv19, Va19⟩ := hQ19
  have sz0_b1 : h0.size ≤ e1x := Nat.le_trans (Keep.refl h0 []).1 (Nat.le_of_eq g1.symm)
  have K19 : Keep h0 T19.heap [] := K8.trans K19c (allS (Or.inr sz0_b1) all0)
  have N19 := Fr.app N8 N19q
  have sz0_b4 : h0.size ≤ e2x := Nat.le_trans K8.1 bz_b4
  have lt_b1_2 : e1x < h4.size := Nat.lt_of_lt_of_le A1.lt E4.1
  have lt_b1_3 : e1x < h6.size := Nat.lt_of_lt_of_le lt_b1_2 (Keep.of_wr W6).1
  have lt_b1_4 : e1x < h8.size := Nat.lt_of_lt_of_le lt_b1_3 (Keep.of_wr W8).1
  obtain ⟨fs, hr, hrun, hended, hW, hsame⟩ := X19.leave (v := some (.ref e1x)) (fun h => by rw [Bd.returns] at h; cases h)
  refine ⟨_, _, pre0 _ ?_, hrun, hended, _, _, rfl, ?_, ⟨_, rfl⟩, hW, hsame.mono (by decide) (by decide)⟩
  · show SF p e below s₁ (mkF m 0 #[iv ((u1.toUInt32 >>> ((1 : Int32) &&& 31).toUInt32).toInt32), iv u2, iv u3, .unset, .unset] []) _
    refine XS.iloadN X0.here hx rfl (hb hby d1_0) rfl ?_
    refine XS.sipush X0.here hx rfl (hb hby d1_1) ?_
    show SF p e below s₁ (mkF m 4 #[iv ((u1.toUInt32 >>> ((1 : Int32) &&& 31).toUInt32).toInt32), iv u2, iv u3, .unset, .unset] [(.int 255), (.int u2)]) _
    refine XS.iand X0.here hx rfl (hb hby d1_4) rfl ?_
    show SF p e below s₁ (mkF m 5 #[iv ((u1.toUInt32 >>> ((1 : Int32) &&& 31).toUInt32).toInt32), iv u2, iv u3, .unset, .unset] [(.int (u2 &&& (255 : Int32)))]) _
    refine XS.i2c X0.here hx rfl (hb hby d1_5) rfl ?_
    show SF p e below s₁ (mkF m 6 #[iv ((u1.toUInt32 >>> ((1 : Int32) &&& 31).toUInt32).toInt32), iv u2, iv u3, .unset, .unset] [(.int ((u2 &&& (255 : Int32)).toUInt32.toUInt16.toUInt32.toInt32))]) _
    refine XS.istoreN X0.here hx rfl (hb hby d1_6) rfl (l' := #[iv ((u1.toUInt32 >>> ((1 : Int32) &&& 31).toUInt32).toInt32), iv u2, iv u3, iv ((u2 &&& (255 : Int32)).toUInt32.toUInt16.toUInt32.toInt32), .unset]) rfl ?_
    refine XS.iloadN X0.here hx rfl (hb hby d1_7) rfl ?_
    show SF p e below s₁ (mkF m 8 #[iv ((u1.toUInt32 >>> ((1 : Int32) &&& 31).toUInt32).toInt32), iv u2, iv u3, iv ((u2 &&& (255 : Int32)).toUInt32.toUInt16.toUInt32.toInt32), .unset] [(.int u3)]) _
    refine XS.sipush X0.here hx rfl (hb hby d1_8) ?_
    show SF p e below s₁ (mkF m 11 #[iv ((u1.toUInt32 >>> ((1 : Int32) &&& 31).toUInt32).toInt32), iv u2, iv u3, iv ((u2 &&& (255 : Int32)).toUInt32.toUInt16.toUInt32.toInt32), .unset] [(.int 255), (.int u3)]) _
    refine XS.iand X0.here hx rfl (hb hby d1_11) rfl ?_
    show SF p e below s₁ (mkF m 12 #[iv ((u1.toUInt32 >>> ((1 : Int32) &&& 31).toUInt32).toInt32), iv u2, iv u3, iv ((u2 &&& (255 : Int32)).toUInt32.toUInt16.toUInt32.toInt32), .unset] [(.int (u3 &&& (255 : Int32)))]) _
    refine XS.i2c X0.here hx rfl (hb hby d1_12) rfl ?_
    show SF p e below s₁ (mkF m 13 #[iv ((u1.toUInt32 >>> ((1 : Int32) &&& 31).toUInt32).toInt32), iv u2, iv u3, iv ((u2 &&& (255 : Int32)).toUInt32.toUInt16.toUInt32.toInt32), .unset] [(.int ((u3 &&& (255 : Int32)).toUInt32.toUInt16.toUInt32.toInt32))]) _
    refine XS.istore X0.here hx rfl (hb hby d1_13) rfl (l' := #[iv ((u1.toUInt32 >>> ((1 : Int32) &&& 31).toUInt32).toInt32), iv u2, iv u3, iv ((u2 &&& (255 : Int32)).toUInt32.toUInt16.toUInt32.toInt32), iv ((u3 &&& (255 : Int32)).toUInt32.toUInt16.toUInt32.toInt32)]) rfl ?_
    refine XS.iloadN X0.here hx rfl (hb hby d1_15) rfl ?_
    show SF p e below s₁ (mkF m 16 #[iv ((u1.toUInt32 >>> ((1 : Int32) &&& 31).toUInt32).toInt32), iv u2, iv u3, iv ((u2 &&& (255 : Int32)).toUInt32.toUInt16.toUInt32.toInt32), iv ((u3 &&& (255 : Int32)).toUInt32.toUInt16.toUInt32.toInt32)] [(.int ((u1.toUInt32 >>> ((1 : Int32) &&& 31).toUInt32).toInt32))]) _
    refine XS.iconst X0.here hx rfl (hb hby d1_16) ?_
    show SF p e below s₁ (mkF m 17 #[iv ((u1.toUInt32 >>> ((1 : Int32) &&& 31).toUInt32).toInt32), iv u2, iv u3, iv ((u2 &&& (255 : Int32)).toUInt32.toUInt16.toUInt32.toInt32), iv ((u3 &&& (255 : Int32)).toUInt32.toUInt16.toUInt32.toInt32)] [(.int 1), (.int ((u1.toUInt32 >>> ((1 : Int32) &&& 31).toUInt32).toInt32))]) _
    refine XS.iand X0.here hx rfl (hb hby d1_17) rfl ?_
    show SF p e below s₁ (mkF m 18 #[iv ((u1.toUInt32 >>> ((1 : Int32) &&& 31).toUInt32).toInt32), iv u2, iv u3, iv ((u2 &&& (255 : Int32)).toUInt32.toUInt16.toUInt32.toInt32), iv ((u3 &&& (255 : Int32)).toUInt32.toUInt16.toUInt32.toInt32)] [(.int (((u1.toUInt32 >>> ((1 : Int32) &&& 31).toUInt32).toInt32) &&& (1 : Int32)))]) _
    refine XS.ifNo X0.here hx rfl (hb hby d1_18) rfl ((if0 _ _).trans (feq P1).1) ?_
    show SF p e below s₁ (mkF m 21 #[iv ((u1.toUInt32 >>> ((1 : Int32) &&& 31).toUInt32).toInt32), iv u2, iv u3, iv ((u2 &&& (255 : Int32)).toUInt32.toUInt16.toUInt32.toInt32), iv ((u3 &&& (255 : Int32)).toUInt32.toUInt16.toUInt32.toInt32)] []) _
    refine st1 _ ?_
    show SF p e below T1 (mkF m 24 #[iv ((u1.toUInt32 >>> ((1 : Int32) &&& 31).toUInt32).toInt32), iv u2, iv u3, iv ((u2 &&& (255 : Int32)).toUInt32.toUInt16.toUInt32.toInt32), iv ((u3 &&& (255 : Int32)).toUInt32.toUInt16.toUInt32.toInt32)] [(.ref e1x)]) _
    refine XS.dup X1.here hx rfl (hb hby d1_24) rfl rfl ?_
    refine XS.iconst X1.here hx rfl (hb hby d1_25) ?_
    show SF p e below T1 (mkF m 26 #[iv ((u1.toUInt32 >>> ((1 : Int32) &&& 31).toUInt32).toInt32), iv u2, iv u3, iv ((u2 &&& (255 : Int32)).toUInt32.toUInt16.toUInt32.toInt32), iv ((u3 &&& (255 : Int32)).toUInt32.toUInt16.toUInt32.toInt32)] [(.int 2), (.ref e1x), (.ref e1x)]) _
    refine st4 _ ?_
    show SF p e below T4 (mkF m 28 #[iv ((u1.toUInt32 >>> ((1 : Int32) &&& 31).toUInt32).toInt32), iv u2, iv u3, iv ((u2 &&& (255 : Int32)).toUInt32.toUInt16.toUInt32.toInt32), iv ((u3 &&& (255 : Int32)).toUInt32.toUInt16.toUInt32.toInt32)] [(.ref w7x), (.ref e1x), (.ref e1x)]) _
    refine XS.dup X4.here hx rfl (hb hby d1_28) rfl rfl ?_
    refine XS.iconst X4.here hx rfl (hb hby d1_29) ?_
    show SF p e below T4 (mkF m 30 #[iv ((u1.toUInt32 >>> ((1 : Int32) &&& 31).toUInt32).toInt32), iv u2, iv u3, iv ((u2 &&& (255 : Int32)).toUInt32.toUInt16.toUInt32.toInt32), iv ((u3 &&& (255 : Int32)).toUInt32.toUInt16.toUInt32.toInt32)] [(.int 0), (.ref w7x), (.ref w7x), (.ref e1x), (.ref e1x)]) _
    refine XS.iloadN X4.here hx rfl (hb hby d1_30) rfl ?_
    show SF p e below T4 (mkF m 31 #[iv ((u1.toUInt32 >>> ((1 : Int32) &&& 31).toUInt32).toInt32), iv u2, iv u3, iv ((u2 &&& (255 : Int32)).toUInt32.toUInt16.toUInt32.toInt32), iv ((u3 &&& (255 : Int32)).toUInt32.toUInt16.toUInt32.toInt32)] [(.int ((u2 &&& (255 : Int32)).toUInt32.toUInt16.toUInt32.toInt32)), (.int 0), (.ref w7x), (.ref w7x), (.ref e1x), (.ref e1x)]) _
    refine st6 _ ?_
    show SF p e below T6 (mkF m 32 #[iv ((u1.toUInt32 >>> ((1 : Int32) &&& 31).toUInt32).toInt32), iv u2, iv u3, iv ((u2 &&& (255 : Int32)).toUInt32.toUInt16.toUInt32.toInt32), iv ((u3 &&& (255 : Int32)).toUInt32.toUInt16.toUInt32.toInt32)] [(.ref w7x), (.ref e1x), (.ref e1x)]) _
    refine XS.dup X6.here hx rfl (hb hby d1_32) rfl rfl ?_
    refine XS.iconst X6.here hx rfl (hb hby d1_33) ?_
    show SF p e below T6 (mkF m 34 #[iv ((u1.toUInt32 >>> ((1 : Int32) &&& 31).toUInt32).toInt32), iv u2, iv u3, iv ((u2 &&& (255 : Int32)).toUInt32.toUInt16.toUInt32.toInt32), iv ((u3 &&& (255 : Int32)).toUInt32.toUInt16.toUInt32.toInt32)] [(.int 1), (.ref w7x), (.ref w7x), (.ref e1x), (.ref e1x)]) _
    refine XS.iload X6.here hx rfl (hb hby d1_34) rfl ?_
    show SF p e below T6 (mkF m 36 #[iv ((u1.toUInt32 >>> ((1 : Int32) &&& 31).toUInt32).toInt32), iv u2, iv u3, iv ((u2 &&& (255 : Int32)).toUInt32.toUInt16.toUInt32.toInt32), iv ((u3 &&& (255 : Int32)).toUInt32.toUInt16.toUInt32.toInt32)] [(.int ((u3 &&& (255 : Int32)).toUInt32.toUInt16.toUInt32.toInt32)), (.int 1), (.ref w7x), (.ref w7x), (.ref e1x), (.ref e1x)]) _
    refine st8 _ ?_
    show SF p e below T8 (mkF m 37 #[iv ((u1.toUInt32 >>> ((1 : Int32) &&& 31).toUInt32).toInt32), iv u2, iv u3, iv ((u2 &&& (255 : Int32)).toUInt32.toUInt16.toUInt32.toInt32), iv ((u3 &&& (255 : Int32)).toUInt32.toUInt16.toUInt32.toInt32)] [(.ref w7x), (.ref e1x), (.ref e1x)]) _
    refine st19.trans ?_
    show SF p e below T19 (mkF m 40 #[iv ((u1.toUInt32 >>> ((1 : Int32) &&& 31).toUInt32).toInt32), iv u2, iv u3, iv ((u2 &&& (255 : Int32)).toUInt32.toUInt16.toUInt32.toInt32), iv ((u3 &&& (255 : Int32)).toUInt32.toUInt16.toUInt32.toInt32)] [(.ref e1x)]) _
    exact own_retR X19 hx Bd.returns rfl rfl (hb hby d1_40) hr
  · show Q1_10 Z u1 u2 u3 GC h0 n0 _ T19.heap _
    exact ⟨e1x, e2x, e3x, sz0_b1, sz0_b4, (Nat.ne_of_lt (Nat.lt_of_lt_of_le lt_b1_4 bz_b4)), rfl, N19, K19, Fx19, Fc19, Fv19, Va19⟩
theorem d8_15 : decode prog_8_method_1_code 15 = .ok (.aload_n 1, 1) := by decide +kernel
theorem d8_16 : decode prog_8_method_1_code 16 = .ok (.invokevirtual 15, 3) := by decide +kernel
theorem d8_19 : decode prog_8_method_1_code 19 = .ok (.ifCond .eq 13, 3) := by decide +kernel
theorem ef_6 (m : MethodId) (x0 : Addr) (x1 : Addr) (x2 : Addr) : entryFrame m #[(.ref x0), (.ref x1), (.ref x2)] 3 = mkF m 0 #[.val (.ref x0), .val (.ref x1), .val (.ref x2)] [] := by first | (simp [entryFrame, mkF, argsToLocals, Value.category]; done) | rfl
-- Keyword.init 
def Q8_11 (Z : State) (u1 : Addr) (u2 : Addr) (u3 : Addr) (u4 : Addr) (u5 : ClassId) (u6 : Int32) (u7 : Addr) (u8 : ClassId) (u9 : Int32) (h0 : Heap) (n0 : Nat) (v : Option Value) (h : Heap) (L : List Loc) : Prop := v = none ∧ Fr n0 L ∧ Keep h0 h [u1] ∧ Exa Z h u1 "com/example/qedbox/qedbox/Keyword" ∧ Fld Z h u1 "com/example/qedbox/qedbox/Keyword" "domain" "Ljava/lang/String;" (.ref u2) ∧ Fld Z h u1 "com/example/qedbox/qedbox/Keyword" "value" "Ljava/lang/String;" (.ref u3)
set_option maxRecDepth 65536 in
set_option maxHeartbeats 40000000 in
theorem rm8_11 (l : Launch) (Z : State) (a0 : Array Value) (hw : HW Z a0) (ws : List Jvm.Cond) (u1 : Addr) (u2 : Addr) (u3 : Addr) (u4 : Addr) (u5 : ClassId) (u6 : Int32) (u7 : Addr) (u8 : ClassId) (u9 : Int32) (h0 : Heap) (n0 : Nat) (Z0 : n0 ≤ h0.size) (P1 : Exa Z h0 u2 "java/lang/String") (P2 : Fld Z h0 u2 "java/lang/String" "value" "[B" (.ref u4)) (P3 : Fld Z h0 u2 "java/lang/String" "coder" "B" (.int 0)) (P4 : Arv Z h0 u4 u5 .byte (1 : Int32) (((([(nar .char ((u6 &&& (255 : Int32)).toUInt32.toUInt16.toUInt32.toInt32))] : List Int32)).map (fun c => c.toInt8.toInt32)).map Value.int) (.int (0 : Int32))) (P5 : Exa Z h0 u3 "java/lang/String") (P6 : Fld Z h0 u3 "java/lang/String" "value" "[B" (.ref u7)) (P7 : Fld Z h0 u3 "java/lang/String" "coder" "B" (.int 0)) (P8 : Arv Z h0 u7 u8 .byte (1 : Int32) (((([(nar .char ((u9 &&& (255 : Int32)).toUInt32.toUInt16.toUInt32.toInt32))] : List Int32)).map (fun c => c.toInt8.toInt32)).map Value.int) (.int (0 : Int32))) (P9 : Exa Z h0 u1 "com/example/qedbox/qedbox/Keyword") (P10 : Fld Z h0 u1 "com/example/qedbox/qedbox/Keyword" "domain" "Ljava/lang/String;" .null) (P11 : Fld Z h0 u1 "com/example/qedbox/qedbox/Keyword" "value" "Ljava/lang/String;" .null) (P12 : n0 ≤ u1) :
    MFW l Z (⟨"com/example/qedbox/qedbox/Keyword", "<init>", "(Ljava/lang/String;Ljava/lang/String;)V"⟩ : MethodName) (Jvm.Cond.code (⟨"com/example/qedbox/qedbox/Keyword", "<init>", "(Ljava/lang/String;Ljava/lang/String;)V"⟩ : MethodName) prog_8_method_1_code 3 none) ws ({ frames := 2, cells := 2, slots := 24, locals := 24 } : Room) #[(.ref u1), (.ref u2), (.ref u3)] h0 (Q8_11 Z u1 u2 u3 u4 u5 u6 u7 u8 u9 h0 n0) := by
  refine MetFree.of_bodySF (plainFor_of_name pn_3) hisR ?_
  intro p e s m args below meth c s₁ Bd hml0 hP hK
  obtain ⟨rfl, hZ, hh⟩ := hP
  have hx := Bd.exec
  have hby := Bd.bytes
  have hml : c.maxLocals = 3 := hml0
  have hown : s.vm.findClass "com/example/qedbox/qedbox/Keyword" = some m.cls := findClass_of_methodNamed Bd.named
  have hnm := (name_of_methodNamed Bd.named Bd.method).1
  have X0 : Stand p l e ({ frames := 2, cells := 2, slots := 24, locals := 24 } : Room) s m #[(.ref u1), (.ref u2), (.ref u3)] below meth c s₁ [] 0 0 := Stand.of_body Bd
  have e0 : s₁.heap = h0 := by rw [← hh, Bd.state]; rfl
  have N0 := Fr.nil n0
  have pre0 : ∀ t, SF p e below s₁ (mkF m 0 #[rv u1, rv u2, rv u3] []) t → SF p e below s₁ (entryFrame m #[(.ref u1), (.ref u2), (.ref u3)] 3) t := fun t k => castTop (ef_6 m u1 u2 u3) k
  obtain ⟨_, _, ⟨T1, L1, k1x, n1⟩, -, X1, ⟨Lc1, hQ1, l1, y1, z1⟩, st1⟩ := X0.specialBack hx (y := (⟨"java/lang/Record", "<init>", "()V"⟩ : MethodName)) rfl hown (mvT hZ (tw hw 40 rfl)) (mvT hZ (tw hw 41 rfl)) (mvT hZ (tw hw 44 rfl)) (by decide) (backOf (W := 0) (rm9_3 l Z a0 hw [] u1 h0 n0 Z0 ) hZ (tw hw 44 rfl) (tw hw 43 rfl) (by decide) (by decide)) (g := (mkF m 1 #[rv u1, rv u2, rv u3] [(.ref u1)])) rfl (by rw [hml]; rfl) (Steps.refl _) (a := u1) (argsL := []) (rest := []) (lenOf pd_2 rfl) rfl (by show 2 * 0 + _ ≤ _; exact Nat.le_of_eq rfl) (hb hby d8_1) (fun _ _ => ⟨rfl, e0, (by decide : 0 + 0 ≤ _), (by decide : 0 + 0 ≤ _)⟩)
  dsimp only [Pt.U, Pt.locs, Pt.cells, Pt.slots] at X1 l1 y1 z1 st1 hQ1
  subst l1 y1 z1
  obtain ⟨rfl, N1q, e1⟩ := hQ1
  have N1 := Fr.app N0 N1q
  have hwSA : ∀ d ∈ Bundle.stringAtoms, d.before a0 Z = true := fun d hd => hw d (own_strA d hd)
  have hS0 : s.Since s.vm h0.size := State.WarmedH.since (State.WarmedH.refl s) _
  have hk0 : h0.size ≤ h0.size := Nat.le_refl _
  obtain ⟨w10x, T2, h2, kq2, X2, e2, E2, hS2, hk2, hZ2, hown2, st2⟩ := ldcS (s := s) (vm0 := s.vm) X1 hx hZ hown (tw hw 46 rfl) hwSA e1 hS0 hk0 (g := (mkF m 5 #[rv u1, rv u2, rv u3] [(.ref u3)])) rfl (hb hby d8_5) (n := 20) (by decide) (by decide) (by decide) (by decide)
  have K2 : Keep h0 h2 [u1] := (Keep.refl h0 [u1]).ext E2
  have Z2 : n0 ≤ h2.size := Nat.le_trans Z0 E2.1
  obtain ⟨_, _, ⟨T3, L3, k3x, n3⟩, -, X3, ⟨Lc3, hQ3, l3, y3, z3⟩, st3⟩ := Jvm.LawKit.callS X2 hx (y := (⟨"java/util/Objects", "requireNonNull", "(Ljava/lang/Object;Ljava/lang/String;)Ljava/lang/Object;"⟩ : MethodName)) hown2 (mvT hZ2 (tw hw 49 rfl)) (mvT hZ2 (tw hw 50 rfl)) (mvT hZ2 (tw hw 51 rfl)) (mvT hZ2 (tw hw 52 rfl)) (by decide) (backOf (W := 0) (rm10_4 l Z a0 hw [] u3 w10x h2 n0 Z2 ) hZ2 (tw hw 52 rfl) (tw hw 51 rfl) (by decide) (by decide)) (g := (mkF m 7 #[rv u1, rv u2, rv u3] [(.ref w10x), (.ref u3)])) rfl (by rw [hml]; rfl) (argsL := [(.ref u3), (.ref w10x)]) (rest := []) (lenOf pd_3 rfl) rfl (by show 2 * 0 + _ ≤ _; exact Nat.le_of_eq rfl) (hb hby d8_7) (fun _ _ => ⟨rfl, e2, (by decide : 2 + 0 ≤ _), (by decide : 24 + 0 ≤ _)⟩)
  dsimp only [Pt.U, Pt.locs, Pt.cells, Pt.slots] at X3 l3 y3 z3 st3 hQ3
  subst l3 y3 z3
  obtain ⟨rfl, N3q, e3⟩ := hQ3
  have N3 := Fr.app N1 N3q
  have F1_4 : Exa Z h2 u2 "java/lang/String" := P1.ext E2
  have hwwordsEmp : ∀ d ∈ StrChars.Road.wordsEmp, d.before a0 Z = true := fun d hd => hw d (own_wordsEmp d hd)
  have F1_5 : Fld Z h2 u2 "java/lang/String" "value" "[B" (.ref u4) := P2.ext E2
  have F1_6 : Fld Z h2 u2 "java/lang/String" "coder" "B" (.int 0) := P3.ext E2
  have F1_7 : Arv Z h2 u4 u5 .byte (1 : Int32) (((([(nar .char ((u6 &&& (255 : Int32)).toUInt32.toUInt16.toUInt32.toInt32))] : List Int32)).map (fun c => c.toInt8.toInt32)).map Value.int) (.int (0 : Int32)) := P4.ext E2
  have hp8 : ∀ c ∈ ([(nar .char ((u6 &&& (255 : Int32)).toUInt32.toUInt16.toUInt32.toInt32))] : List Int32), ¬ c < 0 ∧ ¬ (255 : Int32) < c := by
    intro c hc
    simp only [List.mem_cons, List.not_mem_nil, or_false] at hc
    subst hc
    · exact own_chars u6
  have hcd9 : StrChars.Road.CodA ([(nar .char ((u6 &&& (255 : Int32)).toUInt32.toUInt16.toUInt32.toInt32))] : List Int32) 0 (1 : Int32) (((([(nar .char ((u6 &&& (255 : Int32)).toUInt32.toUInt16.toUInt32.toInt32))] : List Int32)).map (fun c => c.toInt8.toInt32)).map Value.int) := StrChars.Road.codOf (n := 1) rfl (fun c hc => (hp8 c hc).2)
  have hbd9 : ∀ c ∈ ([(nar .char ((u6 &&& (255 : Int32)).toUInt32.toUInt16.toUInt32.toInt32))] : List Int32), ¬ c < 0 ∧ ¬ (65535 : Int32) < c := own_up _ hp8
  obtain ⟨cq10, kq10, q10a, q10b, q10c⟩ := isOf hZ2 e3 F1_4
  obtain ⟨_, _, ⟨T10, L10, k10x, n10⟩, -, X10, ⟨Lc10, hQ10, l10, y10, z10⟩, st10⟩ := X3.virtualBack hx (y := (⟨"java/lang/String", "isEmpty", "()Z"⟩ : MethodName)) (z := (⟨"java/lang/String", "isEmpty", "()Z"⟩ : MethodName)) hown2 (mvT hZ2 (tw hw 53 rfl)) (mvT hZ2 (tw hw 54 rfl)) (notFace_of_selects (args := #[]) (mvT hZ2 (tw hw 56 rfl))) (mvT hZ2 (tw hw 56 rfl)) (mvT hZ2 (tw hw 55 rfl)) (by decide) (StrChars.Road.empW (W := 0) hZ2 hwwordsEmp (kI := 4) (tw hw 5 rfl) F1_4 F1_5 F1_6 F1_7 hcd9 hbd9 (Nat.le_of_ble_eq_true rfl) (by decide) (by decide)) q10a q10c (g := (mkF m 16 #[rv u1, rv u2, rv u3] [(.ref u2)])) rfl (by rw [hml]; rfl) (Steps.refl _) (argsL := []) (rest := []) (lenOf pd_4 rfl) rfl (by show 2 * 0 + _ ≤ _; exact Nat.le_of_eq rfl) (hb hby d8_16) (fun _ _ => ⟨rfl, e3, (by decide : 2 + 0 ≤ _), (by decide : 24 + 0 ≤ _)⟩)
  dsimp only [Pt.U, Pt.locs, Pt.cells, Pt.slots] at X10 l10 y10 z10 st10 hQ10
  subst l10 y10 z10
  obtain ⟨rfl, rfl, e10⟩ := hQ10
  have N10 := Fr.app N3 (Fr.nil n0)
  have F1_11 : Exa Z h2 u3 "java/lang/String" := P5.ext E2
  have F1_12 : Fld Z h2 u3 "java/lang/String" "value" "[B" (.ref u7) := P6.ext E2
  have F1_13 : Fld Z h2 u3 "java/lang/String" "coder" "B" (.int 0) := P7.ext E2
  have F1_14 : Arv Z h2 u7 u8 .byte (1 : Int32) (((([(nar .char ((u9 &&& (255 : Int32)).toUInt32.toUInt16.toUInt32.toInt32))] : List Int32)).map (fun c => c.toInt8.toInt32)).map Value.int) (.int (0 : Int32)) := P8.ext E2
  have hp15 : ∀ c ∈ ([(nar .char ((u9 &&& (255 : Int32)).toUInt32.toUInt16.toUInt32.toInt32))] : List Int32), ¬ c < 0 ∧ ¬ (255 : Int32) < c := by
    intro c hc
    simp only [List.mem_cons, List.not_mem_nil, or_false] at hc
    subst hc
    · exact own_chars u9
  have hcd16 : StrChars.Road.CodA ([(nar .char ((u9 &&& (255 : Int32)).toUInt32.toUInt16.toUInt32.toInt32))] : List Int32) 0 (1 : Int32) (((([(nar .char ((u9 &&& (255 : Int32)).toUInt32.toUInt16.toUInt32.toInt32))] : List Int32)).map (fun c => c.toInt8.toInt32)).map Value.int) := StrChars.Road.codOf (n := 1) rfl (fun c hc => (hp15 c hc).2)
  have hbd16 : ∀ c ∈ ([(nar .char ((u9 &&& (255 : Int32)).toUInt32.toUInt16.toUInt32.toInt32))] : List Int32), ¬ c < 0 ∧ ¬ (65535 : Int32) < c := own_up _ hp15
  obtain ⟨cq17, kq17, q17a, q17b, q17c⟩ := isOf hZ2 e10 F1_11
  obtain ⟨_, _, ⟨T17, L17, k17x, n17⟩, -, X17, ⟨Lc17, hQ17, l17, y17, z17⟩, st17⟩ := X10.virtualBack hx (y := (⟨"java/lang/String", "isEmpty", "()Z"⟩ : MethodName)) (z := (⟨"java/lang/String", "isEmpty", "()Z"⟩ : MethodName)) hown2 (mvT hZ2 (tw hw 53 rfl)) (mvT hZ2 (tw hw 54 rfl)) (notFace_of_selects (args := #[]) (mvT hZ2 (tw hw 56 rfl))) (mvT hZ2 (tw hw 56 rfl)) (mvT hZ2 (tw hw 55 rfl)) (by decide) (StrChars.Road.empW (W := 0) hZ2 hwwordsEmp (kI := 4) (tw hw 5 rfl) F1_11 F1_12 F1_13 F1_14 hcd16 hbd16 (Nat.le_of_ble_eq_true rfl) (by decide) (by decide)) q17a q17c (g := (mkF m 33 #[rv u1, rv u2, rv u3] [(.ref u3)])) rfl (by rw [hml]; rfl) (Steps.refl _) (argsL := []) (rest := []) (lenOf pd_4 rfl) rfl (by show 2 * 0 + _ ≤ _; exact Nat.le_of_eq rfl) (hb hby d8_33) (fun _ _ => ⟨rfl, e10, (by decide : 2 + 0 ≤ _), (by decide : 24 + 0 ≤ _)⟩)
  dsimp only [Pt.U, Pt.locs, Pt.cells, Pt.slots] at X17 l17 y17 z17 st17 hQ17
  subst l17 y17 z17
  obtain ⟨rfl, rfl, e17⟩ := hQ17
  have N17 := Fr.app N10 (Fr.nil n0)
  have F1_18 : Exa Z h2 u1 "com/example/qedbox/qedbox/Keyword" := P9.ext E2
  have F1_19 : Fld Z h2 u1 "com/example/qedbox/qedbox/Keyword" "domain" "Ljava/lang/String;" .null := P10.ext E2
  have F1_20 : Fld Z h2 u1 "com/example/qedbox/qedbox/Keyword" "value" "Ljava/lang/String;" .null := P11.ext E2
  obtain ⟨T21, h21, X21, e21, W21, st21⟩ := putF X17 hx hZ2 hown2 (host := "") (Or.inl (tw hw 58 rfl)) Via.refl e17 F1_19 F1_18 (Or.inr ⟨(tw hw 59 rfl), rfl, hnm⟩) (tw hw 35 rfl) (ty := (.object "java/lang/String")) (by decide) rfl rfl (g := (mkF m 51 #[rv u1, rv u2, rv u3] [(.ref u2), (.ref u1)])) rfl rfl (hb hby d8_51)
  have K21 : Keep h0 h21 [u1] := K2.wr W21 (Or.inl (List.mem_of_getElem? (i := 0) rfl))
  have N21 := Fr.snoc X21 N17 P12
  have Fw21 : Fld Z h21 u1 "com/example/qedbox/qedbox/Keyword" "domain" "Ljava/lang/String;" (.ref u2) := F1_19.same W21
  have F2_22 : Exa Z h21 u1 "com/example/qedbox/qedbox/Keyword" := F1_18.wr W21
  have F2_23 : Fld Z h21 u1 "com/example/qedbox/qedbox/Keyword" "value" "Ljava/lang/String;" .null := F1_20.other W21 (Or.inr (slot_ne (Or.inr (tw hw 61 rfl)) (Or.inr (tw hw 59 rfl)) (by decide) (t := (.object "java/lang/String")) (t' := (.object "java/lang/String")) (by decide) (by decide)))
  obtain ⟨T24, h24, X24, e24, W24, st24⟩ := putF X21 hx hZ2 hown2 (host := "") (Or.inl (tw hw 60 rfl)) Via.refl e21 F2_23 F2_22 (Or.inr ⟨(tw hw 61 rfl), rfl, hnm⟩) (tw hw 35 rfl) (ty := (.object "java/lang/String")) (by decide) rfl rfl (g := (mkF m 56 #[rv u1, rv u2, rv u3] [(.ref u3), (.ref u1)])) rfl rfl (hb hby d8_56)
  have K24 : Keep h0 h24 [u1] := K21.wr W24 (Or.inl (List.mem_of_getElem? (i := 0) rfl))
  have N24 := Fr.snoc X24 N21 P12
  have Fw24 : Fld Z h24 u1 "com/example/qedbox/qedbox/Keyword" "value" "Ljava/lang/String;" (.ref u3) := F2_23.same W24
  have F3_25 : Exa Z h24 u1 "com/example/qedbox/qedbox/Keyword" := F2_22.wr W24
  have F3_26 : Fld Z h24 u1 "com/example/qedbox/qedbox/Keyword" "domain" "Ljava/lang/String;" (.ref u2) := Fw21.other W24 (Or.inr (slot_ne (Or.inr (tw hw 59 rfl)) (Or.inr (tw hw 61 rfl)) (by decide) (t := (.object "java/lang/String")) (t' := (.object "java/lang/String")) (by decide) (by decide)))
  have hkk21_2 : kq2 ≤ h21.size := Nat.le_trans hk2 (Keep.of_wr W21).1
  have hkk24_3 : kq2 ≤ h24.size := Nat.le_trans hkk21_2 (Keep.of_wr W24).1
  obtain ⟨fs, hr, hrun, hended, hRW⟩ := X24.leaveW hS2 (by rw [e24]; exact hkk24_3) (v := none) (fun _ => rfl)
  refine ⟨_, _, pre0 _ ?_, hrun, hended, _, _, rfl, ?_, hRW.1, hRW.2.1, hRW.2.2.1, hRW.2.2.2.mono (by decide) (by decide)⟩
  · show SF p e below s₁ (mkF m 0 #[rv u1, rv u2, rv u3] []) _
    refine XS.aloadN X0.here hx rfl (hb hby d8_0) rfl rfl ?_
    show SF p e below s₁ (mkF m 1 #[rv u1, rv u2, rv u3] [(.ref u1)]) _
    refine st1.trans ?_
    show SF p e below T1 (mkF m 4 #[rv u1, rv u2, rv u3] []) _
    refine XS.aloadN X1.here hx rfl (hb hby d8_4) rfl rfl ?_
    show SF p e below T1 (mkF m 5 #[rv u1, rv u2, rv u3] [(.ref u3)]) _
    refine st2 _ ?_
    show SF p e below T2 (mkF m 7 #[rv u1, rv u2, rv u3] [(.ref w10x), (.ref u3)]) _
    refine st3 _ ?_
    show SF p e below T3 (mkF m 10 #[rv u1, rv u2, rv u3] [(.ref u3)]) _
    refine XS.pop X3.here hx rfl (hb hby d8_10) rfl rfl ?_
    refine XS.aloadN X3.here hx rfl (hb hby d8_11) rfl rfl ?_
    show SF p e below T3 (mkF m 12 #[rv u1, rv u2, rv u3] [(.ref u2)]) _
    refine XS.ifnullNo X3.here hx rfl (hb hby d8_12) rfl ?_
    show SF p e below T3 (mkF m 15 #[rv u1, rv u2, rv u3] []) _
    refine XS.aloadN X3.here hx rfl (hb hby d8_15) rfl rfl ?_
    show SF p e below T3 (mkF m 16 #[rv u1, rv u2, rv u3] [(.ref u2)]) _
    refine st10.trans ?_
    show SF p e below T10 (mkF m 19 #[rv u1, rv u2, rv u3] [(.int 0)]) _
    refine XS.ifYes X10.here hx rfl (pc0 := 19) (pc' := 32) rfl (hb hby d8_19) rfl ((if0 _ _).trans (teq (by decide : (0 : Int32) = (0 : Int32))).1) (by decide) (by decide) ?_
    show SF p e below T10 (mkF m 32 #[rv u1, rv u2, rv u3] []) _
    refine XS.aloadN X10.here hx rfl (hb hby d8_32) rfl rfl ?_
    show SF p e below T10 (mkF m 33 #[rv u1, rv u2, rv u3] [(.ref u3)]) _
    refine st17.trans ?_
    show SF p e below T17 (mkF m 36 #[rv u1, rv u2, rv u3] [(.int 0)]) _
    refine XS.ifYes X17.here hx rfl (pc0 := 36) (pc' := 49) rfl (hb hby d8_36) rfl ((if0 _ _).trans (teq (by decide : (0 : Int32) = (0 : Int32))).1) (by decide) (by decide) ?_
    show SF p e below T17 (mkF m 49 #[rv u1, rv u2, rv u3] []) _
    refine XS.aloadN X17.here hx rfl (hb hby d8_49) rfl rfl ?_
    refine XS.aloadN X17.here hx rfl (hb hby d8_50) rfl rfl ?_
    show SF p e below T17 (mkF m 51 #[rv u1, rv u2, rv u3] [(.ref u2), (.ref u1)]) _
    refine st21 _ ?_
    show SF p e below T21 (mkF m 54 #[rv u1, rv u2, rv u3] []) _
    refine XS.aloadN X21.here hx rfl (hb hby d8_54) rfl rfl ?_
    refine XS.aloadN X21.here hx rfl (hb hby d8_55) rfl rfl ?_
    show SF p e below T21 (mkF m 56 #[rv u1, rv u2, rv u3] [(.ref u3), (.ref u1)]) _
    refine st24 _ ?_
    show SF p e below T24 (mkF m 59 #[rv u1, rv u2, rv u3] []) _
    exact X24.returnOut hx Bd.returns (hb hby d8_59) hr
  · show Q8_11 Z u1 u2 u3 u4 u5 u6 u7 u8 u9 h0 n0 _ T24.heap _
    rw [e24]
    exact ⟨rfl, N24, K24, F3_25, F3_26, Fw24⟩
theorem d12_7 : decode prog_8_method_3_code 7 = .ok (.iconst 1, 1) := by decide +kernel
theorem d12_8 : decode prog_8_method_3_code 8 = .ok (.goto 4, 3) := by decide +kernel
-- Keyword.hasDomain 
def Q12_12 (Z : State) (u1 : Addr) (u2 : Addr) (h0 : Heap) (n0 : Nat) (v : Option Value) (h : Heap) (L : List Loc) : Prop := v = some (.int 1) ∧ Fr n0 L ∧ h = h0
set_option maxRecDepth 65536 in
set_option maxHeartbeats 40000000 in
theorem rm12_12 (l : Launch) (Z : State) (a0 : Array Value) (hw : HW Z a0) (ws : List Jvm.Cond) (u1 : Addr) (u2 : Addr) (h0 : Heap) (n0 : Nat) (Z0 : n0 ≤ h0.size) (P1 : Fld Z h0 u1 "com/example/qedbox/qedbox/Keyword" "domain" "Ljava/lang/String;" (.ref u2)) :
    MF l Z (⟨"com/example/qedbox/qedbox/Keyword", "hasDomain", "()Z"⟩ : MethodName) (Jvm.Cond.code (⟨"com/example/qedbox/qedbox/Keyword", "hasDomain", "()Z"⟩ : MethodName) prog_8_method_3_code 1 (some .boolean)) ws ({ frames := 0, cells := 0, slots := 0, locals := 0 } : Room) #[(.ref u1)] h0 (Q12_12 Z u1 u2 h0 n0) := by
  refine MetFree.of_bodySF (plainFor_of_name pn_3) hisR ?_
  intro p e s m args below meth c s₁ Bd hml0 hP hK
  obtain ⟨rfl, hZ, hh⟩ := hP
  have hx := Bd.exec
  have hby := Bd.bytes
  have hml : c.maxLocals = 1 := hml0
  have hown : s.vm.findClass "com/example/qedbox/qedbox/Keyword" = some m.cls := findClass_of_methodNamed Bd.named
  have hnm := (name_of_methodNamed Bd.named Bd.method).1
  have X0 : Stand p l e ({ frames := 0, cells := 0, slots := 0, locals := 0 } : Room) s m #[(.ref u1)] below meth c s₁ [] 0 0 := Stand.of_body Bd
  have e0 : s₁.heap = h0 := by rw [← hh, Bd.state]; rfl
  have N0 := Fr.nil n0
  have pre0 : ∀ t, SF p e below s₁ (mkF m 0 #[rv u1] []) t → SF p e below s₁ (entryFrame m #[(.ref u1)] 1) t := fun t k => castTop (ef_4 m u1) k
  obtain ⟨T1, X1, e1, st1⟩ := getF X0 hx hZ hown (host := "") (Or.inl (tw hw 58 rfl)) Via.refl e0 P1 (g := (mkF m 1 #[rv u1] [(.ref u1)])) rfl rfl (hb hby d12_1)
  obtain ⟨fs, hr, hrun, hended, hW, hsame⟩ := X1.leave (v := some (.int 1)) (fun h => by rw [Bd.returns] at h; cases h)
  refine ⟨_, _, pre0 _ ?_, hrun, hended, _, _, rfl, ?_, ⟨_, rfl⟩, hW, hsame.mono (by decide) (by decide)⟩
  · show SF p e below s₁ (mkF m 0 #[rv u1] []) _
    refine XS.aloadN X0.here hx rfl (hb hby d12_0) rfl rfl ?_
    show SF p e below s₁ (mkF m 1 #[rv u1] [(.ref u1)]) _
    refine st1 _ ?_
    show SF p e below T1 (mkF m 4 #[rv u1] [(.ref u2)]) _
    refine XS.ifnullNo X1.here hx rfl (hb hby d12_4) rfl ?_
    show SF p e below T1 (mkF m 7 #[rv u1] []) _
    refine XS.iconst X1.here hx rfl (hb hby d12_7) ?_
    refine XS.goto X1.here hx rfl (pc0 := 8) (pc' := 12) rfl (hb hby d12_8) (by decide) (by decide) ?_
    show SF p e below T1 (mkF m 12 #[rv u1] [(.int 1)]) _
    exact retN X1 hx (t := .boolean) Bd.returns (by simp) (hb hby d12_12) hr
  · show Q12_12 Z u1 u2 h0 n0 _ T1.heap _
    rw [e1]
    exact ⟨rfl, N0, rfl⟩
-- Keyword.domain 
def Q13_13 (Z : State) (u1 : Addr) (u2 : Addr) (h0 : Heap) (n0 : Nat) (v : Option Value) (h : Heap) (L : List Loc) : Prop := v = some (.ref u2) ∧ Fr n0 L ∧ h = h0
set_option maxRecDepth 65536 in
set_option maxHeartbeats 40000000 in
theorem rm13_13 (l : Launch) (Z : State) (a0 : Array Value) (hw : HW Z a0) (ws : List Jvm.Cond) (u1 : Addr) (u2 : Addr) (h0 : Heap) (n0 : Nat) (Z0 : n0 ≤ h0.size) (P1 : Fld Z h0 u1 "com/example/qedbox/qedbox/Keyword" "domain" "Ljava/lang/String;" (.ref u2)) :
    MF l Z (⟨"com/example/qedbox/qedbox/Keyword", "domain", "()Ljava/lang/String;"⟩ : MethodName) (Jvm.Cond.code (⟨"com/example/qedbox/qedbox/Keyword", "domain", "()Ljava/lang/String;"⟩ : MethodName) prog_8_method_8_code 1 (some (.object "java/lang/String"))) ws ({ frames := 0, cells := 0, slots := 0, locals := 0 } : Room) #[(.ref u1)] h0 (Q13_13 Z u1 u2 h0 n0) := by
  refine MetFree.of_bodySF (plainFor_of_name pn_3) hisR ?_
  intro p e s m args below meth c s₁ Bd hml0 hP hK
  obtain ⟨rfl, hZ, hh⟩ := hP
  have hx := Bd.exec
  have hby := Bd.bytes
  have hml : c.maxLocals = 1 := hml0
  have hown : s.vm.findClass "com/example/qedbox/qedbox/Keyword" = some m.cls := findClass_of_methodNamed Bd.named
  have hnm := (name_of_methodNamed Bd.named Bd.method).1
  have X0 : Stand p l e ({ frames := 0, cells := 0, slots := 0, locals := 0 } : Room) s m #[(.ref u1)] below meth c s₁ [] 0 0 := Stand.of_body Bd
  have e0 : s₁.heap = h0 := by rw [← hh, Bd.state]; rfl
  have N0 := Fr.nil n0
  have pre0 : ∀ t, SF p e below s₁ (mkF m 0 #[rv u1] []) t → SF p e below s₁ (entryFrame m #[(.ref u1)] 1) t := fun t k => castTop (ef_5 m u1) k
  obtain ⟨T1, X1, e1, st1⟩ := getF X0 hx hZ hown (host := "") (Or.inl (tw hw 58 rfl)) Via.refl e0 P1 (g := (mkF m 1 #[rv u1] [(.ref u1)])) rfl rfl (hb hby d13_1)
  obtain ⟨fs, hr, hrun, hended, hW, hsame⟩ := X1.leave (v := some (.ref u2)) (fun h => by rw [Bd.returns] at h; cases h)
  refine ⟨_, _, pre0 _ ?_, hrun, hended, _, _, rfl, ?_, ⟨_, rfl⟩, hW, hsame.mono (by decide) (by decide)⟩
  · show SF p e below s₁ (mkF m 0 #[rv u1] []) _
    refine XS.aloadN X0.here hx rfl (hb hby d13_0) rfl rfl ?_
    show SF p e below s₁ (mkF m 1 #[rv u1] [(.ref u1)]) _
    refine st1 _ ?_
    show SF p e below T1 (mkF m 4 #[rv u1] [(.ref u2)]) _
    exact own_retR X1 hx Bd.returns rfl rfl (hb hby d13_4) hr
  · show Q13_13 Z u1 u2 h0 n0 _ T1.heap _
    rw [e1]
    exact ⟨rfl, N0, rfl⟩
-- Keyword.init 
def Q8_14 (Z : State) (u1 : Addr) (u2 : Addr) (u3 : Addr) (u4 : Addr) (u5 : ClassId) (u6 : Int32) (u7 : Addr) (u8 : ClassId) (u9 : Int32) (u10 : Int32) (h0 : Heap) (n0 : Nat) (v : Option Value) (h : Heap) (L : List Loc) : Prop := v = none ∧ Fr n0 L ∧ Keep h0 h [u1] ∧ Exa Z h u1 "com/example/qedbox/qedbox/Keyword" ∧ Fld Z h u1 "com/example/qedbox/qedbox/Keyword" "domain" "Ljava/lang/String;" (.ref u2) ∧ Fld Z h u1 "com/example/qedbox/qedbox/Keyword" "value" "Ljava/lang/String;" (.ref u3)
set_option maxRecDepth 65536 in
set_option maxHeartbeats 40000000 in
theorem rm8_14 (l : Launch) (Z : State) (a0 : Array Value) (hw : HW Z a0) (ws : List Jvm.Cond) (u1 : Addr) (u2 : Addr) (u3 : Addr) (u4 : Addr) (u5 : ClassId) (u6 : Int32) (u7 : Addr) (u8 : ClassId) (u9 : Int32) (u10 : Int32) (h0 : Heap) (n0 : Nat) (Z0 : n0 ≤ h0.size) (P1 : Exa Z h0 u2 "java/lang/String") (P2 : Fld Z h0 u2 "java/lang/String" "value" "[B" (.ref u4)) (P3 : Fld Z h0 u2 "java/lang/String" "coder" "B" (.int 0)) (P4 : Arv Z h0 u4 u5 .byte (1 : Int32) (((([(nar .char ((u6 &&& (255 : Int32)).toUInt32.toUInt16.toUInt32.toInt32))] : List Int32)).map (fun c => c.toInt8.toInt32)).map Value.int) (.int (0 : Int32))) (P5 : Exa Z h0 u3 "java/lang/String") (P6 : Fld Z h0 u3 "java/lang/String" "value" "[B" (.ref u7)) (P7 : Fld Z h0 u3 "java/lang/String" "coder" "B" (.int 0)) (P8 : Arv Z h0 u7 u8 .byte (2 : Int32) (((([(nar .char ((u9 &&& (255 : Int32)).toUInt32.toUInt16.toUInt32.toInt32)), (nar .char ((u10 &&& (255 : Int32)).toUInt32.toUInt16.toUInt32.toInt32))] : List Int32)).map (fun c => c.toInt8.toInt32)).map Value.int) (.int (0 : Int32))) (P9 : Exa Z h0 u1 "com/example/qedbox/qedbox/Keyword") (P10 : Fld Z h0 u1 "com/example/qedbox/qedbox/Keyword" "domain" "Ljava/lang/String;" .null) (P11 : Fld Z h0 u1 "com/example/qedbox/qedbox/Keyword" "value" "Ljava/lang/String;" .null) (P12 : n0 ≤ u1) :
    MFW l Z (⟨"com/example/qedbox/qedbox/Keyword", "<init>", "(Ljava/lang/String;Ljava/lang/String;)V"⟩ : MethodName) (Jvm.Cond.code (⟨"com/example/qedbox/qedbox/Keyword", "<init>", "(Ljava/lang/String;Ljava/lang/String;)V"⟩ : MethodName) prog_8_method_1_code 3 none) ws ({ frames := 2, cells := 2, slots := 24, locals := 24 } : Room) #[(.ref u1), (.ref u2), (.ref u3)] h0 (Q8_14 Z u1 u2 u3 u4 u5 u6 u7 u8 u9 u10 h0 n0) := by
  refine MetFree.of_bodySF (plainFor_of_name pn_3) hisR ?_
  intro p e s m args below meth c s₁ Bd hml0 hP hK
  obtain ⟨rfl, hZ, hh⟩ := hP
  have hx := Bd.exec
  have hby := Bd.bytes
  have hml : c.maxLocals = 3 := hml0
  have hown : s.vm.findClass "com/example/qedbox/qedbox/Keyword" = some m.cls := findClass_of_methodNamed Bd.named
  have hnm := (name_of_methodNamed Bd.named Bd.method).1
  have X0 : Stand p l e ({ frames := 2, cells := 2, slots := 24, locals := 24 } : Room) s m #[(.ref u1), (.ref u2), (.ref u3)] below meth c s₁ [] 0 0 := Stand.of_body Bd
  have e0 : s₁.heap = h0 := by rw [← hh, Bd.state]; rfl
  have N0 := Fr.nil n0
  have pre0 : ∀ t, SF p e below s₁ (mkF m 0 #[rv u1, rv u2, rv u3] []) t → SF p e below s₁ (entryFrame m #[(.ref u1), (.ref u2), (.ref u3)] 3) t := fun t k => castTop (ef_6 m u1 u2 u3) k
  obtain ⟨_, _, ⟨T1, L1, k1x, n1⟩, -, X1, ⟨Lc1, hQ1, l1, y1, z1⟩, st1⟩ := X0.specialBack hx (y := (⟨"java/lang/Record", "<init>", "()V"⟩ : MethodName)) rfl hown (mvT hZ (tw hw 40 rfl)) (mvT hZ (tw hw 41 rfl)) (mvT hZ (tw hw 44 rfl)) (by decide) (backOf (W := 0) (rm9_3 l Z a0 hw [] u1 h0 n0 Z0 ) hZ (tw hw 44 rfl) (tw hw 43 rfl) (by decide) (by decide)) (g := (mkF m 1 #[rv u1, rv u2, rv u3] [(.ref u1)])) rfl (by rw [hml]; rfl) (Steps.refl _) (a := u1) (argsL := []) (rest := []) (lenOf pd_2 rfl) rfl (by show 2 * 0 + _ ≤ _; exact Nat.le_of_eq rfl) (hb hby d8_1) (fun _ _ => ⟨rfl, e0, (by decide : 0 + 0 ≤ _), (by decide : 0 + 0 ≤ _)⟩)
  dsimp only [Pt.U, Pt.locs, Pt.cells, Pt.slots] at X1 l1 y1 z1 st1 hQ1
  subst l1 y1 z1
  obtain ⟨rfl, N1q, e1⟩ := hQ1
  have N1 := Fr.app N0 N1q
  have hwSA : ∀ d ∈ Bundle.stringAtoms, d.before a0 Z = true := fun d hd => hw d (own_strA d hd)
  have hS0 : s.Since s.vm h0.size := State.WarmedH.since (State.WarmedH.refl s) _
  have hk0 : h0.size ≤ h0.size := Nat.le_refl _
  obtain ⟨w11x, T2, h2, kq2, X2, e2, E2, hS2, hk2, hZ2, hown2, st2⟩ := ldcS (s := s) (vm0 := s.vm) X1 hx hZ hown (tw hw 46 rfl) hwSA e1 hS0 hk0 (g := (mkF m 5 #[rv u1, rv u2, rv u3] [(.ref u3)])) rfl (hb hby d8_5) (n := 20) (by decide) (by decide) (by decide) (by decide)
  have K2 : Keep h0 h2 [u1] := (Keep.refl h0 [u1]).ext E2
  have Z2 : n0 ≤ h2.size := Nat.le_trans Z0 E2.1
  obtain ⟨_, _, ⟨T3, L3, k3x, n3⟩, -, X3, ⟨Lc3, hQ3, l3, y3, z3⟩, st3⟩ := Jvm.LawKit.callS X2 hx (y := (⟨"java/util/Objects", "requireNonNull", "(Ljava/lang/Object;Ljava/lang/String;)Ljava/lang/Object;"⟩ : MethodName)) hown2 (mvT hZ2 (tw hw 49 rfl)) (mvT hZ2 (tw hw 50 rfl)) (mvT hZ2 (tw hw 51 rfl)) (mvT hZ2 (tw hw 52 rfl)) (by decide) (backOf (W := 0) (rm10_4 l Z a0 hw [] u3 w11x h2 n0 Z2 ) hZ2 (tw hw 52 rfl) (tw hw 51 rfl) (by decide) (by decide)) (g := (mkF m 7 #[rv u1, rv u2, rv u3] [(.ref w11x), (.ref u3)])) rfl (by rw [hml]; rfl) (argsL := [(.ref u3), (.ref w11x)]) (rest := []) (lenOf pd_3 rfl) rfl (by show 2 * 0 + _ ≤ _; exact Nat.le_of_eq rfl) (hb hby d8_7) (fun _ _ => ⟨rfl, e2, (by decide : 2 + 0 ≤ _), (by decide : 24 + 0 ≤ _)⟩)
  dsimp only [Pt.U, Pt.locs, Pt.cells, Pt.slots] at X3 l3 y3 z3 st3 hQ3
  subst l3 y3 z3
  obtain ⟨rfl, N3q, e3⟩ := hQ3
  have N3 := Fr.app N1 N3q
  have F1_4 : Exa Z h2 u2 "java/lang/String" := P1.ext E2
  have hwwordsEmp : ∀ d ∈ StrChars.Road.wordsEmp, d.before a0 Z = true := fun d hd => hw d (own_wordsEmp d hd)
  have F1_5 : Fld Z h2 u2 "java/lang/String" "value" "[B" (.ref u4) := P2.ext E2
  have F1_6 : Fld Z h2 u2 "java/lang/String" "coder" "B" (.int 0) := P3.ext E2
  have F1_7 : Arv Z h2 u4 u5 .byte (1 : Int32) (((([(nar .char ((u6 &&& (255 : Int32)).toUInt32.toUInt16.toUInt32.toInt32))] : List Int32)).map (fun c => c.toInt8.toInt32)).map Value.int) (.int (0 : Int32)) := P4.ext E2
  have hp8 : ∀ c ∈ ([(nar .char ((u6 &&& (255 : Int32)).toUInt32.toUInt16.toUInt32.toInt32))] : List Int32), ¬ c < 0 ∧ ¬ (255 : Int32) < c := by
    intro c hc
    simp only [List.mem_cons, List.not_mem_nil, or_false] at hc
    subst hc
    · exact own_chars u6
  have hcd9 : StrChars.Road.CodA ([(nar .char ((u6 &&& (255 : Int32)).toUInt32.toUInt16.toUInt32.toInt32))] : List Int32) 0 (1 : Int32) (((([(nar .char ((u6 &&& (255 : Int32)).toUInt32.toUInt16.toUInt32.toInt32))] : List Int32)).map (fun c => c.toInt8.toInt32)).map Value.int) := StrChars.Road.codOf (n := 1) rfl (fun c hc => (hp8 c hc).2)
  have hbd9 : ∀ c ∈ ([(nar .char ((u6 &&& (255 : Int32)).toUInt32.toUInt16.toUInt32.toInt32))] : List Int32), ¬ c < 0 ∧ ¬ (65535 : Int32) < c := own_up _ hp8
  obtain ⟨cq10, kq10, q10a, q10b, q10c⟩ := isOf hZ2 e3 F1_4
  obtain ⟨_, _, ⟨T10, L10, k10x, n10⟩, -, X10, ⟨Lc10, hQ10, l10, y10, z10⟩, st10⟩ := X3.virtualBack hx (y := (⟨"java/lang/String", "isEmpty", "()Z"⟩ : MethodName)) (z := (⟨"java/lang/String", "isEmpty", "()Z"⟩ : MethodName)) hown2 (mvT hZ2 (tw hw 53 rfl)) (mvT hZ2 (tw hw 54 rfl)) (notFace_of_selects (args := #[]) (mvT hZ2 (tw hw 56 rfl))) (mvT hZ2 (tw hw 56 rfl)) (mvT hZ2 (tw hw 55 rfl)) (by decide) (StrChars.Road.empW (W := 0) hZ2 hwwordsEmp (kI := 4) (tw hw 5 rfl) F1_4 F1_5 F1_6 F1_7 hcd9 hbd9 (Nat.le_of_ble_eq_true rfl) (by decide) (by decide)) q10a q10c (g := (mkF m 16 #[rv u1, rv u2, rv u3] [(.ref u2)])) rfl (by rw [hml]; rfl) (Steps.refl _) (argsL := []) (rest := []) (lenOf pd_4 rfl) rfl (by show 2 * 0 + _ ≤ _; exact Nat.le_of_eq rfl) (hb hby d8_16) (fun _ _ => ⟨rfl, e3, (by decide : 2 + 0 ≤ _), (by decide : 24 + 0 ≤ _)⟩)
  dsimp only [Pt.U, Pt.locs, Pt.cells, Pt.slots] at X10 l10 y10 z10 st10 hQ10
  subst l10 y10 z10
  obtain ⟨rfl, rfl, e10⟩ := hQ10
  have N10 := Fr.app N3 (Fr.nil n0)
  have F1_11 : Exa Z h2 u3 "java/lang/String" := P5.ext E2
  have F1_12 : Fld Z h2 u3 "java/lang/String" "value" "[B" (.ref u7) := P6.ext E2
  have F1_13 : Fld Z h2 u3 "java/lang/String" "coder" "B" (.int 0) := P7.ext E2
  have F1_14 : Arv Z h2 u7 u8 .byte (2 : Int32) (((([(nar .char ((u9 &&& (255 : Int32)).toUInt32.toUInt16.toUInt32.toInt32)), (nar .char ((u10 &&& (255 : Int32)).toUInt32.toUInt16.toUInt32.toInt32))] : List Int32)).map (fun c => c.toInt8.toInt32)).map Value.int) (.int (0 : Int32)) := P8.ext E2
  have hp15 : ∀ c ∈ ([(nar .char ((u9 &&& (255 : Int32)).toUInt32.toUInt16.toUInt32.toInt32)), (nar .char ((u10 &&& (255 : Int32)).toUInt32.toUInt16.toUInt32.toInt32))] : List Int32), ¬ c < 0 ∧ ¬ (255 : Int32) < c := by
    intro c hc
    simp only [List.mem_cons, List.not_mem_nil, or_false] at hc
    rcases hc with rfl | rfl
    · exact own_chars u9
    · exact own_chars u10
  have hcd16 : StrChars.Road.CodA ([(nar .char ((u9 &&& (255 : Int32)).toUInt32.toUInt16.toUInt32.toInt32)), (nar .char ((u10 &&& (255 : Int32)).toUInt32.toUInt16.toUInt32.toInt32))] : List Int32) 0 (2 : Int32) (((([(nar .char ((u9 &&& (255 : Int32)).toUInt32.toUInt16.toUInt32.toInt32)), (nar .char ((u10 &&& (255 : Int32)).toUInt32.toUInt16.toUInt32.toInt32))] : List Int32)).map (fun c => c.toInt8.toInt32)).map Value.int) := StrChars.Road.codOf (n := 2) rfl (fun c hc => (hp15 c hc).2)
  have hbd16 : ∀ c ∈ ([(nar .char ((u9 &&& (255 : Int32)).toUInt32.toUInt16.toUInt32.toInt32)), (nar .char ((u10 &&& (255 : Int32)).toUInt32.toUInt16.toUInt32.toInt32))] : List Int32), ¬ c < 0 ∧ ¬ (65535 : Int32) < c := own_up _ hp15
  obtain ⟨cq17, kq17, q17a, q17b, q17c⟩ := isOf hZ2 e10 F1_11
  obtain ⟨_, _, ⟨T17, L17, k17x, n17⟩, -, X17, ⟨Lc17, hQ17, l17, y17, z17⟩, st17⟩ := X10.virtualBack hx (y := (⟨"java/lang/String", "isEmpty", "()Z"⟩ : MethodName)) (z := (⟨"java/lang/String", "isEmpty", "()Z"⟩ : MethodName)) hown2 (mvT hZ2 (tw hw 53 rfl)) (mvT hZ2 (tw hw 54 rfl)) (notFace_of_selects (args := #[]) (mvT hZ2 (tw hw 56 rfl))) (mvT hZ2 (tw hw 56 rfl)) (mvT hZ2 (tw hw 55 rfl)) (by decide) (StrChars.Road.empW (W := 0) hZ2 hwwordsEmp (kI := 4) (tw hw 5 rfl) F1_11 F1_12 F1_13 F1_14 hcd16 hbd16 (Nat.le_of_ble_eq_true rfl) (by decide) (by decide)) q17a q17c (g := (mkF m 33 #[rv u1, rv u2, rv u3] [(.ref u3)])) rfl (by rw [hml]; rfl) (Steps.refl _) (argsL := []) (rest := []) (lenOf pd_4 rfl) rfl (by show 2 * 0 + _ ≤ _; exact Nat.le_of_eq rfl) (hb hby d8_33) (fun _ _ => ⟨rfl, e10, (by decide : 2 + 0 ≤ _), (by decide : 24 + 0 ≤ _)⟩)
  dsimp only [Pt.U, Pt.locs, Pt.cells, Pt.slots] at X17 l17 y17 z17 st17 hQ17
  subst l17 y17 z17
  obtain ⟨rfl, rfl, e17⟩ := hQ17
  have N17 := Fr.app N10 (Fr.nil n0)
  have F1_18 : Exa Z h2 u1 "com/example/qedbox/qedbox/Keyword" := P9.ext E2
  have F1_19 : Fld Z h2 u1 "com/example/qedbox/qedbox/Keyword" "domain" "Ljava/lang/String;" .null := P10.ext E2
  have F1_20 : Fld Z h2 u1 "com/example/qedbox/qedbox/Keyword" "value" "Ljava/lang/String;" .null := P11.ext E2
  obtain ⟨T21, h21, X21, e21, W21, st21⟩ := putF X17 hx hZ2 hown2 (host := "") (Or.inl (tw hw 58 rfl)) Via.refl e17 F1_19 F1_18 (Or.inr ⟨(tw hw 59 rfl), rfl, hnm⟩) (tw hw 35 rfl) (ty := (.object "java/lang/String")) (by decide) rfl rfl (g := (mkF m 51 #[rv u1, rv u2, rv u3] [(.ref u2), (.ref u1)])) rfl rfl (hb hby d8_51)
  have K21 : Keep h0 h21 [u1] := K2.wr W21 (Or.inl (List.mem_of_getElem? (i := 0) rfl))
  have N21 := Fr.snoc X21 N17 P12
  have Fw21 : Fld Z h21 u1 "com/example/qedbox/qedbox/Keyword" "domain" "Ljava/lang/String;" (.ref u2) := F1_19.same W21
  have F2_22 : Exa Z h21 u1 "com/example/qedbox/qedbox/Keyword" := F1_18.wr W21
  have F2_23 : Fld Z h21 u1 "com/example/qedbox/qedbox/Keyword" "value" "Ljava/lang/String;" .null := F1_20.other W21 (Or.inr (slot_ne (Or.inr (tw hw 61 rfl)) (Or.inr (tw hw 59 rfl)) (by decide) (t := (.object "java/lang/String")) (t' := (.object "java/lang/String")) (by decide) (by decide)))
  obtain ⟨T24, h24, X24, e24, W24, st24⟩ := putF X21 hx hZ2 hown2 (host := "") (Or.inl (tw hw 60 rfl)) Via.refl e21 F2_23 F2_22 (Or.inr ⟨(tw hw 61 rfl), rfl, hnm⟩) (tw hw 35 rfl) (ty := (.object "java/lang/String")) (by decide) rfl rfl (g := (mkF m 56 #[rv u1, rv u2, rv u3] [(.ref u3), (.ref u1)])) rfl rfl (hb hby d8_56)
  have K24 : Keep h0 h24 [u1] := K21.wr W24 (Or.inl (List.mem_of_getElem? (i := 0) rfl))
  have N24 := Fr.snoc X24 N21 P12
  have Fw24 : Fld Z h24 u1 "com/example/qedbox/qedbox/Keyword" "value" "Ljava/lang/String;" (.ref u3) := F2_23.same W24
  have F3_25 : Exa Z h24 u1 "com/example/qedbox/qedbox/Keyword" := F2_22.wr W24
  have F3_26 : Fld Z h24 u1 "com/example/qedbox/qedbox/Keyword" "domain" "Ljava/lang/String;" (.ref u2) := Fw21.other W24 (Or.inr (slot_ne (Or.inr (tw hw 59 rfl)) (Or.inr (tw hw 61 rfl)) (by decide) (t := (.object "java/lang/String")) (t' := (.object "java/lang/String")) (by decide) (by decide)))
  have hkk21_2 : kq2 ≤ h21.size := Nat.le_trans hk2 (Keep.of_wr W21).1
  have hkk24_3 : kq2 ≤ h24.size := Nat.le_trans hkk21_2 (Keep.of_wr W24).1
  obtain ⟨fs, hr, hrun, hended, hRW⟩ := X24.leaveW hS2 (by rw [e24]; exact hkk24_3) (v := none) (fun _ => rfl)
  refine ⟨_, _, pre0 _ ?_, hrun, hended, _, _, rfl, ?_, hRW.1, hRW.2.1, hRW.2.2.1, hRW.2.2.2.mono (by decide) (by decide)⟩
  · show SF p e below s₁ (mkF m 0 #[rv u1, rv u2, rv u3] []) _
    refine XS.aloadN X0.here hx rfl (hb hby d8_0) rfl rfl ?_
    show SF p e below s₁ (mkF m 1 #[rv u1, rv u2, rv u3] [(.ref u1)]) _
    refine st1.trans ?_
    show SF p e below T1 (mkF m 4 #[rv u1, rv u2, rv u3] []) _
    refine XS.aloadN X1.here hx rfl (hb hby d8_4) rfl rfl ?_
    show SF p e below T1 (mkF m 5 #[rv u1, rv u2, rv u3] [(.ref u3)]) _
    refine st2 _ ?_
    show SF p e below T2 (mkF m 7 #[rv u1, rv u2, rv u3] [(.ref w11x), (.ref u3)]) _
    refine st3 _ ?_
    show SF p e below T3 (mkF m 10 #[rv u1, rv u2, rv u3] [(.ref u3)]) _
    refine XS.pop X3.here hx rfl (hb hby d8_10) rfl rfl ?_
    refine XS.aloadN X3.here hx rfl (hb hby d8_11) rfl rfl ?_
    show SF p e below T3 (mkF m 12 #[rv u1, rv u2, rv u3] [(.ref u2)]) _
    refine XS.ifnullNo X3.here hx rfl (hb hby d8_12) rfl ?_
    show SF p e below T3 (mkF m 15 #[rv u1, rv u2, rv u3] []) _
    refine XS.aloadN X3.here hx rfl (hb hby d8_15) rfl rfl ?_
    show SF p e below T3 (mkF m 16 #[rv u1, rv u2, rv u3] [(.ref u2)]) _
    refine st10.trans ?_
    show SF p e below T10 (mkF m 19 #[rv u1, rv u2, rv u3] [(.int 0)]) _
    refine XS.ifYes X10.here hx rfl (pc0 := 19) (pc' := 32) rfl (hb hby d8_19) rfl ((if0 _ _).trans (teq (by decide : (0 : Int32) = (0 : Int32))).1) (by decide) (by decide) ?_
    show SF p e below T10 (mkF m 32 #[rv u1, rv u2, rv u3] []) _
    refine XS.aloadN X10.here hx rfl (hb hby d8_32) rfl rfl ?_
    show SF p e below T10 (mkF m 33 #[rv u1, rv u2, rv u3] [(.ref u3)]) _
    refine st17.trans ?_
    show SF p e below T17 (mkF m 36 #[rv u1, rv u2, rv u3] [(.int 0)]) _
    refine XS.ifYes X17.here hx rfl (pc0 := 36) (pc' := 49) rfl (hb hby d8_36) rfl ((if0 _ _).trans (teq (by decide : (0 : Int32) = (0 : Int32))).1) (by decide) (by decide) ?_
    show SF p e below T17 (mkF m 49 #[rv u1, rv u2, rv u3] []) _
    refine XS.aloadN X17.here hx rfl (hb hby d8_49) rfl rfl ?_
    refine XS.aloadN X17.here hx rfl (hb hby d8_50) rfl rfl ?_
    show SF p e below T17 (mkF m 51 #[rv u1, rv u2, rv u3] [(.ref u2), (.ref u1)]) _
    refine st21 _ ?_
    show SF p e below T21 (mkF m 54 #[rv u1, rv u2, rv u3] []) _
    refine XS.aloadN X21.here hx rfl (hb hby d8_54) rfl rfl ?_
    refine XS.aloadN X21.here hx rfl (hb hby d8_55) rfl rfl ?_
    show SF p e below T21 (mkF m 56 #[rv u1, rv u2, rv u3] [(.ref u3), (.ref u1)]) _
    refine st24 _ ?_
    show SF p e below T24 (mkF m 59 #[rv u1, rv u2, rv u3] []) _
    exact X24.returnOut hx Bd.returns (hb hby d8_59) hr
  · show Q8_14 Z u1 u2 u3 u4 u5 u6 u7 u8 u9 u10 h0 n0 _ T24.heap _
    rw [e24]
    exact ⟨rfl, N24, K24, F3_25, F3_26, Fw24⟩
-- Keyword.init 
def Q8_15 (Z : State) (u1 : Addr) (u2 : Addr) (u3 : Addr) (u4 : Addr) (u5 : ClassId) (u6 : Int32) (u7 : Int32) (u8 : Addr) (u9 : ClassId) (u10 : Int32) (h0 : Heap) (n0 : Nat) (v : Option Value) (h : Heap) (L : List Loc) : Prop := v = none ∧ Fr n0 L ∧ Keep h0 h [u1] ∧ Exa Z h u1 "com/example/qedbox/qedbox/Keyword" ∧ Fld Z h u1 "com/example/qedbox/qedbox/Keyword" "domain" "Ljava/lang/String;" (.ref u2) ∧ Fld Z h u1 "com/example/qedbox/qedbox/Keyword" "value" "Ljava/lang/String;" (.ref u3)
set_option maxRecDepth 65536 in
set_option maxHeartbeats 40000000 in
theorem rm8_15 (l : Launch) (Z : State) (a0 : Array Value) (hw : HW Z a0) (ws : List Jvm.Cond) (u1 : Addr) (u2 : Addr) (u3 : Addr) (u4 : Addr) (u5 : ClassId) (u6 : Int32) (u7 : Int32) (u8 : Addr) (u9 : ClassId) (u10 : Int32) (h0 : Heap) (n0 : Nat) (Z0 : n0 ≤ h0.size) (P1 : Exa Z h0 u2 "java/lang/String") (P2 : Fld Z h0 u2 "java/lang/String" "value" "[B" (.ref u4)) (P3 : Fld Z h0 u2 "java/lang/String" "coder" "B" (.int 0)) (P4 : Arv Z h0 u4 u5 .byte (2 : Int32) (((([(nar .char ((u6 &&& (255 : Int32)).toUInt32.toUInt16.toUInt32.toInt32)), (nar .char ((u7 &&& (255 : Int32)).toUInt32.toUInt16.toUInt32.toInt32))] : List Int32)).map (fun c => c.toInt8.toInt32)).map Value.int) (.int (0 : Int32))) (P5 : Exa Z h0 u3 "java/lang/String") (P6 : Fld Z h0 u3 "java/lang/String" "value" "[B" (.ref u8)) (P7 : Fld Z h0 u3 "java/lang/String" "coder" "B" (.int 0)) (P8 : Arv Z h0 u8 u9 .byte (1 : Int32) (((([(nar .char ((u10 &&& (255 : Int32)).toUInt32.toUInt16.toUInt32.toInt32))] : List Int32)).map (fun c => c.toInt8.toInt32)).map Value.int) (.int (0 : Int32))) (P9 : Exa Z h0 u1 "com/example/qedbox/qedbox/Keyword") (P10 : Fld Z h0 u1 "com/example/qedbox/qedbox/Keyword" "domain" "Ljava/lang/String;" .null) (P11 : Fld Z h0 u1 "com/example/qedbox/qedbox/Keyword" "value" "Ljava/lang/String;" .null) (P12 : n0 ≤ u1) :
    MFW l Z (⟨"com/example/qedbox/qedbox/Keyword", "<init>", "(Ljava/lang/String;Ljava/lang/String;)V"⟩ : MethodName) (Jvm.Cond.code (⟨"com/example/qedbox/qedbox/Keyword", "<init>", "(Ljava/lang/String;Ljava/lang/String;)V"⟩ : MethodName) prog_8_method_1_code 3 none) ws ({ frames := 2, cells := 2, slots := 24, locals := 24 } : Room) #[(.ref u1), (.ref u2), (.ref u3)] h0 (Q8_15 Z u1 u2 u3 u4 u5 u6 u7 u8 u9 u10 h0 n0) := by
  refine MetFree.of_bodySF (plainFor_of_name pn_3) hisR ?_
  intro p e s m args below meth c s₁ Bd hml0 hP hK
  obtain ⟨rfl, hZ, hh⟩ := hP
  have hx := Bd.exec
  have hby := Bd.bytes
  have hml : c.maxLocals = 3 := hml0
  have hown : s.vm.findClass "com/example/qedbox/qedbox/Keyword" = some m.cls := findClass_of_methodNamed Bd.named
  have hnm := (name_of_methodNamed Bd.named Bd.method).1
  have X0 : Stand p l e ({ frames := 2, cells := 2, slots := 24, locals := 24 } : Room) s m #[(.ref u1), (.ref u2), (.ref u3)] below meth c s₁ [] 0 0 := Stand.of_body Bd
  have e0 : s₁.heap = h0 := by rw [← hh, Bd.state]; rfl
  have N0 := Fr.nil n0
  have pre0 : ∀ t, SF p e below s₁ (mkF m 0 #[rv u1, rv u2, rv u3] []) t → SF p e below s₁ (entryFrame m #[(.ref u1), (.ref u2), (.ref u3)] 3) t := fun t k => castTop (ef_6 m u1 u2 u3) k
  obtain ⟨_, _, ⟨T1, L1, k1x, n1⟩, -, X1, ⟨Lc1, hQ1, l1, y1, z1⟩, st1⟩ := X0.specialBack hx (y := (⟨"java/lang/Record", "<init>", "()V"⟩ : MethodName)) rfl hown (mvT hZ (tw hw 40 rfl)) (mvT hZ (tw hw 41 rfl)) (mvT hZ (tw hw 44 rfl)) (by decide) (backOf (W := 0) (rm9_3 l Z a0 hw [] u1 h0 n0 Z0 ) hZ (tw hw 44 rfl) (tw hw 43 rfl) (by decide) (by decide)) (g := (mkF m 1 #[rv u1, rv u2, rv u3] [(.ref u1)])) rfl (by rw [hml]; rfl) (Steps.refl _) (a := u1) (argsL := []) (rest := []) (lenOf pd_2 rfl) rfl (by show 2 * 0 + _ ≤ _; exact Nat.le_of_eq rfl) (hb hby d8_1) (fun _ _ => ⟨rfl, e0, (by decide : 0 + 0 ≤ _), (by decide : 0 + 0 ≤ _)⟩)
  dsimp only [Pt.U, Pt.locs, Pt.cells, Pt.slots] at X1 l1 y1 z1 st1 hQ1
  subst l1 y1 z1
  obtain ⟨rfl, N1q, e1⟩ := hQ1
  have N1 := Fr.app N0 N1q
  have hwSA : ∀ d ∈ Bundle.stringAtoms, d.before a0 Z = true := fun d hd => hw d (own_strA d hd)
  have hS0 : s.Since s.vm h0.size := State.WarmedH.since (State.WarmedH.refl s) _
  have hk0 : h0.size ≤ h0.size := Nat.le_refl _
  obtain ⟨w11x, T2, h2, kq2, X2, e2, E2, hS2, hk2, hZ2, hown2, st2⟩ := ldcS (s := s) (vm0 := s.vm) X1 hx hZ hown (tw hw 46 rfl) hwSA e1 hS0 hk0 (g := (mkF m 5 #[rv u1, rv u2, rv u3] [(.ref u3)])) rfl (hb hby d8_5) (n := 20) (by decide) (by decide) (by decide) (by decide)
  have K2 : Keep h0 h2 [u1] := (Keep.refl h0 [u1]).ext E2
  have Z2 : n0 ≤ h2.size := Nat.le_trans Z0 E2.1
  obtain ⟨_, _, ⟨T3, L3, k3x, n3⟩, -, X3, ⟨Lc3, hQ3, l3, y3, z3⟩, st3⟩ := Jvm.LawKit.callS X2 hx (y := (⟨"java/util/Objects", "requireNonNull", "(Ljava/lang/Object;Ljava/lang/String;)Ljava/lang/Object;"⟩ : MethodName)) hown2 (mvT hZ2 (tw hw 49 rfl)) (mvT hZ2 (tw hw 50 rfl)) (mvT hZ2 (tw hw 51 rfl)) (mvT hZ2 (tw hw 52 rfl)) (by decide) (backOf (W := 0) (rm10_4 l Z a0 hw [] u3 w11x h2 n0 Z2 ) hZ2 (tw hw 52 rfl) (tw hw 51 rfl) (by decide) (by decide)) (g := (mkF m 7 #[rv u1, rv u2, rv u3] [(.ref w11x), (.ref u3)])) rfl (by rw [hml]; rfl) (argsL := [(.ref u3), (.ref w11x)]) (rest := []) (lenOf pd_3 rfl) rfl (by show 2 * 0 + _ ≤ _; exact Nat.le_of_eq rfl) (hb hby d8_7) (fun _ _ => ⟨rfl, e2, (by decide : 2 + 0 ≤ _), (by decide : 24 + 0 ≤ _)⟩)
  dsimp only [Pt.U, Pt.locs, Pt.cells, Pt.slots] at X3 l3 y3 z3 st3 hQ3
  subst l3 y3 z3
  obtain ⟨rfl, N3q, e3⟩ := hQ3
  have N3 := Fr.app N1 N3q
  have F1_4 : Exa Z h2 u2 "java/lang/String" := P1.ext E2
  have hwwordsEmp : ∀ d ∈ StrChars.Road.wordsEmp, d.before a0 Z = true := fun d hd => hw d (own_wordsEmp d hd)
  have F1_5 : Fld Z h2 u2 "java/lang/String" "value" "[B" (.ref u4) := P2.ext E2
  have F1_6 : Fld Z h2 u2 "java/lang/String" "coder" "B" (.int 0) := P3.ext E2
  have F1_7 : Arv Z h2 u4 u5 .byte (2 : Int32) (((([(nar .char ((u6 &&& (255 : Int32)).toUInt32.toUInt16.toUInt32.toInt32)), (nar .char ((u7 &&& (255 : Int32)).toUInt32.toUInt16.toUInt32.toInt32))] : List Int32)).map (fun c => c.toInt8.toInt32)).map Value.int) (.int (0 : Int32)) := P4.ext E2
  have hp8 : ∀ c ∈ ([(nar .char ((u6 &&& (255 : Int32)).toUInt32.toUInt16.toUInt32.toInt32)), (nar .char ((u7 &&& (255 : Int32)).toUInt32.toUInt16.toUInt32.toInt32))] : List Int32), ¬ c < 0 ∧ ¬ (255 : Int32) < c := by
    intro c hc
    simp only [List.mem_cons, List.not_mem_nil, or_false] at hc
    rcases hc with rfl | rfl
    · exact own_chars u6
    · exact own_chars u7
  have hcd9 : StrChars.Road.CodA ([(nar .char ((u6 &&& (255 : Int32)).toUInt32.toUInt16.toUInt32.toInt32)), (nar .char ((u7 &&& (255 : Int32)).toUInt32.toUInt16.toUInt32.toInt32))] : List Int32) 0 (2 : Int32) (((([(nar .char ((u6 &&& (255 : Int32)).toUInt32.toUInt16.toUInt32.toInt32)), (nar .char ((u7 &&& (255 : Int32)).toUInt32.toUInt16.toUInt32.toInt32))] : List Int32)).map (fun c => c.toInt8.toInt32)).map Value.int) := StrChars.Road.codOf (n := 2) rfl (fun c hc => (hp8 c hc).2)
  have hbd9 : ∀ c ∈ ([(nar .char ((u6 &&& (255 : Int32)).toUInt32.toUInt16.toUInt32.toInt32)), (nar .char ((u7 &&& (255 : Int32)).toUInt32.toUInt16.toUInt32.toInt32))] : List Int32), ¬ c < 0 ∧ ¬ (65535 : Int32) < c := own_up _ hp8
  obtain ⟨cq10, kq10, q10a, q10b, q10c⟩ := isOf hZ2 e3 F1_4
  obtain ⟨_, _, ⟨T10, L10, k10x, n10⟩, -, X10, ⟨Lc10, hQ10, l10, y10, z10⟩, st10⟩ := X3.virtualBack hx (y := (⟨"java/lang/String", "isEmpty", "()Z"⟩ : MethodName)) (z := (⟨"java/lang/String", "isEmpty", "()Z"⟩ : MethodName)) hown2 (mvT hZ2 (tw hw 53 rfl)) (mvT hZ2 (tw hw 54 rfl)) (notFace_of_selects (args := #[]) (mvT hZ2 (tw hw 56 rfl))) (mvT hZ2 (tw hw 56 rfl)) (mvT hZ2 (tw hw 55 rfl)) (by decide) (StrChars.Road.empW (W := 0) hZ2 hwwordsEmp (kI := 4) (tw hw 5 rfl) F1_4 F1_5 F1_6 F1_7 hcd9 hbd9 (Nat.le_of_ble_eq_true rfl) (by decide) (by decide)) q10a q10c (g := (mkF m 16 #[rv u1, rv u2, rv u3] [(.ref u2)])) rfl (by rw [hml]; rfl) (Steps.refl _) (argsL := []) (rest := []) (lenOf pd_4 rfl) rfl (by show 2 * 0 + _ ≤ _; exact Nat.le_of_eq rfl) (hb hby d8_16) (fun _ _ => ⟨rfl, e3, (by decide : 2 + 0 ≤ _), (by decide : 24 + 0 ≤ _)⟩)
  dsimp only [Pt.U, Pt.locs, Pt.cells, Pt.slots] at X10 l10 y10 z10 st10 hQ10
  subst l10 y10 z10
  obtain ⟨rfl, rfl, e10⟩ := hQ10
  have N10 := Fr.app N3 (Fr.nil n0)
  have F1_11 : Exa Z h2 u3 "java/lang/String" := P5.ext E2
  have F1_12 : Fld Z h2 u3 "java/lang/String" "value" "[B" (.ref u8) := P6.ext E2
  have F1_13 : Fld Z h2 u3 "java/lang/String" "coder" "B" (.int 0) := P7.ext E2
  have F1_14 : Arv Z h2 u8 u9 .byte (1 : Int32) (((([(nar .char ((u10 &&& (255 : Int32)).toUInt32.toUInt16.toUInt32.toInt32))] : List Int32)).map (fun c => c.toInt8.toInt32)).map Value.int) (.int (0 : Int32)) := P8.ext E2
  have hp15 : ∀ c ∈ ([(nar .char ((u10 &&& (255 : Int32)).toUInt32.toUInt16.toUInt32.toInt32))] : List Int32), ¬ c < 0 ∧ ¬ (255 : Int32) < c := by
    intro c hc
    simp only [List.mem_cons, List.not_mem_nil, or_false] at hc
    subst hc
    · exact own_chars u10
  have hcd16 : StrChars.Road.CodA ([(nar .char ((u10 &&& (255 : Int32)).toUInt32.toUInt16.toUInt32.toInt32))] : List Int32) 0 (1 : Int32) (((([(nar .char ((u10 &&& (255 : Int32)).toUInt32.toUInt16.toUInt32.toInt32))] : List Int32)).map (fun c => c.toInt8.toInt32)).map Value.int) := StrChars.Road.codOf (n := 1) rfl (fun c hc => (hp15 c hc).2)
  have hbd16 : ∀ c ∈ ([(nar .char ((u10 &&& (255 : Int32)).toUInt32.toUInt16.toUInt32.toInt32))] : List Int32), ¬ c < 0 ∧ ¬ (65535 : Int32) < c := own_up _ hp15
  obtain ⟨cq17, kq17, q17a, q17b, q17c⟩ := isOf hZ2 e10 F1_11
  obtain ⟨_, _, ⟨T17, L17, k17x, n17⟩, -, X17, ⟨Lc17, hQ17, l17, y17, z17⟩, st17⟩ := X10.virtualBack hx (y := (⟨"java/lang/String", "isEmpty", "()Z"⟩ : MethodName)) (z := (⟨"java/lang/String", "isEmpty", "()Z"⟩ : MethodName)) hown2 (mvT hZ2 (tw hw 53 rfl)) (mvT hZ2 (tw hw 54 rfl)) (notFace_of_selects (args := #[]) (mvT hZ2 (tw hw 56 rfl))) (mvT hZ2 (tw hw 56 rfl)) (mvT hZ2 (tw hw 55 rfl)) (by decide) (StrChars.Road.empW (W := 0) hZ2 hwwordsEmp (kI := 4) (tw hw 5 rfl) F1_11 F1_12 F1_13 F1_14 hcd16 hbd16 (Nat.le_of_ble_eq_true rfl) (by decide) (by decide)) q17a q17c (g := (mkF m 33 #[rv u1, rv u2, rv u3] [(.ref u3)])) rfl (by rw [hml]; rfl) (Steps.refl _) (argsL := []) (rest := []) (lenOf pd_4 rfl) rfl (by show 2 * 0 + _ ≤ _; exact Nat.le_of_eq rfl) (hb hby d8_33) (fun _ _ => ⟨rfl, e10, (by decide : 2 + 0 ≤ _), (by decide : 24 + 0 ≤ _)⟩)
  dsimp only [Pt.U, Pt.locs, Pt.cells, Pt.slots] at X17 l17 y17 z17 st17 hQ17
  subst l17 y17 z17
  obtain ⟨rfl, rfl, e17⟩ := hQ17
  have N17 := Fr.app N10 (Fr.nil n0)
  have F1_18 : Exa Z h2 u1 "com/example/qedbox/qedbox/Keyword" := P9.ext E2
  have F1_19 : Fld Z h2 u1 "com/example/qedbox/qedbox/Keyword" "domain" "Ljava/lang/String;" .null := P10.ext E2
  have F1_20 : Fld Z h2 u1 "com/example/qedbox/qedbox/Keyword" "value" "Ljava/lang/String;" .null := P11.ext E2
  obtain ⟨T21, h21, X21, e21, W21, st21⟩ := putF X17 hx hZ2 hown2 (host := "") (Or.inl (tw hw 58 rfl)) Via.refl e17 F1_19 F1_18 (Or.inr ⟨(tw hw 59 rfl), rfl, hnm⟩) (tw hw 35 rfl) (ty := (.object "java/lang/String")) (by decide) rfl rfl (g := (mkF m 51 #[rv u1, rv u2, rv u3] [(.ref u2), (.ref u1)])) rfl rfl (hb hby d8_51)
  have K21 : Keep h0 h21 [u1] := K2.wr W21 (Or.inl (List.mem_of_getElem? (i := 0) rfl))
  have N21 := Fr.snoc X21 N17 P12
  have Fw21 : Fld Z h21 u1 "com/example/qedbox/qedbox/Keyword" "domain" "Ljava/lang/String;" (.ref u2) := F1_19.same W21
  have F2_22 : Exa Z h21 u1 "com/example/qedbox/qedbox/Keyword" := F1_18.wr W21
  have F2_23 : Fld Z h21 u1 "com/example/qedbox/qedbox/Keyword" "value" "Ljava/lang/String;" .null := F1_20.other W21 (Or.inr (slot_ne (Or.inr (tw hw 61 rfl)) (Or.inr (tw hw 59 rfl)) (by decide) (t := (.object "java/lang/String")) (t' := (.object "java/lang/String")) (by decide) (by decide)))
  obtain ⟨T24, h24, X24, e24, W24, st24⟩ := putF X21 hx hZ2 hown2 (host := "") (Or.inl (tw hw 60 rfl)) Via.refl e21 F2_23 F2_22 (Or.inr ⟨(tw hw 61 rfl), rfl, hnm⟩) (tw hw 35 rfl) (ty := (.object "java/lang/String")) (by decide) rfl rfl (g := (mkF m 56 #[rv u1, rv u2, rv u3] [(.ref u3), (.ref u1)])) rfl rfl (hb hby d8_56)
  have K24 : Keep h0 h24 [u1] := K21.wr W24 (Or.inl (List.mem_of_getElem? (i := 0) rfl))
  have N24 := Fr.snoc X24 N21 P12
  have Fw24 : Fld Z h24 u1 "com/example/qedbox/qedbox/Keyword" "value" "Ljava/lang/String;" (.ref u3) := F2_23.same W24
  have F3_25 : Exa Z h24 u1 "com/example/qedbox/qedbox/Keyword" := F2_22.wr W24
  have F3_26 : Fld Z h24 u1 "com/example/qedbox/qedbox/Keyword" "domain" "Ljava/lang/String;" (.ref u2) := Fw21.other W24 (Or.inr (slot_ne (Or.inr (tw hw 59 rfl)) (Or.inr (tw hw 61 rfl)) (by decide) (t := (.object "java/lang/String")) (t' := (.object "java/lang/String")) (by decide) (by decide)))
  have hkk21_2 : kq2 ≤ h21.size := Nat.le_trans hk2 (Keep.of_wr W21).1
  have hkk24_3 : kq2 ≤ h24.size := Nat.le_trans hkk21_2 (Keep.of_wr W24).1
  obtain ⟨fs, hr, hrun, hended, hRW⟩ := X24.leaveW hS2 (by rw [e24]; exact hkk24_3) (v := none) (fun _ => rfl)
  refine ⟨_, _, pre0 _ ?_, hrun, hended, _, _, rfl, ?_, hRW.1, hRW.2.1, hRW.2.2.1, hRW.2.2.2.mono (by decide) (by decide)⟩
  · show SF p e below s₁ (mkF m 0 #[rv u1, rv u2, rv u3] []) _
    refine XS.aloadN X0.here hx rfl (hb hby d8_0) rfl rfl ?_
    show SF p e below s₁ (mkF m 1 #[rv u1, rv u2, rv u3] [(.ref u1)]) _
    refine st1.trans ?_
    show SF p e below T1 (mkF m 4 #[rv u1, rv u2, rv u3] []) _
    refine XS.aloadN X1.here hx rfl (hb hby d8_4) rfl rfl ?_
    show SF p e below T1 (mkF m 5 #[rv u1, rv u2, rv u3] [(.ref u3)]) _
    refine st2 _ ?_
    show SF p e below T2 (mkF m 7 #[rv u1, rv u2, rv u3] [(.ref w11x), (.ref u3)]) _
    refine st3 _ ?_
    show SF p e below T3 (mkF m 10 #[rv u1, rv u2, rv u3] [(.ref u3)]) _
    refine XS.pop X3.here hx rfl (hb hby d8_10) rfl rfl ?_
    refine XS.aloadN X3.here hx rfl (hb hby d8_11) rfl rfl ?_
    show SF p e below T3 (mkF m 12 #[rv u1, rv u2, rv u3] [(.ref u2)]) _
    refine XS.ifnullNo X3.here hx rfl (hb hby d8_12) rfl ?_
    show SF p e below T3 (mkF m 15 #[rv u1, rv u2, rv u3] []) _
    refine XS.aloadN X3.here hx rfl (hb hby d8_15) rfl rfl ?_
    show SF p e below T3 (mkF m 16 #[rv u1, rv u2, rv u3] [(.ref u2)]) _
    refine st10.trans ?_
    show SF p e below T10 (mkF m 19 #[rv u1, rv u2, rv u3] [(.int 0)]) _
    refine XS.ifYes X10.here hx rfl (pc0 := 19) (pc' := 32) rfl (hb hby d8_19) rfl ((if0 _ _).trans (teq (by decide : (0 : Int32) = (0 : Int32))).1) (by decide) (by decide) ?_
    show SF p e below T10 (mkF m 32 #[rv u1, rv u2, rv u3] []) _
    refine XS.aloadN X10.here hx rfl (hb hby d8_32) rfl rfl ?_
    show SF p e below T10 (mkF m 33 #[rv u1, rv u2, rv u3] [(.ref u3)]) _
    refine st17.trans ?_
    show SF p e below T17 (mkF m 36 #[rv u1, rv u2, rv u3] [(.int 0)]) _
    refine XS.ifYes X17.here hx rfl (pc0 := 36) (pc' := 49) rfl (hb hby d8_36) rfl ((if0 _ _).trans (teq (by decide : (0 : Int32) = (0 : Int32))).1) (by decide) (by decide) ?_
    show SF p e below T17 (mkF m 49 #[rv u1, rv u2, rv u3] []) _
    refine XS.aloadN X17.here hx rfl (hb hby d8_49) rfl rfl ?_
    refine XS.aloadN X17.here hx rfl (hb hby d8_50) rfl rfl ?_
    show SF p e below T17 (mkF m 51 #[rv u1, rv u2, rv u3] [(.ref u2), (.ref u1)]) _
    refine st21 _ ?_
    show SF p e below T21 (mkF m 54 #[rv u1, rv u2, rv u3] []) _
    refine XS.aloadN X21.here hx rfl (hb hby d8_54) rfl rfl ?_
    refine XS.aloadN X21.here hx rfl (hb hby d8_55) rfl rfl ?_
    show SF p e below T21 (mkF m 56 #[rv u1, rv u2, rv u3] [(.ref u3), (.ref u1)]) _
    refine st24 _ ?_
    show SF p e below T24 (mkF m 59 #[rv u1, rv u2, rv u3] []) _
    exact X24.returnOut hx Bd.returns (hb hby d8_59) hr
  · show Q8_15 Z u1 u2 u3 u4 u5 u6 u7 u8 u9 u10 h0 n0 _ T24.heap _
    rw [e24]
    exact ⟨rfl, N24, K24, F3_25, F3_26, Fw24⟩
-- Keyword.init 
def Q8_16 (Z : State) (u1 : Addr) (u2 : Addr) (u3 : Addr) (u4 : Addr) (u5 : ClassId) (u6 : Int32) (u7 : Int32) (u8 : Addr) (u9 : ClassId) (u10 : Int32) (u11 : Int32) (h0 : Heap) (n0 : Nat) (v : Option Value) (h : Heap) (L : List Loc) : Prop := v = none ∧ Fr n0 L ∧ Keep h0 h [u1] ∧ Exa Z h u1 "com/example/qedbox/qedbox/Keyword" ∧ Fld Z h u1 "com/example/qedbox/qedbox/Keyword" "domain" "Ljava/lang/String;" (.ref u2) ∧ Fld Z h u1 "com/example/qedbox/qedbox/Keyword" "value" "Ljava/lang/String;" (.ref u3)
set_option maxRecDepth 65536 in
set_option maxHeartbeats 40000000 in
theorem rm8_16 (l : Launch) (Z : State) (a0 : Array Value) (hw : HW Z a0) (ws : List Jvm.Cond) (u1 : Addr) (u2 : Addr) (u3 : Addr) (u4 : Addr) (u5 : ClassId) (u6 : Int32) (u7 : Int32) (u8 : Addr) (u9 : ClassId) (u10 : Int32) (u11 : Int32) (h0 : Heap) (n0 : Nat) (Z0 : n0 ≤ h0.size) (P1 : Exa Z h0 u2 "java/lang/String") (P2 : Fld Z h0 u2 "java/lang/String" "value" "[B" (.ref u4)) (P3 : Fld Z h0 u2 "java/lang/String" "coder" "B" (.int 0)) (P4 : Arv Z h0 u4 u5 .byte (2 : Int32) (((([(nar .char ((u6 &&& (255 : Int32)).toUInt32.toUInt16.toUInt32.toInt32)), (nar .char ((u7 &&& (255 : Int32)).toUInt32.toUInt16.toUInt32.toInt32))] : List Int32)).map (fun c => c.toInt8.toInt32)).map Value.int) (.int (0 : Int32))) (P5 : Exa Z h0 u3 "java/lang/String") (P6 : Fld Z h0 u3 "java/lang/String" "value" "[B" (.ref u8)) (P7 : Fld Z h0 u3 "java/lang/String" "coder" "B" (.int 0)) (P8 : Arv Z h0 u8 u9 .byte (2 : Int32) (((([(nar .char ((u10 &&& (255 : Int32)).toUInt32.toUInt16.toUInt32.toInt32)), (nar .char ((u11 &&& (255 : Int32)).toUInt32.toUInt16.toUInt32.toInt32))] : List Int32)).map (fun c => c.toInt8.toInt32)).map Value.int) (.int (0 : Int32))) (P9 : Exa Z h0 u1 "com/example/qedbox/qedbox/Keyword") (P10 : Fld Z h0 u1 "com/example/qedbox/qedbox/Keyword" "domain" "Ljava/lang/String;" .null) (P11 : Fld Z h0 u1 "com/example/qedbox/qedbox/Keyword" "value" "Ljava/lang/String;" .null) (P12 : n0 ≤ u1) :
    MFW l Z (⟨"com/example/qedbox/qedbox/Keyword", "<init>", "(Ljava/lang/String;Ljava/lang/String;)V"⟩ : MethodName) (Jvm.Cond.code (⟨"com/example/qedbox/qedbox/Keyword", "<init>", "(Ljava/lang/String;Ljava/lang/String;)V"⟩ : MethodName) prog_8_method_1_code 3 none) ws ({ frames := 2, cells := 2, slots := 24, locals := 24 } : Room) #[(.ref u1), (.ref u2), (.ref u3)] h0 (Q8_16 Z u1 u2 u3 u4 u5 u6 u7 u8 u9 u10 u11 h0 n0) := by
  refine MetFree.of_bodySF (plainFor_of_name pn_3) hisR ?_
  intro p e s m args below meth c s₁ Bd hml0 hP hK
  obtain ⟨rfl, hZ, hh⟩ := hP
  have hx := Bd.exec
  have hby := Bd.bytes
  have hml : c.maxLocals = 3 := hml0
  have hown : s.vm.findClass "com/example/qedbox/qedbox/Keyword" = some m.cls := findClass_of_methodNamed Bd.named
  have hnm := (name_of_methodNamed Bd.named Bd.method).1
  have X0 : Stand p l e ({ frames := 2, cells := 2, slots := 24, locals := 24 } : Room) s m #[(.ref u1), (.ref u2), (.ref u3)] below meth c s₁ [] 0 0 := Stand.of_body Bd
  have e0 : s₁.heap = h0 := by rw [← hh, Bd.state]; rfl
  have N0 := Fr.nil n0
  have pre0 : ∀ t, SF p e below s₁ (mkF m 0 #[rv u1, rv u2, rv u3] []) t → SF p e below s₁ (entryFrame m #[(.ref u1), (.ref u2), (.ref u3)] 3) t := fun t k => castTop (ef_6 m u1 u2 u3) k
  obtain ⟨_, _, ⟨T1, L1, k1x, n1⟩, -, X1, ⟨Lc1, hQ1, l1, y1, z1⟩, st1⟩ := X0.specialBack hx (y := (⟨"java/lang/Record", "<init>", "()V"⟩ : MethodName)) rfl hown (mvT hZ (tw hw 40 rfl)) (mvT hZ (tw hw 41 rfl)) (mvT hZ (tw hw 44 rfl)) (by decide) (backOf (W := 0) (rm9_3 l Z a0 hw [] u1 h0 n0 Z0 ) hZ (tw hw 44 rfl) (tw hw 43 rfl) (by decide) (by decide)) (g := (mkF m 1 #[rv u1, rv u2, rv u3] [(.ref u1)])) rfl (by rw [hml]; rfl) (Steps.refl _) (a := u1) (argsL := []) (rest := []) (lenOf pd_2 rfl) rfl (by show 2 * 0 + _ ≤ _; exact Nat.le_of_eq rfl) (hb hby d8_1) (fun _ _ => ⟨rfl, e0, (by decide : 0 + 0 ≤ _), (by decide : 0 + 0 ≤ _)⟩)
  dsimp only [Pt.U, Pt.locs, Pt.cells, Pt.slots] at X1 l1 y1 z1 st1 hQ1
  subst l1 y1 z1
  obtain ⟨rfl, N1q, e1⟩ := hQ1
  have N1 := Fr.app N0 N1q
  have hwSA : ∀ d ∈ Bundle.stringAtoms, d.before a0 Z = true := fun d hd => hw d (own_strA d hd)
  have hS0 : s.Since s.vm h0.size := State.WarmedH.since (State.WarmedH.refl s) _
  have hk0 : h0.size ≤ h0.size := Nat.le_refl _
  obtain ⟨w12x, T2, h2, kq2, X2, e2, E2, hS2, hk2, hZ2, hown2, st2⟩ := ldcS (s := s) (vm0 := s.vm) X1 hx hZ hown (tw hw 46 rfl) hwSA e1 hS0 hk0 (g := (mkF m 5 #[rv u1, rv u2, rv u3] [(.ref u3)])) rfl (hb hby d8_5) (n := 20) (by decide) (by decide) (by decide) (by decide)
  have K2 : Keep h0 h2 [u1] := (Keep.refl h0 [u1]).ext E2
  have Z2 : n0 ≤ h2.size := Nat.le_trans Z0 E2.1
  obtain ⟨_, _, ⟨T3, L3, k3x, n3⟩, -, X3, ⟨Lc3, hQ3, l3, y3, z3⟩, st3⟩ := Jvm.LawKit.callS X2 hx (y := (⟨"java/util/Objects", "requireNonNull", "(Ljava/lang/Object;Ljava/lang/String;)Ljava/lang/Object;"⟩ : MethodName)) hown2 (mvT hZ2 (tw hw 49 rfl)) (mvT hZ2 (tw hw 50 rfl)) (mvT hZ2 (tw hw 51 rfl)) (mvT hZ2 (tw hw 52 rfl)) (by decide) (backOf (W := 0) (rm10_4 l Z a0 hw [] u3 w12x h2 n0 Z2 ) hZ2 (tw hw 52 rfl) (tw hw 51 rfl) (by decide) (by decide)) (g := (mkF m 7 #[rv u1, rv u2, rv u3] [(.ref w12x), (.ref u3)])) rfl (by rw [hml]; rfl) (argsL := [(.ref u3), (.ref w12x)]) (rest := []) (lenOf pd_3 rfl) rfl (by show 2 * 0 + _ ≤ _; exact Nat.le_of_eq rfl) (hb hby d8_7) (fun _ _ => ⟨rfl, e2, (by decide : 2 + 0 ≤ _), (by decide : 24 + 0 ≤ _)⟩)
  dsimp only [Pt.U, Pt.locs, Pt.cells, Pt.slots] at X3 l3 y3 z3 st3 hQ3
  subst l3 y3 z3
  obtain ⟨rfl, N3q, e3⟩ := hQ3
  have N3 := Fr.app N1 N3q
  have F1_4 : Exa Z h2 u2 "java/lang/String" := P1.ext E2
  have hwwordsEmp : ∀ d ∈ StrChars.Road.wordsEmp, d.before a0 Z = true := fun d hd => hw d (own_wordsEmp d hd)
  have F1_5 : Fld Z h2 u2 "java/lang/String" "value" "[B" (.ref u4) := P2.ext E2
  have F1_6 : Fld Z h2 u2 "java/lang/String" "coder" "B" (.int 0) := P3.ext E2
  have F1_7 : Arv Z h2 u4 u5 .byte (2 : Int32) (((([(nar .char ((u6 &&& (255 : Int32)).toUInt32.toUInt16.toUInt32.toInt32)), (nar .char ((u7 &&& (255 : Int32)).toUInt32.toUInt16.toUInt32.toInt32))] : List Int32)).map (fun c => c.toInt8.toInt32)).map Value.int) (.int (0 : Int32)) := P4.ext E2
  have hp8 : ∀ c ∈ ([(nar .char ((u6 &&& (255 : Int32)).toUInt32.toUInt16.toUInt32.toInt32)), (nar .char ((u7 &&& (255 : Int32)).toUInt32.toUInt16.toUInt32.toInt32))] : List Int32), ¬ c < 0 ∧ ¬ (255 : Int32) < c := by
    intro c hc
    simp only [List.mem_cons, List.not_mem_nil, or_false] at hc
    rcases hc with rfl | rfl
    · exact own_chars u6
    · exact own_chars u7
  have hcd9 : StrChars.Road.CodA ([(nar .char ((u6 &&& (255 : Int32)).toUInt32.toUInt16.toUInt32.toInt32)), (nar .char ((u7 &&& (255 : Int32)).toUInt32.toUInt16.toUInt32.toInt32))] : List Int32) 0 (2 : Int32) (((([(nar .char ((u6 &&& (255 : Int32)).toUInt32.toUInt16.toUInt32.toInt32)), (nar .char ((u7 &&& (255 : Int32)).toUInt32.toUInt16.toUInt32.toInt32))] : List Int32)).map (fun c => c.toInt8.toInt32)).map Value.int) := StrChars.Road.codOf (n := 2) rfl (fun c hc => (hp8 c hc).2)
  have hbd9 : ∀ c ∈ ([(nar .char ((u6 &&& (255 : Int32)).toUInt32.toUInt16.toUInt32.toInt32)), (nar .char ((u7 &&& (255 : Int32)).toUInt32.toUInt16.toUInt32.toInt32))] : List Int32), ¬ c < 0 ∧ ¬ (65535 : Int32) < c := own_up _ hp8
  obtain ⟨cq10, kq10, q10a, q10b, q10c⟩ := isOf hZ2 e3 F1_4
  obtain ⟨_, _, ⟨T10, L10, k10x, n10⟩, -, X10, ⟨Lc10, hQ10, l10, y10, z10⟩, st10⟩ := X3.virtualBack hx (y := (⟨"java/lang/String", "isEmpty", "()Z"⟩ : MethodName)) (z := (⟨"java/lang/String", "isEmpty", "()Z"⟩ : MethodName)) hown2 (mvT hZ2 (tw hw 53 rfl)) (mvT hZ2 (tw hw 54 rfl)) (notFace_of_selects (args := #[]) (mvT hZ2 (tw hw 56 rfl))) (mvT hZ2 (tw hw 56 rfl)) (mvT hZ2 (tw hw 55 rfl)) (by decide) (StrChars.Road.empW (W := 0) hZ2 hwwordsEmp (kI := 4) (tw hw 5 rfl) F1_4 F1_5 F1_6 F1_7 hcd9 hbd9 (Nat.le_of_ble_eq_true rfl) (by decide) (by decide)) q10a q10c (g := (mkF m 16 #[rv u1, rv u2, rv u3] [(.ref u2)])) rfl (by rw [hml]; rfl) (Steps.refl _) (argsL := []) (rest := []) (lenOf pd_4 rfl) rfl (by show 2 * 0 + _ ≤ _; exact Nat.le_of_eq rfl) (hb hby d8_16) (fun _ _ => ⟨rfl, e3, (by decide : 2 + 0 ≤ _), (by decide : 24 + 0 ≤ _)⟩)
  dsimp only [Pt.U, Pt.locs, Pt.cells, Pt.slots] at X10 l10 y10 z10 st10 hQ10
  subst l10 y10 z10
  obtain ⟨rfl, rfl, e10⟩ := hQ10
  have N10 := Fr.app N3 (Fr.nil n0)
  have F1_11 : Exa Z h2 u3 "java/lang/String" := P5.ext E2
  have F1_12 : Fld Z h2 u3 "java/lang/String" "value" "[B" (.ref u8) := P6.ext E2
  have F1_13 : Fld Z h2 u3 "java/lang/String" "coder" "B" (.int 0) := P7.ext E2
  have F1_14 : Arv Z h2 u8 u9 .byte (2 : Int32) (((([(nar .char ((u10 &&& (255 : Int32)).toUInt32.toUInt16.toUInt32.toInt32)), (nar .char ((u11 &&& (255 : Int32)).toUInt32.toUInt16.toUInt32.toInt32))] : List Int32)).map (fun c => c.toInt8.toInt32)).map Value.int) (.int (0 : Int32)) := P8.ext E2
  have hp15 : ∀ c ∈ ([(nar .char ((u10 &&& (255 : Int32)).toUInt32.toUInt16.toUInt32.toInt32)), (nar .char ((u11 &&& (255 : Int32)).toUInt32.toUInt16.toUInt32.toInt32))] : List Int32), ¬ c < 0 ∧ ¬ (255 : Int32) < c := by
    intro c hc
    simp only [List.mem_cons, List.not_mem_nil, or_false] at hc
    rcases hc with rfl | rfl
    · exact own_chars u10
    · exact own_chars u11
  have hcd16 : StrChars.Road.CodA ([(nar .char ((u10 &&& (255 : Int32)).toUInt32.toUInt16.toUInt32.toInt32)), (nar .char ((u11 &&& (255 : Int32)).toUInt32.toUInt16.toUInt32.toInt32))] : List Int32) 0 (2 : Int32) (((([(nar .char ((u10 &&& (255 : Int32)).toUInt32.toUInt16.toUInt32.toInt32)), (nar .char ((u11 &&& (255 : Int32)).toUInt32.toUInt16.toUInt32.toInt32))] : List Int32)).map (fun c => c.toInt8.toInt32)).map Value.int) := StrChars.Road.codOf (n := 2) rfl (fun c hc => (hp15 c hc).2)
  have hbd16 : ∀ c ∈ ([(nar .char ((u10 &&& (255 : Int32)).toUInt32.toUInt16.toUInt32.toInt32)), (nar .char ((u11 &&& (255 : Int32)).toUInt32.toUInt16.toUInt32.toInt32))] : List Int32), ¬ c < 0 ∧ ¬ (65535 : Int32) < c := own_up _ hp15
  obtain ⟨cq17, kq17, q17a, q17b, q17c⟩ := isOf hZ2 e10 F1_11
  obtain ⟨_, _, ⟨T17, L17, k17x, n17⟩, -, X17, ⟨Lc17, hQ17, l17, y17, z17⟩, st17⟩ := X10.virtualBack hx (y := (⟨"java/lang/String", "isEmpty", "()Z"⟩ : MethodName)) (z := (⟨"java/lang/String", "isEmpty", "()Z"⟩ : MethodName)) hown2 (mvT hZ2 (tw hw 53 rfl)) (mvT hZ2 (tw hw 54 rfl)) (notFace_of_selects (args := #[]) (mvT hZ2 (tw hw 56 rfl))) (mvT hZ2 (tw hw 56 rfl)) (mvT hZ2 (tw hw 55 rfl)) (by decide) (StrChars.Road.empW (W := 0) hZ2 hwwordsEmp (kI := 4) (tw hw 5 rfl) F1_11 F1_12 F1_13 F1_14 hcd16 hbd16 (Nat.le_of_ble_eq_true rfl) (by decide) (by decide)) q17a q17c (g := (mkF m 33 #[rv u1, rv u2, rv u3] [(.ref u3)])) rfl (by rw [hml]; rfl) (Steps.refl _) (argsL := []) (rest := []) (lenOf pd_4 rfl) rfl (by show 2 * 0 + _ ≤ _; exact Nat.le_of_eq rfl) (hb hby d8_33) (fun _ _ => ⟨rfl, e10, (by decide : 2 + 0 ≤ _), (by decide : 24 + 0 ≤ _)⟩)
  dsimp only [Pt.U, Pt.locs, Pt.cells, Pt.slots] at X17 l17 y17 z17 st17 hQ17
  subst l17 y17 z17
  obtain ⟨rfl, rfl, e17⟩ := hQ17
  have N17 := Fr.app N10 (Fr.nil n0)
  have F1_18 : Exa Z h2 u1 "com/example/qedbox/qedbox/Keyword" := P9.ext E2
  have F1_19 : Fld Z h2 u1 "com/example/qedbox/qedbox/Keyword" "domain" "Ljava/lang/String;" .null := P10.ext E2
  have F1_20 : Fld Z h2 u1 "com/example/qedbox/qedbox/Keyword" "value" "Ljava/lang/String;" .null := P11.ext E2
  obtain ⟨T21, h21, X21, e21, W21, st21⟩ := putF X17 hx hZ2 hown2 (host := "") (Or.inl (tw hw 58 rfl)) Via.refl e17 F1_19 F1_18 (Or.inr ⟨(tw hw 59 rfl), rfl, hnm⟩) (tw hw 35 rfl) (ty := (.object "java/lang/String")) (by decide) rfl rfl (g := (mkF m 51 #[rv u1, rv u2, rv u3] [(.ref u2), (.ref u1)])) rfl rfl (hb hby d8_51)
  have K21 : Keep h0 h21 [u1] := K2.wr W21 (Or.inl (List.mem_of_getElem? (i := 0) rfl))
  have N21 := Fr.snoc X21 N17 P12
  have Fw21 : Fld Z h21 u1 "com/example/qedbox/qedbox/Keyword" "domain" "Ljava/lang/String;" (.ref u2) := F1_19.same W21
  have F2_22 : Exa Z h21 u1 "com/example/qedbox/qedbox/Keyword" := F1_18.wr W21
  have F2_23 : Fld Z h21 u1 "com/example/qedbox/qedbox/Keyword" "value" "Ljava/lang/String;" .null := F1_20.other W21 (Or.inr (slot_ne (Or.inr (tw hw 61 rfl)) (Or.inr (tw hw 59 rfl)) (by decide) (t := (.object "java/lang/String")) (t' := (.object "java/lang/String")) (by decide) (by decide)))
  obtain ⟨T24, h24, X24, e24, W24, st24⟩ := putF X21 hx hZ2 hown2 (host := "") (Or.inl (tw hw 60 rfl)) Via.refl e21 F2_23 F2_22 (Or.inr ⟨(tw hw 61 rfl), rfl, hnm⟩) (tw hw 35 rfl) (ty := (.object "java/lang/String")) (by decide) rfl rfl (g := (mkF m 56 #[rv u1, rv u2, rv u3] [(.ref u3), (.ref u1)])) rfl rfl (hb hby d8_56)
  have K24 : Keep h0 h24 [u1] := K21.wr W24 (Or.inl (List.mem_of_getElem? (i := 0) rfl))
  have N24 := Fr.snoc X24 N21 P12
  have Fw24 : Fld Z h24 u1 "com/example/qedbox/qedbox/Keyword" "value" "Ljava/lang/String;" (.ref u3) := F2_23.same W24
  have F3_25 : Exa Z h24 u1 "com/example/qedbox/qedbox/Keyword" := F2_22.wr W24
  have F3_26 : Fld Z h24 u1 "com/example/qedbox/qedbox/Keyword" "domain" "Ljava/lang/String;" (.ref u2) := Fw21.other W24 (Or.inr (slot_ne (Or.inr (tw hw 59 rfl)) (Or.inr (tw hw 61 rfl)) (by decide) (t := (.object "java/lang/String")) (t' := (.object "java/lang/String")) (by decide) (by decide)))
  have hkk21_2 : kq2 ≤ h21.size := Nat.le_trans hk2 (Keep.of_wr W21).1
  have hkk24_3 : kq2 ≤ h24.size := Nat.le_trans hkk21_2 (Keep.of_wr W24).1
  obtain ⟨fs, hr, hrun, hended, hRW⟩ := X24.leaveW hS2 (by rw [e24]; exact hkk24_3) (v := none) (fun _ => rfl)
  refine ⟨_, _, pre0 _ ?_, hrun, hended, _, _, rfl, ?_, hRW.1, hRW.2.1, hRW.2.2.1, hRW.2.2.2.mono (by decide) (by decide)⟩
  · show SF p e below s₁ (mkF m 0 #[rv u1, rv u2, rv u3] []) _
    refine XS.aloadN X0.here hx rfl (hb hby d8_0) rfl rfl ?_
    show SF p e below s₁ (mkF m 1 #[rv u1, rv u2, rv u3] [(.ref u1)]) _
    refine st1.trans ?_
    show SF p e below T1 (mkF m 4 #[rv u1, rv u2, rv u3] []) _
    refine XS.aloadN X1.here hx rfl (hb hby d8_4) rfl rfl ?_
    show SF p e below T1 (mkF m 5 #[rv u1, rv u2, rv u3] [(.ref u3)]) _
    refine st2 _ ?_
    show SF p e below T2 (mkF m 7 #[rv u1, rv u2, rv u3] [(.ref w12x), (.ref u3)]) _
    refine st3 _ ?_
    show SF p e below T3 (mkF m 10 #[rv u1, rv u2, rv u3] [(.ref u3)]) _
    refine XS.pop X3.here hx rfl (hb hby d8_10) rfl rfl ?_
    refine XS.aloadN X3.here hx rfl (hb hby d8_11) rfl rfl ?_
    show SF p e below T3 (mkF m 12 #[rv u1, rv u2, rv u3] [(.ref u2)]) _
    refine XS.ifnullNo X3.here hx rfl (hb hby d8_12) rfl ?_
    show SF p e below T3 (mkF m 15 #[rv u1, rv u2, rv u3] []) _
    refine XS.aloadN X3.here hx rfl (hb hby d8_15) rfl rfl ?_
    show SF p e below T3 (mkF m 16 #[rv u1, rv u2, rv u3] [(.ref u2)]) _
    refine st10.trans ?_
    show SF p e below T10 (mkF m 19 #[rv u1, rv u2, rv u3] [(.int 0)]) _
    refine XS.ifYes X10.here hx rfl (pc0 := 19) (pc' := 32) rfl (hb hby d8_19) rfl ((if0 _ _).trans (teq (by decide : (0 : Int32) = (0 : Int32))).1) (by decide) (by decide) ?_
    show SF p e below T10 (mkF m 32 #[rv u1, rv u2, rv u3] []) _
    refine XS.aloadN X10.here hx rfl (hb hby d8_32) rfl rfl ?_
    show SF p e below T10 (mkF m 33 #[rv u1, rv u2, rv u3] [(.ref u3)]) _
    refine st17.trans ?_
    show SF p e below T17 (mkF m 36 #[rv u1, rv u2, rv u3] [(.int 0)]) _
    refine XS.ifYes X17.here hx rfl (pc0 := 36) (pc' := 49) rfl (hb hby d8_36) rfl ((if0 _ _).trans (teq (by decide : (0 : Int32) = (0 : Int32))).1) (by decide) (by decide) ?_
    show SF p e below T17 (mkF m 49 #[rv u1, rv u2, rv u3] []) _
    refine XS.aloadN X17.here hx rfl (hb hby d8_49) rfl rfl ?_
    refine XS.aloadN X17.here hx rfl (hb hby d8_50) rfl rfl ?_
    show SF p e below T17 (mkF m 51 #[rv u1, rv u2, rv u3] [(.ref u2), (.ref u1)]) _
    refine st21 _ ?_
    show SF p e below T21 (mkF m 54 #[rv u1, rv u2, rv u3] []) _
    refine XS.aloadN X21.here hx rfl (hb hby d8_54) rfl rfl ?_
    refine XS.aloadN X21.here hx rfl (hb hby d8_55) rfl rfl ?_
    show SF p e below T21 (mkF m 56 #[rv u1, rv u2, rv u3] [(.ref u3), (.ref u1)]) _
    refine st24 _ ?_
    show SF p e below T24 (mkF m 59 #[rv u1, rv u2, rv u3] []) _
    exact X24.returnOut hx Bd.returns (hb hby d8_59) hr
  · show Q8_16 Z u1 u2 u3 u4 u5 u6 u7 u8 u9 u10 u11 h0 n0 _ T24.heap _
    rw [e24]
    exact ⟨rfl, N24, K24, F3_25, F3_26, Fw24⟩
theorem ef_7 (m : MethodId) (x0 : Int32) (x1 : Int32) (x2 : Int32) (x3 : Int32) (x4 : Int32) : entryFrame m #[(.int x0), (.int x1), (.int x2), (.int x3), (.int x4)] maxLocals = mkF m 0 #[.val (.int x0), .val (.int x1), .val (.int x2), .val (.int x3), .val (.int x4), .unset, .unset, .unset, .unset, .unset, .unset] [] := by first | (simp [entryFrame, mkF, argsToLocals, Value.category, maxLocals]; done) | rfl
set_option maxRecDepth 65536 in
set_option maxHeartbeats 400000000 in
theorem rm0 (l : Launch) (Z : State) (a0 : Array Value) (hw : HW Z a0) (ws : List Jvm.Cond) (p0s : Int32) (p1s : Int32) (p2s : Int32) (p3s : Int32) (p4s : Int32) (GC : Int32) (GF : Value) (h0 : Heap) (n0 : Nat) (Z0 : n0 ≤ h0.size) (O0 : Old Z n0 h0) (Sg0 : Sta Z Z.heap "java/lang/String" "COMPACT_STRINGS" "Z" (.int GC)) (Sg1 : Sta Z Z.heap "jdk/internal/util/Preconditions" "SIOOBE_FORMATTER" "Ljava/util/function/BiFunction;" GF) (rGF : GF.isRef = true) (nzGC : ¬ (GC = (0 : Int32))) :
    MFW l Z x (Jvm.Cond.code x code maxLocals ret) ws room_1 #[(.int p0s), (.int p1s), (.int p2s), (.int p3s), (.int p4s)] h0 (fun v _ L => v = some (.int (1 : Int32)) ∧ Fr n0 L) := by
  refine MetFree.of_bodySF (plainFor_of_name pn_0) hisR ?_
  intro p e s m args below meth c s₁ Bd hml0 hP hK
  obtain ⟨rfl, hZ, hh⟩ := hP
  have hx := Bd.exec
  have hby := Bd.bytes
  have hml : c.maxLocals = 11 := hml0
  have hown : s.vm.findClass "com/example/qedbox/qedbox/KeywordHasDomainPinLaw" = some m.cls := findClass_of_methodNamed Bd.named
  have hnm := (name_of_methodNamed Bd.named Bd.method).1
  have X0 : Stand p l e room_1 s m #[(.int p0s), (.int p1s), (.int p2s), (.int p3s), (.int p4s)] below meth c s₁ [] 0 0 := Stand.of_body Bd
  have e0 : s₁.heap = h0 := by rw [← hh, Bd.state]; rfl
  have N0 := Fr.nil n0
  have pre0 : ∀ t, SF p e below s₁ (mkF m 0 #[iv p0s, iv p1s, iv p2s, iv p3s, iv p4s, .unset, .unset, .unset, .unset, .unset, .unset] []) t → SF p e below s₁ (entryFrame m #[(.int p0s), (.int p1s), (.int p2s), (.int p3s), (.int p4s)] maxLocals) t := fun t k => castTop (ef_7 m p0s p1s p2s p3s p4s) k
  have hre := Bd.returns
  have hlk : meth.locks = false := by first | assumption | exact BodyLoose.notSynchronized Bd | exact Body.notSynchronized Bd
  show FineW p e below s n0 _
  have pre1 : ∀ t, SF p e below s₁ (mkF m 3 #[iv p0s, iv p1s, iv p2s, iv p3s, iv p4s, .unset, .unset, .unset, .unset, .unset, .unset] [(.int (p0s &&& (1 : Int32)))]) t → SF p e below s₁ (mkF m 0 #[iv p0s, iv p1s, iv p2s, iv p3s, iv p4s, .unset, .unset, .unset, .unset, .unset, .unset] []) t := fun t k => by
    show SF p e below s₁ (mkF m 0 #[iv p0s, iv p1s, iv p2s, iv p3s, iv p4s, .unset, .unset, .unset, .unset, .unset, .unset] []) _
    refine XS.iloadN X0.here hx rfl (hb hby at_0) rfl ?_
    refine XS.iconst X0.here hx rfl (hb hby at_1) ?_
    show SF p e below s₁ (mkF m 2 #[iv p0s, iv p1s, iv p2s, iv p3s, iv p4s, .unset, .unset, .unset, .unset, .unset, .unset] [(.int 1), (.int p0s)]) _
    refine XS.iand X0.here hx rfl (hb hby at_2) rfl ?_
    exact k
  by_cases hc1 : (p0s &&& (1 : Int32)) = (0 : Int32)
  · have pre2 : ∀ t, SF p e below s₁ (mkF m 18 #[iv p0s, iv p1s, iv p2s, iv p3s, iv p4s, iv 0, .unset, .unset, .unset, .unset, .unset] [(.int p2s), (.int p1s), (.int ((p0s.toUInt32 >>> ((1 : Int32) &&& 31).toUInt32).toInt32))]) t → SF p e below s₁ (mkF m 3 #[iv p0s, iv p1s, iv p2s, iv p3s, iv p4s, .unset, .unset, .unset, .unset, .unset, .unset] [(.int (p0s &&& (1 : Int32)))]) t := fun t k => by
      show SF p e below s₁ (mkF m 3 #[iv p0s, iv p1s, iv p2s, iv p3s, iv p4s, .unset, .unset, .unset, .unset, .unset, .unset] [(.int (p0s &&& (1 : Int32)))]) _
      refine XS.ifYes X0.here hx rfl (pc0 := 3) (pc' := 10) rfl (hb hby at_3) rfl ((if0 _ _).trans (teq hc1).1) (by decide) (by decide) ?_
      show SF p e below s₁ (mkF m 10 #[iv p0s, iv p1s, iv p2s, iv p3s, iv p4s, .unset, .unset, .unset, .unset, .unset, .unset] []) _
      refine XS.iconst X0.here hx rfl (hb hby at_10) ?_
      refine XS.istore X0.here hx rfl (hb hby at_11) rfl (l' := #[iv p0s, iv p1s, iv p2s, iv p3s, iv p4s, iv 0, .unset, .unset, .unset, .unset, .unset]) rfl ?_
      show SF p e below s₁ (mkF m 13 #[iv p0s, iv p1s, iv p2s, iv p3s, iv p4s, iv 0, .unset, .unset, .unset, .unset, .unset] []) _
      refine XS.iloadN X0.here hx rfl (hb hby at_13) rfl ?_
      refine XS.iconst X0.here hx rfl (hb hby at_14) ?_
      show SF p e below s₁ (mkF m 15 #[iv p0s, iv p1s, iv p2s, iv p3s, iv p4s, iv 0, .unset, .unset, .unset, .unset, .unset] [(.int 1), (.int p0s)]) _
      refine XS.iushr X0.here hx rfl (hb hby at_15) rfl ?_
      show SF p e below s₁ (mkF m 16 #[iv p0s, iv p1s, iv p2s, iv p3s, iv p4s, iv 0, .unset, .unset, .unset, .unset, .unset] [(.int ((p0s.toUInt32 >>> ((1 : Int32) &&& 31).toUInt32).toInt32))]) _
      refine XS.iloadN X0.here hx rfl (hb hby at_16) rfl ?_
      refine XS.iloadN X0.here hx rfl (hb hby at_17) rfl ?_
      exact k
    by_cases hc2 : (((p0s.toUInt32 >>> ((1 : Int32) &&& 31).toUInt32).toInt32) &&& (1 : Int32)) = (0 : Int32)
    · obtain ⟨_, _, ⟨T1, L1, k1x, n1⟩, -, X1, ⟨Lc1, hQ1, l1, y1, z1⟩, st1⟩ := Jvm.LawKit.callS X0 hx (y := (⟨"com/example/qedbox/qedbox/KeywordHasDomainPinLaw", "draw", "(III)Ljava/lang/String;"⟩ : MethodName)) hown (mvT hZ (tw hw 0 rfl)) (mvT hZ (tw hw 1 rfl)) (mvT hZ (tw hw 2 rfl)) (mvT hZ (tw hw 3 rfl)) (by decide) (backOf (W := 0) (rm1_1 l Z a0 hw [] p0s p1s p2s GC h0 n0 Z0 hc2 Sg0 O0 nzGC) hZ (tw hw 3 rfl) (tw hw 2 rfl) (by decide) (by decide)) (g := (mkF m 18 #[iv p0s, iv p1s, iv p2s, iv p3s, iv p4s, iv 0, .unset, .unset, .unset, .unset, .unset] [(.int p2s), (.int p1s), (.int ((p0s.toUInt32 >>> ((1 : Int32) &&& 31).toUInt32).toInt32))])) rfl (by rw [hml]; rfl) (argsL := [(.int ((p0s.toUInt32 >>> ((1 : Int32) &&& 31).toUInt32).toInt32)), (.int p1s), (.int p2s)]) (rest := []) (lenOf pd_1 rfl) rfl (by show 2 * 0 + _ ≤ _; exact Nat.le_of_eq rfl) (hb hby at_18) (fun _ _ => ⟨rfl, e0, (by decide : 0 + 3 ≤ _), (by decide : 0 + 6 ≤ _)⟩)
      dsimp only [Pt.U, Pt.locs, Pt.cells, Pt.slots] at X1 l1 y1 z1 st1 hQ1
      subst l1 y1 z1
      obtain ⟨b6, b7, k8, bz_b6, bz_b7, bn1_0, rfl, N1q, K1c, Fq1_0, Fq1_1, Fq1_2, Fq1_3⟩ := hQ1
      have N1 := Fr.app N0 N1q
      have pre3 : ∀ t, SF p e below T1 (mkF m 29 #[iv p0s, iv p1s, iv p2s, iv p3s, iv p4s, iv 0, rv b6, .unset, .unset, .unset, .unset] [(.int p4s), (.int p3s), (.int ((p0s.toUInt32 >>> ((2 : Int32) &&& 31).toUInt32).toInt32))]) t → SF p e below s₁ (mkF m 18 #[iv p0s, iv p1s, iv p2s, iv p3s, iv p4s, iv 0, .unset, .unset, .unset, .unset, .unset] [(.int p2s), (.int p1s), (.int ((p0s.toUInt32 >>> ((1 : Int32) &&& 31).toUInt32).toInt32))]) t := fun t k => by
        show SF p e below s₁ (mkF m 18 #[iv p0s, iv p1s, iv p2s, iv p3s, iv p4s, iv 0, .unset, .unset, .unset, .unset, .unset] [(.int p2s), (.int p1s), (.int ((p0s.toUInt32 >>> ((1 : Int32) &&& 31).toUInt32).toInt32))]) _
        refine st1 _ ?_
        show SF p e below T1 (mkF m 21 #[iv p0s, iv p1s, iv p2s, iv p3s, iv p4s, iv 0, .unset, .unset, .unset, .unset, .unset] [(.ref b6)]) _
        refine XS.astore X1.here hx rfl (hb hby at_21) rfl rfl (l' := #[iv p0s, iv p1s, iv p2s, iv p3s, iv p4s, iv 0, rv b6, .unset, .unset, .unset, .unset]) rfl ?_
        refine XS.iloadN X1.here hx rfl (hb hby at_23) rfl ?_
        show SF p e below T1 (mkF m 24 #[iv p0s, iv p1s, iv p2s, iv p3s, iv p4s, iv 0, rv b6, .unset, .unset, .unset, .unset] [(.int p0s)]) _
        refine XS.iconst X1.here hx rfl (hb hby at_24) ?_
        show SF p e below T1 (mkF m 25 #[iv p0s, iv p1s, iv p2s, iv p3s, iv p4s, iv 0, rv b6, .unset, .unset, .unset, .unset] [(.int 2), (.int p0s)]) _
        refine XS.iushr X1.here hx rfl (hb hby at_25) rfl ?_
        show SF p e below T1 (mkF m 26 #[iv p0s, iv p1s, iv p2s, iv p3s, iv p4s, iv 0, rv b6, .unset, .unset, .unset, .unset] [(.int ((p0s.toUInt32 >>> ((2 : Int32) &&& 31).toUInt32).toInt32))]) _
        refine XS.iloadN X1.here hx rfl (hb hby at_26) rfl ?_
        refine XS.iload X1.here hx rfl (hb hby at_27) rfl ?_
        exact k
      by_cases hc3 : (((p0s.toUInt32 >>> ((2 : Int32) &&& 31).toUInt32).toInt32) &&& (1 : Int32)) = (0 : Int32)
      · have O1 : Old Z n0 T1.heap := O0.keep K1c all0
        have Z1 : n0 ≤ T1.heap.size := Nat.le_trans Z0 K1c.1
        obtain ⟨_, _, ⟨T2, L2, k2x, n2⟩, -, X2, ⟨Lc2, hQ2, l2, y2, z2⟩, st2⟩ := Jvm.LawKit.callS X1 hx (y := (⟨"com/example/qedbox/qedbox/KeywordHasDomainPinLaw", "draw", "(III)Ljava/lang/String;"⟩ : MethodName)) hown (mvT hZ (tw hw 0 rfl)) (mvT hZ (tw hw 1 rfl)) (mvT hZ (tw hw 2 rfl)) (mvT hZ (tw hw 3 rfl)) (by decide) (backOf (W := 0) (rm1_2 l Z a0 hw [] p0s p3s p4s GC T1.heap n0 Z1 hc3 Sg0 O1 nzGC) hZ (tw hw 3 rfl) (tw hw 2 rfl) (by decide) (by decide)) (g := (mkF m 29 #[iv p0s, iv p1s, iv p2s, iv p3s, iv p4s, iv 0, rv b6, .unset, .unset, .unset, .unset] [(.int p4s), (.int p3s), (.int ((p0s.toUInt32 >>> ((2 : Int32) &&& 31).toUInt32).toInt32))])) rfl (by rw [hml]; rfl) (argsL := [(.int ((p0s.toUInt32 >>> ((2 : Int32) &&& 31).toUInt32).toInt32)), (.int p3s), (.int p4s)]) (rest := []) (lenOf pd_1 rfl) rfl (by show 2 * 0 + _ ≤ _; exact Nat.le_of_eq rfl) (hb hby at_29) (fun _ _ => ⟨rfl, rfl, (by decide : 3 + 3 ≤ _), (by decide : 6 + 6 ≤ _)⟩)
        dsimp only [Pt.U, Pt.locs, Pt.cells, Pt.slots] at X2 l2 y2 z2 st2 hQ2
        subst l2 y2 z2
        obtain ⟨b14, b15, k16, bz_b14, bz_b15, bn2_0, rfl, N2q, K2c, Fq2_0, Fq2_1, Fq2_2, Fq2_3⟩ := hQ2
        have N2 := Fr.app N1 N2q
        obtain ⟨T3, h3, X3, e3, E3, A3, D3, -, st3⟩ := newO X2 hx hZ hown (tw hw 34 rfl) (tw hw 35 rfl) (tw hw 36 rfl) rfl (g := (mkF m 46 #[iv p0s, iv p1s, iv p2s, iv p3s, iv p4s, iv 0, rv b6, rv b14, .val .null, .unset, .unset] [])) rfl (hb hby at_46) (by decide) (by decide)
        obtain ⟨b17, g3⟩ : ∃ z, z = T2.heap.size := ⟨_, rfl⟩
        rw [← g3] at A3 D3 st3
        have Fn4 : Fld Z h3 b17 "com/example/qedbox/qedbox/Keyword" "domain" "Ljava/lang/String;" .null := D3 (Or.inr (tw hw 59 rfl)) (ty := (.object "java/lang/String")) (by decide)
        have Fn5 : Fld Z h3 b17 "com/example/qedbox/qedbox/Keyword" "value" "Ljava/lang/String;" .null := D3 (Or.inr (tw hw 61 rfl)) (ty := (.object "java/lang/String")) (by decide)
        have F3_7 : Exa Z h3 b14 "java/lang/String" := Fq2_0.ext E3
        have F3_8 : Fld Z h3 b14 "java/lang/String" "value" "[B" (.ref b15) := Fq2_2.ext E3
        have F3_9 : Fld Z h3 b14 "java/lang/String" "coder" "B" (.int 0) := Fq2_1.ext E3
        have F3_10 : Arv Z h3 b15 k16 .byte (1 : Int32) (((([(nar .char ((p3s &&& (255 : Int32)).toUInt32.toUInt16.toUInt32.toInt32))] : List Int32)).map (fun c => c.toInt8.toInt32)).map Value.int) (.int (0 : Int32)) := Fq2_3.ext E3
        have Z2 : n0 ≤ T2.heap.size := Nat.le_trans Z1 K2c.1
        have g_b17 : n0 ≤ b17 := Nat.le_trans Z2 (Nat.le_of_eq g3.symm)
        have Z3 : n0 ≤ h3.size := Nat.le_trans Z2 E3.1
        obtain ⟨_, _, ⟨T6, L6, k6x, n6⟩, -, X6, hS6, hgr6, ⟨Lc6, hQ6, l6, y6, z6⟩, st6⟩ := X3.specialBackS hx (y := (⟨"com/example/qedbox/qedbox/Keyword", "<init>", "(Ljava/lang/String;Ljava/lang/String;)V"⟩ : MethodName)) rfl hown (mvT hZ (tw hw 37 rfl)) (mvT hZ (tw hw 38 rfl)) (mvT hZ (tw hw 39 rfl)) (by decide) (backOfS (W := 1) (rm8_5 l Z a0 hw [] b17 b14 b15 k16 p3s h3 n0 Z3 F3_7 F3_8 F3_9 F3_10 A3 Fn4 Fn5 g_b17) hZ (tw hw 39 rfl) (tw hw 36 rfl) (by decide) (by decide)) (g := (mkF m 54 #[iv p0s, iv p1s, iv p2s, iv p3s, iv p4s, iv 0, rv b6, rv b14, .val .null, .unset, .unset] [(.ref b14), .null, (.ref b17), (.ref b17)])) rfl (by rw [hml]; rfl) (Steps.refl _) (a := b17) (argsL := [.null, (.ref b14)]) (rest := [(.ref b17)]) (lenOf pd_5 rfl) rfl (by show 2 * 0 + _ ≤ _; exact Nat.le_of_eq rfl) (hb hby at_54) (fun _ _ => ⟨rfl, e3, (by decide : 7 + 2 ≤ _), (by decide : 14 + 24 ≤ _)⟩)
        dsimp only [Pt.U, Pt.locs, Pt.cells, Pt.slots] at X6 l6 y6 z6 st6 hQ6 hS6 hgr6
        subst l6 y6 z6
        have hZ6 : Z.Warmed39 (s.setVm T6.vm).vm := State.Warmed39.trans hZ hS6.1
        have hown6 : (s.setVm T6.vm).vm.findClass "com/example/qedbox/qedbox/KeywordHasDomainPinLaw" = some m.cls := (hS6.1.alike.findClass _ _).trans hown
        obtain ⟨rfl, N6q, K6c, Fq6_0, Fq6_1, Fq6_2⟩ := hQ6
        have N6 := Fr.app N2 N6q
        have hk6 : T6.heap.size ≤ T6.heap.size := Nat.le_refl _
        have Z6 : n0 ≤ T6.heap.size := Nat.le_trans Z3 K6c.1
        obtain ⟨cq11, kq11, q11a, q11b, q11c⟩ := isOf hZ6 rfl Fq6_0
        obtain ⟨_, _, ⟨T11, L11, k11x, n11⟩, -, X11, ⟨Lc11, hQ11, l11, y11, z11⟩, st11⟩ := X6.virtualBack hx (y := (⟨"com/example/qedbox/qedbox/Keyword", "hasDomain", "()Z"⟩ : MethodName)) (z := (⟨"com/example/qedbox/qedbox/Keyword", "hasDomain", "()Z"⟩ : MethodName)) hown6 (mvT hZ6 (tw hw 62 rfl)) (mvT hZ6 (tw hw 63 rfl)) (notFace_of_selects (args := #[]) (mvT hZ6 (tw hw 65 rfl))) (mvT hZ6 (tw hw 65 rfl)) (mvT hZ6 (tw hw 64 rfl)) (by decide) (backOf (W := 0) (rm12_6 l Z a0 hw [] b17 T6.heap n0 Z6 Fq6_1) hZ6 (tw hw 66 rfl) (tw hw 36 rfl) (by decide) (by decide)) q11a q11c (g := (mkF m 61 #[iv p0s, iv p1s, iv p2s, iv p3s, iv p4s, iv 0, rv b6, rv b14, .val .null, rv b17, .unset] [(.ref b17)])) rfl (by rw [hml]; rfl) (Steps.refl _) (argsL := []) (rest := []) (lenOf pd_4 rfl) rfl (by show 2 * 0 + _ ≤ _; exact Nat.le_of_eq rfl) (hb hby at_61) (fun _ _ => ⟨rfl, rfl, (by decide : 9 + 0 ≤ _), (by decide : 38 + 0 ≤ _)⟩)
        dsimp only [Pt.U, Pt.locs, Pt.cells, Pt.slots] at X11 l11 y11 z11 st11 hQ11
        subst l11 y11 z11
        obtain ⟨rfl, N11q, e11⟩ := hQ11
        have N11 := Fr.app N6 N11q
        obtain ⟨cq12, kq12, q12a, q12b, q12c⟩ := isOf hZ6 e11 Fq6_0
        obtain ⟨_, _, ⟨T12, L12, k12x, n12⟩, -, X12, ⟨Lc12, hQ12, l12, y12, z12⟩, st12⟩ := X11.virtualBack hx (y := (⟨"com/example/qedbox/qedbox/Keyword", "domain", "()Ljava/lang/String;"⟩ : MethodName)) (z := (⟨"com/example/qedbox/qedbox/Keyword", "domain", "()Ljava/lang/String;"⟩ : MethodName)) hown6 (mvT hZ6 (tw hw 67 rfl)) (mvT hZ6 (tw hw 68 rfl)) (notFace_of_selects (args := #[]) (mvT hZ6 (tw hw 70 rfl))) (mvT hZ6 (tw hw 70 rfl)) (mvT hZ6 (tw hw 69 rfl)) (by decide) (backOf (W := 1) (rm13_7 l Z a0 hw [] b17 T6.heap n0 Z6 Fq6_1) hZ6 (tw hw 71 rfl) (tw hw 36 rfl) (by decide) (by decide)) q12a q12c (g := (mkF m 77 #[iv p0s, iv p1s, iv p2s, iv p3s, iv p4s, iv 0, rv b6, rv b14, .val .null, rv b17, iv 0] [(.ref b17), (.int 0)])) rfl (by rw [hml]; rfl) (Steps.refl _) (argsL := []) (rest := [(.int 0)]) (lenOf pd_6 rfl) rfl (by show 2 * 0 + _ ≤ _; exact Nat.le_of_eq rfl) (hb hby at_77) (fun _ _ => ⟨rfl, e11, (by decide : 9 + 0 ≤ _), (by decide : 38 + 0 ≤ _)⟩)
        dsimp only [Pt.U, Pt.locs, Pt.cells, Pt.slots] at X12 l12 y12 z12 st12 hQ12
        subst l12 y12 z12
        obtain ⟨rfl, N12q, e12⟩ := hQ12
        have N12 := Fr.app N11 N12q
        obtain ⟨fs, hr, hrun, hended, hRW⟩ := X12.leaveW hS6 (by rw [e12]; exact hk6) (v := some (.int (1 : Int32))) (fun h => by rw [hre] at h; cases h)
        refine ⟨_, _, pre0 _ (pre1 _ (pre2 _ (pre3 _ (?_)))), hrun, hended, _, _, rfl, ?_, hRW.1, hRW.2.1, hRW.2.2.1, hRW.2.2.2.mono (by decide) (by decide)⟩
        · show SF p e below T1 (mkF m 29 #[iv p0s, iv p1s, iv p2s, iv p3s, iv p4s, iv 0, rv b6, .unset, .unset, .unset, .unset] [(.int p4s), (.int p3s), (.int ((p0s.toUInt32 >>> ((2 : Int32) &&& 31).toUInt32).toInt32))]) _
          refine st2 _ ?_
          show SF p e below T2 (mkF m 32 #[iv p0s, iv p1s, iv p2s, iv p3s, iv p4s, iv 0, rv b6, .unset, .unset, .unset, .unset] [(.ref b14)]) _
          refine XS.astore X2.here hx rfl (hb hby at_32) rfl rfl (l' := #[iv p0s, iv p1s, iv p2s, iv p3s, iv p4s, iv 0, rv b6, rv b14, .unset, .unset, .unset]) rfl ?_
          refine XS.aconstNull X2.here hx rfl (hb hby at_34) ?_
          show SF p e below T2 (mkF m 35 #[iv p0s, iv p1s, iv p2s, iv p3s, iv p4s, iv 0, rv b6, rv b14, .unset, .unset, .unset] [.null]) _
          refine XS.astore X2.here hx rfl (hb hby at_35) rfl rfl (l' := #[iv p0s, iv p1s, iv p2s, iv p3s, iv p4s, iv 0, rv b6, rv b14, .val .null, .unset, .unset]) rfl ?_
          refine XS.iload X2.here hx rfl (hb hby at_37) rfl ?_
          show SF p e below T2 (mkF m 39 #[iv p0s, iv p1s, iv p2s, iv p3s, iv p4s, iv 0, rv b6, rv b14, .val .null, .unset, .unset] [(.int 0)]) _
          refine XS.ifYes X2.here hx rfl (pc0 := 39) (pc' := 46) rfl (hb hby at_39) rfl ((if0 _ _).trans (teq (by decide : (0 : Int32) = (0 : Int32))).1) (by decide) (by decide) ?_
          show SF p e below T2 (mkF m 46 #[iv p0s, iv p1s, iv p2s, iv p3s, iv p4s, iv 0, rv b6, rv b14, .val .null, .unset, .unset] []) _
          refine st3 _ ?_
          show SF p e below T3 (mkF m 49 #[iv p0s, iv p1s, iv p2s, iv p3s, iv p4s, iv 0, rv b6, rv b14, .val .null, .unset, .unset] [(.ref b17)]) _
          refine XS.dup X3.here hx rfl (hb hby at_49) rfl rfl ?_
          refine XS.aload X3.here hx rfl (hb hby at_50) rfl rfl ?_
          show SF p e below T3 (mkF m 52 #[iv p0s, iv p1s, iv p2s, iv p3s, iv p4s, iv 0, rv b6, rv b14, .val .null, .unset, .unset] [.null, (.ref b17), (.ref b17)]) _
          refine XS.aload X3.here hx rfl (hb hby at_52) rfl rfl ?_
          show SF p e below T3 (mkF m 54 #[iv p0s, iv p1s, iv p2s, iv p3s, iv p4s, iv 0, rv b6, rv b14, .val .null, .unset, .unset] [(.ref b14), .null, (.ref b17), (.ref b17)]) _
          refine st6.trans ?_
          show SF p e below T6 (mkF m 57 #[iv p0s, iv p1s, iv p2s, iv p3s, iv p4s, iv 0, rv b6, rv b14, .val .null, .unset, .unset] [(.ref b17)]) _
          refine XS.astore X6.here hx rfl (hb hby at_57) rfl rfl (l' := #[iv p0s, iv p1s, iv p2s, iv p3s, iv p4s, iv 0, rv b6, rv b14, .val .null, rv b17, .unset]) rfl ?_
          refine XS.aload X6.here hx rfl (hb hby at_59) rfl rfl ?_
          show SF p e below T6 (mkF m 61 #[iv p0s, iv p1s, iv p2s, iv p3s, iv p4s, iv 0, rv b6, rv b14, .val .null, rv b17, .unset] [(.ref b17)]) _
          refine st11.trans ?_
          show SF p e below T11 (mkF m 64 #[iv p0s, iv p1s, iv p2s, iv p3s, iv p4s, iv 0, rv b6, rv b14, .val .null, rv b17, .unset] [(.int 0)]) _
          refine XS.istore X11.here hx rfl (hb hby at_64) rfl (l' := #[iv p0s, iv p1s, iv p2s, iv p3s, iv p4s, iv 0, rv b6, rv b14, .val .null, rv b17, iv 0]) rfl ?_
          refine XS.iload X11.here hx rfl (hb hby at_66) rfl ?_
          show SF p e below T11 (mkF m 68 #[iv p0s, iv p1s, iv p2s, iv p3s, iv p4s, iv 0, rv b6, rv b14, .val .null, rv b17, iv 0] [(.int 0)]) _
          refine XS.iload X11.here hx rfl (hb hby at_68) rfl ?_
          show SF p e below T11 (mkF m 70 #[iv p0s, iv p1s, iv p2s, iv p3s, iv p4s, iv 0, rv b6, rv b14, .val .null, rv b17, iv 0] [(.int 0), (.int 0)]) _
          refine XS.icmpNo X11.here hx rfl (hb hby at_70) rfl (teq (by decide : (0 : Int32) = (0 : Int32))).2 ?_
          show SF p e below T11 (mkF m 73 #[iv p0s, iv p1s, iv p2s, iv p3s, iv p4s, iv 0, rv b6, rv b14, .val .null, rv b17, iv 0] []) _
          refine XS.iload X11.here hx rfl (hb hby at_73) rfl ?_
          refine XS.aload X11.here hx rfl (hb hby at_75) rfl rfl ?_
          show SF p e below T11 (mkF m 77 #[iv p0s, iv p1s, iv p2s, iv p3s, iv p4s, iv 0, rv b6, rv b14, .val .null, rv b17, iv 0] [(.ref b17), (.int 0)]) _
          refine st12.trans ?_
          show SF p e below T12 (mkF m 80 #[iv p0s, iv p1s, iv p2s, iv p3s, iv p4s, iv 0, rv b6, rv b14, .val .null, rv b17, iv 0] [.null, (.int 0)]) _
          refine XS.ifnullYes X12.here hx rfl (pc0 := 80) (pc' := 87) rfl (hb hby at_80) rfl (by decide) (by decide) ?_
          show SF p e below T12 (mkF m 87 #[iv p0s, iv p1s, iv p2s, iv p3s, iv p4s, iv 0, rv b6, rv b14, .val .null, rv b17, iv 0] [(.int 0)]) _
          refine XS.iconst X12.here hx rfl (hb hby at_87) ?_
          show SF p e below T12 (mkF m 88 #[iv p0s, iv p1s, iv p2s, iv p3s, iv p4s, iv 0, rv b6, rv b14, .val .null, rv b17, iv 0] [(.int 0), (.int 0)]) _
          refine XS.icmpNo X12.here hx rfl (hb hby at_88) rfl (teq (by decide : (0 : Int32) = (0 : Int32))).2 ?_
          show SF p e below T12 (mkF m 91 #[iv p0s, iv p1s, iv p2s, iv p3s, iv p4s, iv 0, rv b6, rv b14, .val .null, rv b17, iv 0] []) _
          refine XS.iconst X12.here hx rfl (hb hby at_91) ?_
          refine XS.goto X12.here hx rfl (pc0 := 92) (pc' := 96) rfl (hb hby at_92) (by decide) (by decide) ?_
          show SF p e below T12 (mkF m 96 #[iv p0s, iv p1s, iv p2s, iv p3s, iv p4s, iv 0, rv b6, rv b14, .val .null, rv b17, iv 0] [(.int 1)]) _
          exact retN X12 hx (t := .boolean) hre (by simp) (hb hby at_96) hr
        · exact ⟨rfl, N12⟩
      · have O1 : Old Z n0 T1.heap := O0.keep K1c all0
        have Z1 : n0 ≤ T1.heap.size := Nat.le_trans Z0 K1c.1
        obtain ⟨_, _, ⟨T2, L2, k2x, n2⟩, -, X2, ⟨Lc2, hQ2, l2, y2, z2⟩, st2⟩ := Jvm.LawKit.callS X1 hx (y := (⟨"com/example/qedbox/qedbox/KeywordHasDomainPinLaw", "draw", "(III)Ljava/lang/String;"⟩ : MethodName)) hown (mvT hZ (tw hw 0 rfl)) (mvT hZ (tw hw 1 rfl)) (mvT hZ (tw hw 2 rfl)) (mvT hZ (tw hw 3 rfl)) (by decide) (backOf (W := 0) (rm1_8 l Z a0 hw [] p0s p3s p4s GC T1.heap n0 Z1 hc3 Sg0 O1 nzGC) hZ (tw hw 3 rfl) (tw hw 2 rfl) (by decide) (by decide)) (g := (mkF m 29 #[iv p0s, iv p1s, iv p2s, iv p3s, iv p4s, iv 0, rv b6, .unset, .unset, .unset, .unset] [(.int p4s), (.int p3s), (.int ((p0s.toUInt32 >>> ((2 : Int32) &&& 31).toUInt32).toInt32))])) rfl (by rw [hml]; rfl) (argsL := [(.int ((p0s.toUInt32 >>> ((2 : Int32) &&& 31).toUInt32).toInt32)), (.int p3s), (.int p4s)]) (rest := []) (lenOf pd_1 rfl) rfl (by show 2 * 0 + _ ≤ _; exact Nat.le_of_eq rfl) (hb hby at_29) (fun _ _ => ⟨rfl, rfl, (by decide : 3 + 3 ≤ _), (by decide : 6 + 8 ≤ _)⟩)
        dsimp only [Pt.U, Pt.locs, Pt.cells, Pt.slots] at X2 l2 y2 z2 st2 hQ2
        subst l2 y2 z2
        obtain ⟨b14, b15, k16, bz_b14, bz_b15, bn2_0, rfl, N2q, K2c, Fq2_0, Fq2_1, Fq2_2, Fq2_3⟩ := hQ2
        have N2 := Fr.app N1 N2q
        obtain ⟨T3, h3, X3, e3, E3, A3, D3, -, st3⟩ := newO X2 hx hZ hown (tw hw 34 rfl) (tw hw 35 rfl) (tw hw 36 rfl) rfl (g := (mkF m 46 #[iv p0s, iv p1s, iv p2s, iv p3s, iv p4s, iv 0, rv b6, rv b14, .val .null, .unset, .unset] [])) rfl (hb hby at_46) (by decide) (by decide)
        obtain ⟨b17, g3⟩ : ∃ z, z = T2.heap.size := ⟨_, rfl⟩
        rw [← g3] at A3 D3 st3
        have Fn4 : Fld Z h3 b17 "com/example/qedbox/qedbox/Keyword" "domain" "Ljava/lang/String;" .null := D3 (Or.inr (tw hw 59 rfl)) (ty := (.object "java/lang/String")) (by decide)
        have Fn5 : Fld Z h3 b17 "com/example/qedbox/qedbox/Keyword" "value" "Ljava/lang/String;" .null := D3 (Or.inr (tw hw 61 rfl)) (ty := (.object "java/lang/String")) (by decide)
        have F3_7 : Exa Z h3 b14 "java/lang/String" := Fq2_0.ext E3
        have F3_8 : Fld Z h3 b14 "java/lang/String" "value" "[B" (.ref b15) := Fq2_2.ext E3
        have F3_9 : Fld Z h3 b14 "java/lang/String" "coder" "B" (.int 0) := Fq2_1.ext E3
        have F3_10 : Arv Z h3 b15 k16 .byte (2 : Int32) (((([(nar .char ((p3s &&& (255 : Int32)).toUInt32.toUInt16.toUInt32.toInt32)), (nar .char ((p4s &&& (255 : Int32)).toUInt32.toUInt16.toUInt32.toInt32))] : List Int32)).map (fun c => c.toInt8.toInt32)).map Value.int) (.int (0 : Int32)) := Fq2_3.ext E3
        have Z2 : n0 ≤ T2.heap.size := Nat.le_trans Z1 K2c.1
        have g_b17 : n0 ≤ b17 := Nat.le_trans Z2 (Nat.le_of_eq g3.symm)
        have Z3 : n0 ≤ h3.size := Nat.le_trans Z2 E3.1
        obtain ⟨_, _, ⟨T6, L6, k6x, n6⟩, -, X6, hS6, hgr6, ⟨Lc6, hQ6, l6, y6, z6⟩, st6⟩ := X3.specialBackS hx (y := (⟨"com/example/qedbox/qedbox/Keyword", "<init>", "(Ljava/lang/String;Ljava/lang/String;)V"⟩ : MethodName)) rfl hown (mvT hZ (tw hw 37 rfl)) (mvT hZ (tw hw 38 rfl)) (mvT hZ (tw hw 39 rfl)) (by decide) (backOfS (W := 1) (rm8_9 l Z a0 hw [] b17 b14 b15 k16 p3s p4s h3 n0 Z3 F3_7 F3_8 F3_9 F3_10 A3 Fn4 Fn5 g_b17) hZ (tw hw 39 rfl) (tw hw 36 rfl) (by decide) (by decide)) (g := (mkF m 54 #[iv p0s, iv p1s, iv p2s, iv p3s, iv p4s, iv 0, rv b6, rv b14, .val .null, .unset, .unset] [(.ref b14), .null, (.ref b17), (.ref b17)])) rfl (by rw [hml]; rfl) (Steps.refl _) (a := b17) (argsL := [.null, (.ref b14)]) (rest := [(.ref b17)]) (lenOf pd_5 rfl) rfl (by show 2 * 0 + _ ≤ _; exact Nat.le_of_eq rfl) (hb hby at_54) (fun _ _ => ⟨rfl, e3, (by decide : 7 + 2 ≤ _), (by decide : 16 + 24 ≤ _)⟩)
        dsimp only [Pt.U, Pt.locs, Pt.cells, Pt.slots] at X6 l6 y6 z6 st6 hQ6 hS6 hgr6
        subst l6 y6 z6
        have hZ6 : Z.Warmed39 (s.setVm T6.vm).vm := State.Warmed39.trans hZ hS6.1
        have hown6 : (s.setVm T6.vm).vm.findClass "com/example/qedbox/qedbox/KeywordHasDomainPinLaw" = some m.cls := (hS6.1.alike.findClass _ _).trans hown
        obtain ⟨rfl, N6q, K6c, Fq6_0, Fq6_1, Fq6_2⟩ := hQ6
        have N6 := Fr.app N2 N6q
        have hk6 : T6.heap.size ≤ T6.heap.size := Nat.le_refl _
        have Z6 : n0 ≤ T6.heap.size := Nat.le_trans Z3 K6c.1
        obtain ⟨cq11, kq11, q11a, q11b, q11c⟩ := isOf hZ6 rfl Fq6_0
        obtain ⟨_, _, ⟨T11, L11, k11x, n11⟩, -, X11, ⟨Lc11, hQ11, l11, y11, z11⟩, st11⟩ := X6.virtualBack hx (y := (⟨"com/example/qedbox/qedbox/Keyword", "hasDomain", "()Z"⟩ : MethodName)) (z := (⟨"com/example/qedbox/qedbox/Keyword", "hasDomain", "()Z"⟩ : MethodName)) hown6 (mvT hZ6 (tw hw 62 rfl)) (mvT hZ6 (tw hw 63 rfl)) (notFace_of_selects (args := #[]) (mvT hZ6 (tw hw 65 rfl))) (mvT hZ6 (tw hw 65 rfl)) (mvT hZ6 (tw hw 64 rfl)) (by decide) (backOf (W := 0) (rm12_6 l Z a0 hw [] b17 T6.heap n0 Z6 Fq6_1) hZ6 (tw hw 66 rfl) (tw hw 36 rfl) (by decide) (by decide)) q11a q11c (g := (mkF m 61 #[iv p0s, iv p1s, iv p2s, iv p3s, iv p4s, iv 0, rv b6, rv b14, .val .null, rv b17, .unset] [(.ref b17)])) rfl (by rw [hml]; rfl) (Steps.refl _) (argsL := []) (rest := []) (lenOf pd_4 rfl) rfl (by show 2 * 0 + _ ≤ _; exact Nat.le_of_eq rfl) (hb hby at_61) (fun _ _ => ⟨rfl, rfl, (by decide : 9 + 0 ≤ _), (by decide : 40 + 0 ≤ _)⟩)
        dsimp only [Pt.U, Pt.locs, Pt.cells, Pt.slots] at X11 l11 y11 z11 st11 hQ11
        subst l11 y11 z11
        obtain ⟨rfl, N11q, e11⟩ := hQ11
        have N11 := Fr.app N6 N11q
        obtain ⟨cq12, kq12, q12a, q12b, q12c⟩ := isOf hZ6 e11 Fq6_0
        obtain ⟨_, _, ⟨T12, L12, k12x, n12⟩, -, X12, ⟨Lc12, hQ12, l12, y12, z12⟩, st12⟩ := X11.virtualBack hx (y := (⟨"com/example/qedbox/qedbox/Keyword", "domain", "()Ljava/lang/String;"⟩ : MethodName)) (z := (⟨"com/example/qedbox/qedbox/Keyword", "domain", "()Ljava/lang/String;"⟩ : MethodName)) hown6 (mvT hZ6 (tw hw 67 rfl)) (mvT hZ6 (tw hw 68 rfl)) (notFace_of_selects (args := #[]) (mvT hZ6 (tw hw 70 rfl))) (mvT hZ6 (tw hw 70 rfl)) (mvT hZ6 (tw hw 69 rfl)) (by decide) (backOf (W := 1) (rm13_7 l Z a0 hw [] b17 T6.heap n0 Z6 Fq6_1) hZ6 (tw hw 71 rfl) (tw hw 36 rfl) (by decide) (by decide)) q12a q12c (g := (mkF m 77 #[iv p0s, iv p1s, iv p2s, iv p3s, iv p4s, iv 0, rv b6, rv b14, .val .null, rv b17, iv 0] [(.ref b17), (.int 0)])) rfl (by rw [hml]; rfl) (Steps.refl _) (argsL := []) (rest := [(.int 0)]) (lenOf pd_6 rfl) rfl (by show 2 * 0 + _ ≤ _; exact Nat.le_of_eq rfl) (hb hby at_77) (fun _ _ => ⟨rfl, e11, (by decide : 9 + 0 ≤ _), (by decide : 40 + 0 ≤ _)⟩)
        dsimp only [Pt.U, Pt.locs, Pt.cells, Pt.slots] at X12 l12 y12 z12 st12 hQ12
        subst l12 y12 z12
        obtain ⟨rfl, N12q, e12⟩ := hQ12
        have N12 := Fr.app N11 N12q
        obtain ⟨fs, hr, hrun, hended, hRW⟩ := X12.leaveW hS6 (by rw [e12]; exact hk6) (v := some (.int (1 : Int32))) (fun h => by rw [hre] at h; cases h)
        refine ⟨_, _, pre0 _ (pre1 _ (pre2 _ (pre3 _ (?_)))), hrun, hended, _, _, rfl, ?_, hRW.1, hRW.2.1, hRW.2.2.1, hRW.2.2.2.mono (by decide) (by decide)⟩
        · show SF p e below T1 (mkF m 29 #[iv p0s, iv p1s, iv p2s, iv p3s, iv p4s, iv 0, rv b6, .unset, .unset, .unset, .unset] [(.int p4s), (.int p3s), (.int ((p0s.toUInt32 >>> ((2 : Int32) &&& 31).toUInt32).toInt32))]) _
          refine st2 _ ?_
          show SF p e below T2 (mkF m 32 #[iv p0s, iv p1s, iv p2s, iv p3s, iv p4s, iv 0, rv b6, .unset, .unset, .unset, .unset] [(.ref b14)]) _
          refine XS.astore X2.here hx rfl (hb hby at_32) rfl rfl (l' := #[iv p0s, iv p1s, iv p2s, iv p3s, iv p4s, iv 0, rv b6, rv b14, .unset, .unset, .unset]) rfl ?_
          refine XS.aconstNull X2.here hx rfl (hb hby at_34) ?_
          show SF p e below T2 (mkF m 35 #[iv p0s, iv p1s, iv p2s, iv p3s, iv p4s, iv 0, rv b6, rv b14, .unset, .unset, .unset] [.null]) _
          refine XS.astore X2.here hx rfl (hb hby at_35) rfl rfl (l' := #[iv p0s, iv p1s, iv p2s, iv p3s, iv p4s, iv 0, rv b6, rv b14, .val .null, .unset, .unset]) rfl ?_
          refine XS.iload X2.here hx rfl (hb hby at_37) rfl ?_
          show SF p e below T2 (mkF m 39 #[iv p0s, iv p1s, iv p2s, iv p3s, iv p4s, iv 0, rv b6, rv b14, .val .null, .unset, .unset] [(.int 0)]) _
          refine XS.ifYes X2.here hx rfl (pc0 := 39) (pc' := 46) rfl (hb hby at_39) rfl ((if0 _ _).trans (teq (by decide : (0 : Int32) = (0 : Int32))).1) (by decide) (by decide) ?_
          show SF p e below T2 (mkF m 46 #[iv p0s, iv p1s, iv p2s, iv p3s, iv p4s, iv 0, rv b6, rv b14, .val .null, .unset, .unset] []) _
          refine st3 _ ?_
          show SF p e below T3 (mkF m 49 #[iv p0s, iv p1s, iv p2s, iv p3s, iv p4s, iv 0, rv b6, rv b14, .val .null, .unset, .unset] [(.ref b17)]) _
          refine XS.dup X3.here hx rfl (hb hby at_49) rfl rfl ?_
          refine XS.aload X3.here hx rfl (hb hby at_50) rfl rfl ?_
          show SF p e below T3 (mkF m 52 #[iv p0s, iv p1s, iv p2s, iv p3s, iv p4s, iv 0, rv b6, rv b14, .val .null, .unset, .unset] [.null, (.ref b17), (.ref b17)]) _
          refine XS.aload X3.here hx rfl (hb hby at_52) rfl rfl ?_
          show SF p e below T3 (mkF m 54 #[iv p0s, iv p1s, iv p2s, iv p3s, iv p4s, iv 0, rv b6, rv b14, .val .null, .unset, .unset] [(.ref b14), .null, (.ref b17), (.ref b17)]) _
          refine st6.trans ?_
          show SF p e below T6 (mkF m 57 #[iv p0s, iv p1s, iv p2s, iv p3s, iv p4s, iv 0, rv b6, rv b14, .val .null, .unset, .unset] [(.ref b17)]) _
          refine XS.astore X6.here hx rfl (hb hby at_57) rfl rfl (l' := #[iv p0s, iv p1s, iv p2s, iv p3s, iv p4s, iv 0, rv b6, rv b14, .val .null, rv b17, .unset]) rfl ?_
          refine XS.aload X6.here hx rfl (hb hby at_59) rfl rfl ?_
          show SF p e below T6 (mkF m 61 #[iv p0s, iv p1s, iv p2s, iv p3s, iv p4s, iv 0, rv b6, rv b14, .val .null, rv b17, .unset] [(.ref b17)]) _
          refine st11.trans ?_
          show SF p e below T11 (mkF m 64 #[iv p0s, iv p1s, iv p2s, iv p3s, iv p4s, iv 0, rv b6, rv b14, .val .null, rv b17, .unset] [(.int 0)]) _
          refine XS.istore X11.here hx rfl (hb hby at_64) rfl (l' := #[iv p0s, iv p1s, iv p2s, iv p3s, iv p4s, iv 0, rv b6, rv b14, .val .null, rv b17, iv 0]) rfl ?_
          refine XS.iload X11.here hx rfl (hb hby at_66) rfl ?_
          show SF p e below T11 (mkF m 68 #[iv p0s, iv p1s, iv p2s, iv p3s, iv p4s, iv 0, rv b6, rv b14, .val .null, rv b17, iv 0] [(.int 0)]) _
          refine XS.iload X11.here hx rfl (hb hby at_68) rfl ?_
          show SF p e below T11 (mkF m 70 #[iv p0s, iv p1s, iv p2s, iv p3s, iv p4s, iv 0, rv b6, rv b14, .val .null, rv b17, iv 0] [(.int 0), (.int 0)]) _
          refine XS.icmpNo X11.here hx rfl (hb hby at_70) rfl (teq (by decide : (0 : Int32) = (0 : Int32))).2 ?_
          show SF p e below T11 (mkF m 73 #[iv p0s, iv p1s, iv p2s, iv p3s, iv p4s, iv 0, rv b6, rv b14, .val .null, rv b17, iv 0] []) _
          refine XS.iload X11.here hx rfl (hb hby at_73) rfl ?_
          refine XS.aload X11.here hx rfl (hb hby at_75) rfl rfl ?_
          show SF p e below T11 (mkF m 77 #[iv p0s, iv p1s, iv p2s, iv p3s, iv p4s, iv 0, rv b6, rv b14, .val .null, rv b17, iv 0] [(.ref b17), (.int 0)]) _
          refine st12.trans ?_
          show SF p e below T12 (mkF m 80 #[iv p0s, iv p1s, iv p2s, iv p3s, iv p4s, iv 0, rv b6, rv b14, .val .null, rv b17, iv 0] [.null, (.int 0)]) _
          refine XS.ifnullYes X12.here hx rfl (pc0 := 80) (pc' := 87) rfl (hb hby at_80) rfl (by decide) (by decide) ?_
          show SF p e below T12 (mkF m 87 #[iv p0s, iv p1s, iv p2s, iv p3s, iv p4s, iv 0, rv b6, rv b14, .val .null, rv b17, iv 0] [(.int 0)]) _
          refine XS.iconst X12.here hx rfl (hb hby at_87) ?_
          show SF p e below T12 (mkF m 88 #[iv p0s, iv p1s, iv p2s, iv p3s, iv p4s, iv 0, rv b6, rv b14, .val .null, rv b17, iv 0] [(.int 0), (.int 0)]) _
          refine XS.icmpNo X12.here hx rfl (hb hby at_88) rfl (teq (by decide : (0 : Int32) = (0 : Int32))).2 ?_
          show SF p e below T12 (mkF m 91 #[iv p0s, iv p1s, iv p2s, iv p3s, iv p4s, iv 0, rv b6, rv b14, .val .null, rv b17, iv 0] []) _
          refine XS.iconst X12.here hx rfl (hb hby at_91) ?_
          refine XS.goto X12.here hx rfl (pc0 := 92) (pc' := 96) rfl (hb hby at_92) (by decide) (by decide) ?_
          show SF p e below T12 (mkF m 96 #[iv p0s, iv p1s, iv p2s, iv p3s, iv p4s, iv 0, rv b6, rv b14, .val .null, rv b17, iv 0] [(.int 1)]) _
          exact retN X12 hx (t := .boolean) hre (by simp) (hb hby at_96) hr
        · exact ⟨rfl, N12⟩
    · obtain ⟨_, _, ⟨T1, L1, k1x, n1⟩, -, X1, ⟨Lc1, hQ1, l1, y1, z1⟩, st1⟩ := Jvm.LawKit.callS X0 hx (y := (⟨"com/example/qedbox/qedbox/KeywordHasDomainPinLaw", "draw", "(III)Ljava/lang/String;"⟩ : MethodName)) hown (mvT hZ (tw hw 0 rfl)) (mvT hZ (tw hw 1 rfl)) (mvT hZ (tw hw 2 rfl)) (mvT hZ (tw hw 3 rfl)) (by decide) (backOf (W := 0) (rm1_10 l Z a0 hw [] p0s p1s p2s GC h0 n0 Z0 hc2 Sg0 O0 nzGC) hZ (tw hw 3 rfl) (tw hw 2 rfl) (by decide) (by decide)) (g := (mkF m 18 #[iv p0s, iv p1s, iv p2s, iv p3s, iv p4s, iv 0, .unset, .unset, .unset, .unset, .unset] [(.int p2s), (.int p1s), (.int ((p0s.toUInt32 >>> ((1 : Int32) &&& 31).toUInt32).toInt32))])) rfl (by rw [hml]; rfl) (argsL := [(.int ((p0s.toUInt32 >>> ((1 : Int32) &&& 31).toUInt32).toInt32)), (.int p1s), (.int p2s)]) (rest := []) (lenOf pd_1 rfl) rfl (by show 2 * 0 + _ ≤ _; exact Nat.le_of_eq rfl) (hb hby at_18) (fun _ _ => ⟨rfl, e0, (by decide : 0 + 3 ≤ _), (by decide : 0 + 8 ≤ _)⟩)
      dsimp only [Pt.U, Pt.locs, Pt.cells, Pt.slots] at X1 l1 y1 z1 st1 hQ1
      subst l1 y1 z1
      obtain ⟨b6, b7, k8, bz_b6, bz_b7, bn1_0, rfl, N1q, K1c, Fq1_0, Fq1_1, Fq1_2, Fq1_3⟩ := hQ1
      have N1 := Fr.app N0 N1q
      have pre3 : ∀ t, SF p e below T1 (mkF m 29 #[iv p0s, iv p1s, iv p2s, iv p3s, iv p4s, iv 0, rv b6, .unset, .unset, .unset, .unset] [(.int p4s), (.int p3s), (.int ((p0s.toUInt32 >>> ((2 : Int32) &&& 31).toUInt32).toInt32))]) t → SF p e below s₁ (mkF m 18 #[iv p0s, iv p1s, iv p2s, iv p3s, iv p4s, iv 0, .unset, .unset, .unset, .unset, .unset] [(.int p2s), (.int p1s), (.int ((p0s.toUInt32 >>> ((1 : Int32) &&& 31).toUInt32).toInt32))]) t := fun t k => by
        show SF p e below s₁ (mkF m 18 #[iv p0s, iv p1s, iv p2s, iv p3s, iv p4s, iv 0, .unset, .unset, .unset, .unset, .unset] [(.int p2s), (.int p1s), (.int ((p0s.toUInt32 >>> ((1 : Int32) &&& 31).toUInt32).toInt32))]) _
        refine st1 _ ?_
        show SF p e below T1 (mkF m 21 #[iv p0s, iv p1s, iv p2s, iv p3s, iv p4s, iv 0, .unset, .unset, .unset, .unset, .unset] [(.ref b6)]) _
        refine XS.astore X1.here hx rfl (hb hby at_21) rfl rfl (l' := #[iv p0s, iv p1s, iv p2s, iv p3s, iv p4s, iv 0, rv b6, .unset, .unset, .unset, .unset]) rfl ?_
        refine XS.iloadN X1.here hx rfl (hb hby at_23) rfl ?_
        show SF p e below T1 (mkF m 24 #[iv p0s, iv p1s, iv p2s, iv p3s, iv p4s, iv 0, rv b6, .unset, .unset, .unset, .unset] [(.int p0s)]) _
        refine XS.iconst X1.here hx rfl (hb hby at_24) ?_
        show SF p e below T1 (mkF m 25 #[iv p0s, iv p1s, iv p2s, iv p3s, iv p4s, iv 0, rv b6, .unset, .unset, .unset, .unset] [(.int 2), (.int p0s)]) _
        refine XS.iushr X1.here hx rfl (hb hby at_25) rfl ?_
        show SF p e below T1 (mkF m 26 #[iv p0s, iv p1s, iv p2s, iv p3s, iv p4s, iv 0, rv b6, .unset, .unset, .unset, .unset] [(.int ((p0s.toUInt32 >>> ((2 : Int32) &&& 31).toUInt32).toInt32))]) _
        refine XS.iloadN X1.here hx rfl (hb hby at_26) rfl ?_
        refine XS.iload X1.here hx rfl (hb hby at_27) rfl ?_
        exact k
      by_cases hc3 : (((p0s.toUInt32 >>> ((2 : Int32) &&& 31).toUInt32).toInt32) &&& (1 : Int32)) = (0 : Int32)
      · have O1 : Old Z n0 T1.heap := O0.keep K1c all0
        have Z1 : n0 ≤ T1.heap.size := Nat.le_trans Z0 K1c.1
        obtain ⟨_, _, ⟨T2, L2, k2x, n2⟩, -, X2, ⟨Lc2, hQ2, l2, y2, z2⟩, st2⟩ := Jvm.LawKit.callS X1 hx (y := (⟨"com/example/qedbox/qedbox/KeywordHasDomainPinLaw", "draw", "(III)Ljava/lang/String;"⟩ : MethodName)) hown (mvT hZ (tw hw 0 rfl)) (mvT hZ (tw hw 1 rfl)) (mvT hZ (tw hw 2 rfl)) (mvT hZ (tw hw 3 rfl)) (by decide) (backOf (W := 0) (rm1_2 l Z a0 hw [] p0s p3s p4s GC T1.heap n0 Z1 hc3 Sg0 O1 nzGC) hZ (tw hw 3 rfl) (tw hw 2 rfl) (by decide) (by decide)) (g := (mkF m 29 #[iv p0s, iv p1s, iv p2s, iv p3s, iv p4s, iv 0, rv b6, .unset, .unset, .unset, .unset] [(.int p4s), (.int p3s), (.int ((p0s.toUInt32 >>> ((2 : Int32) &&& 31).toUInt32).toInt32))])) rfl (by rw [hml]; rfl) (argsL := [(.int ((p0s.toUInt32 >>> ((2 : Int32) &&& 31).toUInt32).toInt32)), (.int p3s), (.int p4s)]) (rest := []) (lenOf pd_1 rfl) rfl (by show 2 * 0 + _ ≤ _; exact Nat.le_of_eq rfl) (hb hby at_29) (fun _ _ => ⟨rfl, rfl, (by decide : 3 + 3 ≤ _), (by decide : 8 + 6 ≤ _)⟩)
        dsimp only [Pt.U, Pt.locs, Pt.cells, Pt.slots] at X2 l2 y2 z2 st2 hQ2
        subst l2 y2 z2
        obtain ⟨b14, b15, k16, bz_b14, bz_b15, bn2_0, rfl, N2q, K2c, Fq2_0, Fq2_1, Fq2_2, Fq2_3⟩ := hQ2
        have N2 := Fr.app N1 N2q
        obtain ⟨T3, h3, X3, e3, E3, A3, D3, -, st3⟩ := newO X2 hx hZ hown (tw hw 34 rfl) (tw hw 35 rfl) (tw hw 36 rfl) rfl (g := (mkF m 46 #[iv p0s, iv p1s, iv p2s, iv p3s, iv p4s, iv 0, rv b6, rv b14, .val .null, .unset, .unset] [])) rfl (hb hby at_46) (by decide) (by decide)
        obtain ⟨b17, g3⟩ : ∃ z, z = T2.heap.size := ⟨_, rfl⟩
        rw [← g3] at A3 D3 st3
        have Fn4 : Fld Z h3 b17 "com/example/qedbox/qedbox/Keyword" "domain" "Ljava/lang/String;" .null := D3 (Or.inr (tw hw 59 rfl)) (ty := (.object "java/lang/String")) (by decide)
        have Fn5 : Fld Z h3 b17 "com/example/qedbox/qedbox/Keyword" "value" "Ljava/lang/String;" .null := D3 (Or.inr (tw hw 61 rfl)) (ty := (.object "java/lang/String")) (by decide)
        have F3_7 : Exa Z h3 b14 "java/lang/String" := Fq2_0.ext E3
        have F3_8 : Fld Z h3 b14 "java/lang/String" "value" "[B" (.ref b15) := Fq2_2.ext E3
        have F3_9 : Fld Z h3 b14 "java/lang/String" "coder" "B" (.int 0) := Fq2_1.ext E3
        have F3_10 : Arv Z h3 b15 k16 .byte (1 : Int32) (((([(nar .char ((p3s &&& (255 : Int32)).toUInt32.toUInt16.toUInt32.toInt32))] : List Int32)).map (fun c => c.toInt8.toInt32)).map Value.int) (.int (0 : Int32)) := Fq2_3.ext E3
        have Z2 : n0 ≤ T2.heap.size := Nat.le_trans Z1 K2c.1
        have g_b17 : n0 ≤ b17 := Nat.le_trans Z2 (Nat.le_of_eq g3.symm)
        have Z3 : n0 ≤ h3.size := Nat.le_trans Z2 E3.1
        obtain ⟨_, _, ⟨T6, L6, k6x, n6⟩, -, X6, hS6, hgr6, ⟨Lc6, hQ6, l6, y6, z6⟩, st6⟩ := X3.specialBackS hx (y := (⟨"com/example/qedbox/qedbox/Keyword", "<init>", "(Ljava/lang/String;Ljava/lang/String;)V"⟩ : MethodName)) rfl hown (mvT hZ (tw hw 37 rfl)) (mvT hZ (tw hw 38 rfl)) (mvT hZ (tw hw 39 rfl)) (by decide) (backOfS (W := 1) (rm8_5 l Z a0 hw [] b17 b14 b15 k16 p3s h3 n0 Z3 F3_7 F3_8 F3_9 F3_10 A3 Fn4 Fn5 g_b17) hZ (tw hw 39 rfl) (tw hw 36 rfl) (by decide) (by decide)) (g := (mkF m 54 #[iv p0s, iv p1s, iv p2s, iv p3s, iv p4s, iv 0, rv b6, rv b14, .val .null, .unset, .unset] [(.ref b14), .null, (.ref b17), (.ref b17)])) rfl (by rw [hml]; rfl) (Steps.refl _) (a := b17) (argsL := [.null, (.ref b14)]) (rest := [(.ref b17)]) (lenOf pd_5 rfl) rfl (by show 2 * 0 + _ ≤ _; exact Nat.le_of_eq rfl) (hb hby at_54) (fun _ _ => ⟨rfl, e3, (by decide : 7 + 2 ≤ _), (by decide : 16 + 24 ≤ _)⟩)
        dsimp only [Pt.U, Pt.locs, Pt.cells, Pt.slots] at X6 l6 y6 z6 st6 hQ6 hS6 hgr6
        subst l6 y6 z6
        have hZ6 : Z.Warmed39 (s.setVm T6.vm).vm := State.Warmed39.trans hZ hS6.1
        have hown6 : (s.setVm T6.vm).vm.findClass "com/example/qedbox/qedbox/KeywordHasDomainPinLaw" = some m.cls := (hS6.1.alike.findClass _ _).trans hown
        obtain ⟨rfl, N6q, K6c, Fq6_0, Fq6_1, Fq6_2⟩ := hQ6
        have N6 := Fr.app N2 N6q
        have hk6 : T6.heap.size ≤ T6.heap.size := Nat.le_refl _
        have Z6 : n0 ≤ T6.heap.size := Nat.le_trans Z3 K6c.1
        obtain ⟨cq11, kq11, q11a, q11b, q11c⟩ := isOf hZ6 rfl Fq6_0
        obtain ⟨_, _, ⟨T11, L11, k11x, n11⟩, -, X11, ⟨Lc11, hQ11, l11, y11, z11⟩, st11⟩ := X6.virtualBack hx (y := (⟨"com/example/qedbox/qedbox/Keyword", "hasDomain", "()Z"⟩ : MethodName)) (z := (⟨"com/example/qedbox/qedbox/Keyword", "hasDomain", "()Z"⟩ : MethodName)) hown6 (mvT hZ6 (tw hw 62 rfl)) (mvT hZ6 (tw hw 63 rfl)) (notFace_of_selects (args := #[]) (mvT hZ6 (tw hw 65 rfl))) (mvT hZ6 (tw hw 65 rfl)) (mvT hZ6 (tw hw 64 rfl)) (by decide) (backOf (W := 0) (rm12_6 l Z a0 hw [] b17 T6.heap n0 Z6 Fq6_1) hZ6 (tw hw 66 rfl) (tw hw 36 rfl) (by decide) (by decide)) q11a q11c (g := (mkF m 61 #[iv p0s, iv p1s, iv p2s, iv p3s, iv p4s, iv 0, rv b6, rv b14, .val .null, rv b17, .unset] [(.ref b17)])) rfl (by rw [hml]; rfl) (Steps.refl _) (argsL := []) (rest := []) (lenOf pd_4 rfl) rfl (by show 2 * 0 + _ ≤ _; exact Nat.le_of_eq rfl) (hb hby at_61) (fun _ _ => ⟨rfl, rfl, (by decide : 9 + 0 ≤ _), (by decide : 40 + 0 ≤ _)⟩)
        dsimp only [Pt.U, Pt.locs, Pt.cells, Pt.slots] at X11 l11 y11 z11 st11 hQ11
        subst l11 y11 z11
        obtain ⟨rfl, N11q, e11⟩ := hQ11
        have N11 := Fr.app N6 N11q
        obtain ⟨cq12, kq12, q12a, q12b, q12c⟩ := isOf hZ6 e11 Fq6_0
        obtain ⟨_, _, ⟨T12, L12, k12x, n12⟩, -, X12, ⟨Lc12, hQ12, l12, y12, z12⟩, st12⟩ := X11.virtualBack hx (y := (⟨"com/example/qedbox/qedbox/Keyword", "domain", "()Ljava/lang/String;"⟩ : MethodName)) (z := (⟨"com/example/qedbox/qedbox/Keyword", "domain", "()Ljava/lang/String;"⟩ : MethodName)) hown6 (mvT hZ6 (tw hw 67 rfl)) (mvT hZ6 (tw hw 68 rfl)) (notFace_of_selects (args := #[]) (mvT hZ6 (tw hw 70 rfl))) (mvT hZ6 (tw hw 70 rfl)) (mvT hZ6 (tw hw 69 rfl)) (by decide) (backOf (W := 1) (rm13_7 l Z a0 hw [] b17 T6.heap n0 Z6 Fq6_1) hZ6 (tw hw 71 rfl) (tw hw 36 rfl) (by decide) (by decide)) q12a q12c (g := (mkF m 77 #[iv p0s, iv p1s, iv p2s, iv p3s, iv p4s, iv 0, rv b6, rv b14, .val .null, rv b17, iv 0] [(.ref b17), (.int 0)])) rfl (by rw [hml]; rfl) (Steps.refl _) (argsL := []) (rest := [(.int 0)]) (lenOf pd_6 rfl) rfl (by show 2 * 0 + _ ≤ _; exact Nat.le_of_eq rfl) (hb hby at_77) (fun _ _ => ⟨rfl, e11, (by decide : 9 + 0 ≤ _), (by decide : 40 + 0 ≤ _)⟩)
        dsimp only [Pt.U, Pt.locs, Pt.cells, Pt.slots] at X12 l12 y12 z12 st12 hQ12
        subst l12 y12 z12
        obtain ⟨rfl, N12q, e12⟩ := hQ12
        have N12 := Fr.app N11 N12q
        obtain ⟨fs, hr, hrun, hended, hRW⟩ := X12.leaveW hS6 (by rw [e12]; exact hk6) (v := some (.int (1 : Int32))) (fun h => by rw [hre] at h; cases h)
        refine ⟨_, _, pre0 _ (pre1 _ (pre2 _ (pre3 _ (?_)))), hrun, hended, _, _, rfl, ?_, hRW.1, hRW.2.1, hRW.2.2.1, hRW.2.2.2.mono (by decide) (by decide)⟩
        · show SF p e below T1 (mkF m 29 #[iv p0s, iv p1s, iv p2s, iv p3s, iv p4s, iv 0, rv b6, .unset, .unset, .unset, .unset] [(.int p4s), (.int p3s), (.int ((p0s.toUInt32 >>> ((2 : Int32) &&& 31).toUInt32).toInt32))]) _
          refine st2 _ ?_
          show SF p e below T2 (mkF m 32 #[iv p0s, iv p1s, iv p2s, iv p3s, iv p4s, iv 0, rv b6, .unset, .unset, .unset, .unset] [(.ref b14)]) _
          refine XS.astore X2.here hx rfl (hb hby at_32) rfl rfl (l' := #[iv p0s, iv p1s, iv p2s, iv p3s, iv p4s, iv 0, rv b6, rv b14, .unset, .unset, .unset]) rfl ?_
          refine XS.aconstNull X2.here hx rfl (hb hby at_34) ?_
          show SF p e below T2 (mkF m 35 #[iv p0s, iv p1s, iv p2s, iv p3s, iv p4s, iv 0, rv b6, rv b14, .unset, .unset, .unset] [.null]) _
          refine XS.astore X2.here hx rfl (hb hby at_35) rfl rfl (l' := #[iv p0s, iv p1s, iv p2s, iv p3s, iv p4s, iv 0, rv b6, rv b14, .val .null, .unset, .unset]) rfl ?_
          refine XS.iload X2.here hx rfl (hb hby at_37) rfl ?_
          show SF p e below T2 (mkF m 39 #[iv p0s, iv p1s, iv p2s, iv p3s, iv p4s, iv 0, rv b6, rv b14, .val .null, .unset, .unset] [(.int 0)]) _
          refine XS.ifYes X2.here hx rfl (pc0 := 39) (pc' := 46) rfl (hb hby at_39) rfl ((if0 _ _).trans (teq (by decide : (0 : Int32) = (0 : Int32))).1) (by decide) (by decide) ?_
          show SF p e below T2 (mkF m 46 #[iv p0s, iv p1s, iv p2s, iv p3s, iv p4s, iv 0, rv b6, rv b14, .val .null, .unset, .unset] []) _
          refine st3 _ ?_
          show SF p e below T3 (mkF m 49 #[iv p0s, iv p1s, iv p2s, iv p3s, iv p4s, iv 0, rv b6, rv b14, .val .null, .unset, .unset] [(.ref b17)]) _
          refine XS.dup X3.here hx rfl (hb hby at_49) rfl rfl ?_
          refine XS.aload X3.here hx rfl (hb hby at_50) rfl rfl ?_
          show SF p e below T3 (mkF m 52 #[iv p0s, iv p1s, iv p2s, iv p3s, iv p4s, iv 0, rv b6, rv b14, .val .null, .unset, .unset] [.null, (.ref b17), (.ref b17)]) _
          refine XS.aload X3.here hx rfl (hb hby at_52) rfl rfl ?_
          show SF p e below T3 (mkF m 54 #[iv p0s, iv p1s, iv p2s, iv p3s, iv p4s, iv 0, rv b6, rv b14, .val .null, .unset, .unset] [(.ref b14), .null, (.ref b17), (.ref b17)]) _
          refine st6.trans ?_
          show SF p e below T6 (mkF m 57 #[iv p0s, iv p1s, iv p2s, iv p3s, iv p4s, iv 0, rv b6, rv b14, .val .null, .unset, .unset] [(.ref b17)]) _
          refine XS.astore X6.here hx rfl (hb hby at_57) rfl rfl (l' := #[iv p0s, iv p1s, iv p2s, iv p3s, iv p4s, iv 0, rv b6, rv b14, .val .null, rv b17, .unset]) rfl ?_
          refine XS.aload X6.here hx rfl (hb hby at_59) rfl rfl ?_
          show SF p e below T6 (mkF m 61 #[iv p0s, iv p1s, iv p2s, iv p3s, iv p4s, iv 0, rv b6, rv b14, .val .null, rv b17, .unset] [(.ref b17)]) _
          refine st11.trans ?_
          show SF p e below T11 (mkF m 64 #[iv p0s, iv p1s, iv p2s, iv p3s, iv p4s, iv 0, rv b6, rv b14, .val .null, rv b17, .unset] [(.int 0)]) _
          refine XS.istore X11.here hx rfl (hb hby at_64) rfl (l' := #[iv p0s, iv p1s, iv p2s, iv p3s, iv p4s, iv 0, rv b6, rv b14, .val .null, rv b17, iv 0]) rfl ?_
          refine XS.iload X11.here hx rfl (hb hby at_66) rfl ?_
          show SF p e below T11 (mkF m 68 #[iv p0s, iv p1s, iv p2s, iv p3s, iv p4s, iv 0, rv b6, rv b14, .val .null, rv b17, iv 0] [(.int 0)]) _
          refine XS.iload X11.here hx rfl (hb hby at_68) rfl ?_
          show SF p e below T11 (mkF m 70 #[iv p0s, iv p1s, iv p2s, iv p3s, iv p4s, iv 0, rv b6, rv b14, .val .null, rv b17, iv 0] [(.int 0), (.int 0)]) _
          refine XS.icmpNo X11.here hx rfl (hb hby at_70) rfl (teq (by decide : (0 : Int32) = (0 : Int32))).2 ?_
          show SF p e below T11 (mkF m 73 #[iv p0s, iv p1s, iv p2s, iv p3s, iv p4s, iv 0, rv b6, rv b14, .val .null, rv b17, iv 0] []) _
          refine XS.iload X11.here hx rfl (hb hby at_73) rfl ?_
          refine XS.aload X11.here hx rfl (hb hby at_75) rfl rfl ?_
          show SF p e below T11 (mkF m 77 #[iv p0s, iv p1s, iv p2s, iv p3s, iv p4s, iv 0, rv b6, rv b14, .val .null, rv b17, iv 0] [(.ref b17), (.int 0)]) _
          refine st12.trans ?_
          show SF p e below T12 (mkF m 80 #[iv p0s, iv p1s, iv p2s, iv p3s, iv p4s, iv 0, rv b6, rv b14, .val .null, rv b17, iv 0] [.null, (.int 0)]) _
          refine XS.ifnullYes X12.here hx rfl (pc0 := 80) (pc' := 87) rfl (hb hby at_80) rfl (by decide) (by decide) ?_
          show SF p e below T12 (mkF m 87 #[iv p0s, iv p1s, iv p2s, iv p3s, iv p4s, iv 0, rv b6, rv b14, .val .null, rv b17, iv 0] [(.int 0)]) _
          refine XS.iconst X12.here hx rfl (hb hby at_87) ?_
          show SF p e below T12 (mkF m 88 #[iv p0s, iv p1s, iv p2s, iv p3s, iv p4s, iv 0, rv b6, rv b14, .val .null, rv b17, iv 0] [(.int 0), (.int 0)]) _
          refine XS.icmpNo X12.here hx rfl (hb hby at_88) rfl (teq (by decide : (0 : Int32) = (0 : Int32))).2 ?_
          show SF p e below T12 (mkF m 91 #[iv p0s, iv p1s, iv p2s, iv p3s, iv p4s, iv 0, rv b6, rv b14, .val .null, rv b17, iv 0] []) _
          refine XS.iconst X12.here hx rfl (hb hby at_91) ?_
          refine XS.goto X12.here hx rfl (pc0 := 92) (pc' := 96) rfl (hb hby at_92) (by decide) (by decide) ?_
          show SF p e below T12 (mkF m 96 #[iv p0s, iv p1s, iv p2s, iv p3s, iv p4s, iv 0, rv b6, rv b14, .val .null, rv b17, iv 0] [(.int 1)]) _
          exact retN X12 hx (t := .boolean) hre (by simp) (hb hby at_96) hr
        · exact ⟨rfl, N12⟩
      · have O1 : Old Z n0 T1.heap := O0.keep K1c all0
        have Z1 : n0 ≤ T1.heap.size := Nat.le_trans Z0 K1c.1
        obtain ⟨_, _, ⟨T2, L2, k2x, n2⟩, -, X2, ⟨Lc2, hQ2, l2, y2, z2⟩, st2⟩ := Jvm.LawKit.callS X1 hx (y := (⟨"com/example/qedbox/qedbox/KeywordHasDomainPinLaw", "draw", "(III)Ljava/lang/String;"⟩ : MethodName)) hown (mvT hZ (tw hw 0 rfl)) (mvT hZ (tw hw 1 rfl)) (mvT hZ (tw hw 2 rfl)) (mvT hZ (tw hw 3 rfl)) (by decide) (backOf (W := 0) (rm1_8 l Z a0 hw [] p0s p3s p4s GC T1.heap n0 Z1 hc3 Sg0 O1 nzGC) hZ (tw hw 3 rfl) (tw hw 2 rfl) (by decide) (by decide)) (g := (mkF m 29 #[iv p0s, iv p1s, iv p2s, iv p3s, iv p4s, iv 0, rv b6, .unset, .unset, .unset, .unset] [(.int p4s), (.int p3s), (.int ((p0s.toUInt32 >>> ((2 : Int32) &&& 31).toUInt32).toInt32))])) rfl (by rw [hml]; rfl) (argsL := [(.int ((p0s.toUInt32 >>> ((2 : Int32) &&& 31).toUInt32).toInt32)), (.int p3s), (.int p4s)]) (rest := []) (lenOf pd_1 rfl) rfl (by show 2 * 0 + _ ≤ _; exact Nat.le_of_eq rfl) (hb hby at_29) (fun _ _ => ⟨rfl, rfl, (by decide : 3 + 3 ≤ _), (by decide : 8 + 8 ≤ _)⟩)
        dsimp only [Pt.U, Pt.locs, Pt.cells, Pt.slots] at X2 l2 y2 z2 st2 hQ2
        subst l2 y2 z2
        obtain ⟨b14, b15, k16, bz_b14, bz_b15, bn2_0, rfl, N2q, K2c, Fq2_0, Fq2_1, Fq2_2, Fq2_3⟩ := hQ2
        have N2 := Fr.app N1 N2q
        obtain ⟨T3, h3, X3, e3, E3, A3, D3, -, st3⟩ := newO X2 hx hZ hown (tw hw 34 rfl) (tw hw 35 rfl) (tw hw 36 rfl) rfl (g := (mkF m 46 #[iv p0s, iv p1s, iv p2s, iv p3s, iv p4s, iv 0, rv b6, rv b14, .val .null, .unset, .unset] [])) rfl (hb hby at_46) (by decide) (by decide)
        obtain ⟨b17, g3⟩ : ∃ z, z = T2.heap.size := ⟨_, rfl⟩
        rw [← g3] at A3 D3 st3
        have Fn4 : Fld Z h3 b17 "com/example/qedbox/qedbox/Keyword" "domain" "Ljava/lang/String;" .null := D3 (Or.inr (tw hw 59 rfl)) (ty := (.object "java/lang/String")) (by decide)
        have Fn5 : Fld Z h3 b17 "com/example/qedbox/qedbox/Keyword" "value" "Ljava/lang/String;" .null := D3 (Or.inr (tw hw 61 rfl)) (ty := (.object "java/lang/String")) (by decide)
        have F3_7 : Exa Z h3 b14 "java/lang/String" := Fq2_0.ext E3
        have F3_8 : Fld Z h3 b14 "java/lang/String" "value" "[B" (.ref b15) := Fq2_2.ext E3
        have F3_9 : Fld Z h3 b14 "java/lang/String" "coder" "B" (.int 0) := Fq2_1.ext E3
        have F3_10 : Arv Z h3 b15 k16 .byte (2 : Int32) (((([(nar .char ((p3s &&& (255 : Int32)).toUInt32.toUInt16.toUInt32.toInt32)), (nar .char ((p4s &&& (255 : Int32)).toUInt32.toUInt16.toUInt32.toInt32))] : List Int32)).map (fun c => c.toInt8.toInt32)).map Value.int) (.int (0 : Int32)) := Fq2_3.ext E3
        have Z2 : n0 ≤ T2.heap.size := Nat.le_trans Z1 K2c.1
        have g_b17 : n0 ≤ b17 := Nat.le_trans Z2 (Nat.le_of_eq g3.symm)
        have Z3 : n0 ≤ h3.size := Nat.le_trans Z2 E3.1
        obtain ⟨_, _, ⟨T6, L6, k6x, n6⟩, -, X6, hS6, hgr6, ⟨Lc6, hQ6, l6, y6, z6⟩, st6⟩ := X3.specialBackS hx (y := (⟨"com/example/qedbox/qedbox/Keyword", "<init>", "(Ljava/lang/String;Ljava/lang/String;)V"⟩ : MethodName)) rfl hown (mvT hZ (tw hw 37 rfl)) (mvT hZ (tw hw 38 rfl)) (mvT hZ (tw hw 39 rfl)) (by decide) (backOfS (W := 1) (rm8_9 l Z a0 hw [] b17 b14 b15 k16 p3s p4s h3 n0 Z3 F3_7 F3_8 F3_9 F3_10 A3 Fn4 Fn5 g_b17) hZ (tw hw 39 rfl) (tw hw 36 rfl) (by decide) (by decide)) (g := (mkF m 54 #[iv p0s, iv p1s, iv p2s, iv p3s, iv p4s, iv 0, rv b6, rv b14, .val .null, .unset, .unset] [(.ref b14), .null, (.ref b17), (.ref b17)])) rfl (by rw [hml]; rfl) (Steps.refl _) (a := b17) (argsL := [.null, (.ref b14)]) (rest := [(.ref b17)]) (lenOf pd_5 rfl) rfl (by show 2 * 0 + _ ≤ _; exact Nat.le_of_eq rfl) (hb hby at_54) (fun _ _ => ⟨rfl, e3, (by decide : 7 + 2 ≤ _), (by decide : 18 + 24 ≤ _)⟩)
        dsimp only [Pt.U, Pt.locs, Pt.cells, Pt.slots] at X6 l6 y6 z6 st6 hQ6 hS6 hgr6
        subst l6 y6 z6
        have hZ6 : Z.Warmed39 (s.setVm T6.vm).vm := State.Warmed39.trans hZ hS6.1
        have hown6 : (s.setVm T6.vm).vm.findClass "com/example/qedbox/qedbox/KeywordHasDomainPinLaw" = some m.cls := (hS6.1.alike.findClass _ _).trans hown
        obtain ⟨rfl, N6q, K6c, Fq6_0, Fq6_1, Fq6_2⟩ := hQ6
        have N6 := Fr.app N2 N6q
        have hk6 : T6.heap.size ≤ T6.heap.size := Nat.le_refl _
        have Z6 : n0 ≤ T6.heap.size := Nat.le_trans Z3 K6c.1
        obtain ⟨cq11, kq11, q11a, q11b, q11c⟩ := isOf hZ6 rfl Fq6_0
        obtain ⟨_, _, ⟨T11, L11, k11x, n11⟩, -, X11, ⟨Lc11, hQ11, l11, y11, z11⟩, st11⟩ := X6.virtualBack hx (y := (⟨"com/example/qedbox/qedbox/Keyword", "hasDomain", "()Z"⟩ : MethodName)) (z := (⟨"com/example/qedbox/qedbox/Keyword", "hasDomain", "()Z"⟩ : MethodName)) hown6 (mvT hZ6 (tw hw 62 rfl)) (mvT hZ6 (tw hw 63 rfl)) (notFace_of_selects (args := #[]) (mvT hZ6 (tw hw 65 rfl))) (mvT hZ6 (tw hw 65 rfl)) (mvT hZ6 (tw hw 64 rfl)) (by decide) (backOf (W := 0) (rm12_6 l Z a0 hw [] b17 T6.heap n0 Z6 Fq6_1) hZ6 (tw hw 66 rfl) (tw hw 36 rfl) (by decide) (by decide)) q11a q11c (g := (mkF m 61 #[iv p0s, iv p1s, iv p2s, iv p3s, iv p4s, iv 0, rv b6, rv b14, .val .null, rv b17, .unset] [(.ref b17)])) rfl (by rw [hml]; rfl) (Steps.refl _) (argsL := []) (rest := []) (lenOf pd_4 rfl) rfl (by show 2 * 0 + _ ≤ _; exact Nat.le_of_eq rfl) (hb hby at_61) (fun _ _ => ⟨rfl, rfl, (by decide : 9 + 0 ≤ _), (by decide : 42 + 0 ≤ _)⟩)
        dsimp only [Pt.U, Pt.locs, Pt.cells, Pt.slots] at X11 l11 y11 z11 st11 hQ11
        subst l11 y11 z11
        obtain ⟨rfl, N11q, e11⟩ := hQ11
        have N11 := Fr.app N6 N11q
        obtain ⟨cq12, kq12, q12a, q12b, q12c⟩ := isOf hZ6 e11 Fq6_0
        obtain ⟨_, _, ⟨T12, L12, k12x, n12⟩, -, X12, ⟨Lc12, hQ12, l12, y12, z12⟩, st12⟩ := X11.virtualBack hx (y := (⟨"com/example/qedbox/qedbox/Keyword", "domain", "()Ljava/lang/String;"⟩ : MethodName)) (z := (⟨"com/example/qedbox/qedbox/Keyword", "domain", "()Ljava/lang/String;"⟩ : MethodName)) hown6 (mvT hZ6 (tw hw 67 rfl)) (mvT hZ6 (tw hw 68 rfl)) (notFace_of_selects (args := #[]) (mvT hZ6 (tw hw 70 rfl))) (mvT hZ6 (tw hw 70 rfl)) (mvT hZ6 (tw hw 69 rfl)) (by decide) (backOf (W := 1) (rm13_7 l Z a0 hw [] b17 T6.heap n0 Z6 Fq6_1) hZ6 (tw hw 71 rfl) (tw hw 36 rfl) (by decide) (by decide)) q12a q12c (g := (mkF m 77 #[iv p0s, iv p1s, iv p2s, iv p3s, iv p4s, iv 0, rv b6, rv b14, .val .null, rv b17, iv 0] [(.ref b17), (.int 0)])) rfl (by rw [hml]; rfl) (Steps.refl _) (argsL := []) (rest := [(.int 0)]) (lenOf pd_6 rfl) rfl (by show 2 * 0 + _ ≤ _; exact Nat.le_of_eq rfl) (hb hby at_77) (fun _ _ => ⟨rfl, e11, (by decide : 9 + 0 ≤ _), (by decide : 42 + 0 ≤ _)⟩)
        dsimp only [Pt.U, Pt.locs, Pt.cells, Pt.slots] at X12 l12 y12 z12 st12 hQ12
        subst l12 y12 z12
        obtain ⟨rfl, N12q, e12⟩ := hQ12
        have N12 := Fr.app N11 N12q
        obtain ⟨fs, hr, hrun, hended, hRW⟩ := X12.leaveW hS6 (by rw [e12]; exact hk6) (v := some (.int (1 : Int32))) (fun h => by rw [hre] at h; cases h)
        refine ⟨_, _, pre0 _ (pre1 _ (pre2 _ (pre3 _ (?_)))), hrun, hended, _, _, rfl, ?_, hRW.1, hRW.2.1, hRW.2.2.1, hRW.2.2.2.mono (by decide) (by decide)⟩
        · show SF p e below T1 (mkF m 29 #[iv p0s, iv p1s, iv p2s, iv p3s, iv p4s, iv 0, rv b6, .unset, .unset, .unset, .unset] [(.int p4s), (.int p3s), (.int ((p0s.toUInt32 >>> ((2 : Int32) &&& 31).toUInt32).toInt32))]) _
          refine st2 _ ?_
          show SF p e below T2 (mkF m 32 #[iv p0s, iv p1s, iv p2s, iv p3s, iv p4s, iv 0, rv b6, .unset, .unset, .unset, .unset] [(.ref b14)]) _
          refine XS.astore X2.here hx rfl (hb hby at_32) rfl rfl (l' := #[iv p0s, iv p1s, iv p2s, iv p3s, iv p4s, iv 0, rv b6, rv b14, .unset, .unset, .unset]) rfl ?_
          refine XS.aconstNull X2.here hx rfl (hb hby at_34) ?_
          show SF p e below T2 (mkF m 35 #[iv p0s, iv p1s, iv p2s, iv p3s, iv p4s, iv 0, rv b6, rv b14, .unset, .unset, .unset] [.null]) _
          refine XS.astore X2.here hx rfl (hb hby at_35) rfl rfl (l' := #[iv p0s, iv p1s, iv p2s, iv p3s, iv p4s, iv 0, rv b6, rv b14, .val .null, .unset, .unset]) rfl ?_
          refine XS.iload X2.here hx rfl (hb hby at_37) rfl ?_
          show SF p e below T2 (mkF m 39 #[iv p0s, iv p1s, iv p2s, iv p3s, iv p4s, iv 0, rv b6, rv b14, .val .null, .unset, .unset] [(.int 0)]) _
          refine XS.ifYes X2.here hx rfl (pc0 := 39) (pc' := 46) rfl (hb hby at_39) rfl ((if0 _ _).trans (teq (by decide : (0 : Int32) = (0 : Int32))).1) (by decide) (by decide) ?_
          show SF p e below T2 (mkF m 46 #[iv p0s, iv p1s, iv p2s, iv p3s, iv p4s, iv 0, rv b6, rv b14, .val .null, .unset, .unset] []) _
          refine st3 _ ?_
          show SF p e below T3 (mkF m 49 #[iv p0s, iv p1s, iv p2s, iv p3s, iv p4s, iv 0, rv b6, rv b14, .val .null, .unset, .unset] [(.ref b17)]) _
          refine XS.dup X3.here hx rfl (hb hby at_49) rfl rfl ?_
          refine XS.aload X3.here hx rfl (hb hby at_50) rfl rfl ?_
          show SF p e below T3 (mkF m 52 #[iv p0s, iv p1s, iv p2s, iv p3s, iv p4s, iv 0, rv b6, rv b14, .val .null, .unset, .unset] [.null, (.ref b17), (.ref b17)]) _
          refine XS.aload X3.here hx rfl (hb hby at_52) rfl rfl ?_
          show SF p e below T3 (mkF m 54 #[iv p0s, iv p1s, iv p2s, iv p3s, iv p4s, iv 0, rv b6, rv b14, .val .null, .unset, .unset] [(.ref b14), .null, (.ref b17), (.ref b17)]) _
          refine st6.trans ?_
          show SF p e below T6 (mkF m 57 #[iv p0s, iv p1s, iv p2s, iv p3s, iv p4s, iv 0, rv b6, rv b14, .val .null, .unset, .unset] [(.ref b17)]) _
          refine XS.astore X6.here hx rfl (hb hby at_57) rfl rfl (l' := #[iv p0s, iv p1s, iv p2s, iv p3s, iv p4s, iv 0, rv b6, rv b14, .val .null, rv b17, .unset]) rfl ?_
          refine XS.aload X6.here hx rfl (hb hby at_59) rfl rfl ?_
          show SF p e below T6 (mkF m 61 #[iv p0s, iv p1s, iv p2s, iv p3s, iv p4s, iv 0, rv b6, rv b14, .val .null, rv b17, .unset] [(.ref b17)]) _
          refine st11.trans ?_
          show SF p e below T11 (mkF m 64 #[iv p0s, iv p1s, iv p2s, iv p3s, iv p4s, iv 0, rv b6, rv b14, .val .null, rv b17, .unset] [(.int 0)]) _
          refine XS.istore X11.here hx rfl (hb hby at_64) rfl (l' := #[iv p0s, iv p1s, iv p2s, iv p3s, iv p4s, iv 0, rv b6, rv b14, .val .null, rv b17, iv 0]) rfl ?_
          refine XS.iload X11.here hx rfl (hb hby at_66) rfl ?_
          show SF p e below T11 (mkF m 68 #[iv p0s, iv p1s, iv p2s, iv p3s, iv p4s, iv 0, rv b6, rv b14, .val .null, rv b17, iv 0] [(.int 0)]) _
          refine XS.iload X11.here hx rfl (hb hby at_68) rfl ?_
          show SF p e below T11 (mkF m 70 #[iv p0s, iv p1s, iv p2s, iv p3s, iv p4s, iv 0, rv b6, rv b14, .val .null, rv b17, iv 0] [(.int 0), (.int 0)]) _
          refine XS.icmpNo X11.here hx rfl (hb hby at_70) rfl (teq (by decide : (0 : Int32) = (0 : Int32))).2 ?_
          show SF p e below T11 (mkF m 73 #[iv p0s, iv p1s, iv p2s, iv p3s, iv p4s, iv 0, rv b6, rv b14, .val .null, rv b17, iv 0] []) _
          refine XS.iload X11.here hx rfl (hb hby at_73) rfl ?_
          refine XS.aload X11.here hx rfl (hb hby at_75) rfl rfl ?_
          show SF p e below T11 (mkF m 77 #[iv p0s, iv p1s, iv p2s, iv p3s, iv p4s, iv 0, rv b6, rv b14, .val .null, rv b17, iv 0] [(.ref b17), (.int 0)]) _
          refine st12.trans ?_
          show SF p e below T12 (mkF m 80 #[iv p0s, iv p1s, iv p2s, iv p3s, iv p4s, iv 0, rv b6, rv b14, .val .null, rv b17, iv 0] [.null, (.int 0)]) _
          refine XS.ifnullYes X12.here hx rfl (pc0 := 80) (pc' := 87) rfl (hb hby at_80) rfl (by decide) (by decide) ?_
          show SF p e below T12 (mkF m 87 #[iv p0s, iv p1s, iv p2s, iv p3s, iv p4s, iv 0, rv b6, rv b14, .val .null, rv b17, iv 0] [(.int 0)]) _
          refine XS.iconst X12.here hx rfl (hb hby at_87) ?_
          show SF p e below T12 (mkF m 88 #[iv p0s, iv p1s, iv p2s, iv p3s, iv p4s, iv 0, rv b6, rv b14, .val .null, rv b17, iv 0] [(.int 0), (.int 0)]) _
          refine XS.icmpNo X12.here hx rfl (hb hby at_88) rfl (teq (by decide : (0 : Int32) = (0 : Int32))).2 ?_
          show SF p e below T12 (mkF m 91 #[iv p0s, iv p1s, iv p2s, iv p3s, iv p4s, iv 0, rv b6, rv b14, .val .null, rv b17, iv 0] []) _
          refine XS.iconst X12.here hx rfl (hb hby at_91) ?_
          refine XS.goto X12.here hx rfl (pc0 := 92) (pc' := 96) rfl (hb hby at_92) (by decide) (by decide) ?_
          show SF p e below T12 (mkF m 96 #[iv p0s, iv p1s, iv p2s, iv p3s, iv p4s, iv 0, rv b6, rv b14, .val .null, rv b17, iv 0] [(.int 1)]) _
          exact retN X12 hx (t := .boolean) hre (by simp) (hb hby at_96) hr
        · exact ⟨rfl, N12⟩
  · have pre2 : ∀ t, SF p e below s₁ (mkF m 18 #[iv p0s, iv p1s, iv p2s, iv p3s, iv p4s, iv 1, .unset, .unset, .unset, .unset, .unset] [(.int p2s), (.int p1s), (.int ((p0s.toUInt32 >>> ((1 : Int32) &&& 31).toUInt32).toInt32))]) t → SF p e below s₁ (mkF m 3 #[iv p0s, iv p1s, iv p2s, iv p3s, iv p4s, .unset, .unset, .unset, .unset, .unset, .unset] [(.int (p0s &&& (1 : Int32)))]) t := fun t k => by
      show SF p e below s₁ (mkF m 3 #[iv p0s, iv p1s, iv p2s, iv p3s, iv p4s, .unset, .unset, .unset, .unset, .unset, .unset] [(.int (p0s &&& (1 : Int32)))]) _
      refine XS.ifNo X0.here hx rfl (hb hby at_3) rfl ((if0 _ _).trans (feq hc1).1) ?_
      show SF p e below s₁ (mkF m 6 #[iv p0s, iv p1s, iv p2s, iv p3s, iv p4s, .unset, .unset, .unset, .unset, .unset, .unset] []) _
      refine XS.iconst X0.here hx rfl (hb hby at_6) ?_
      refine XS.goto X0.here hx rfl (pc0 := 7) (pc' := 11) rfl (hb hby at_7) (by decide) (by decide) ?_
      show SF p e below s₁ (mkF m 11 #[iv p0s, iv p1s, iv p2s, iv p3s, iv p4s, .unset, .unset, .unset, .unset, .unset, .unset] [(.int 1)]) _
      refine XS.istore X0.here hx rfl (hb hby at_11) rfl (l' := #[iv p0s, iv p1s, iv p2s, iv p3s, iv p4s, iv 1, .unset, .unset, .unset, .unset, .unset]) rfl ?_
      refine XS.iloadN X0.here hx rfl (hb hby at_13) rfl ?_
      show SF p e below s₁ (mkF m 14 #[iv p0s, iv p1s, iv p2s, iv p3s, iv p4s, iv 1, .unset, .unset, .unset, .unset, .unset] [(.int p0s)]) _
      refine XS.iconst X0.here hx rfl (hb hby at_14) ?_
      show SF p e below s₁ (mkF m 15 #[iv p0s, iv p1s, iv p2s, iv p3s, iv p4s, iv 1, .unset, .unset, .unset, .unset, .unset] [(.int 1), (.int p0s)]) _
      refine XS.iushr X0.here hx rfl (hb hby at_15) rfl ?_
      show SF p e below s₁ (mkF m 16 #[iv p0s, iv p1s, iv p2s, iv p3s, iv p4s, iv 1, .unset, .unset, .unset, .unset, .unset] [(.int ((p0s.toUInt32 >>> ((1 : Int32) &&& 31).toUInt32).toInt32))]) _
      refine XS.iloadN X0.here hx rfl (hb hby at_16) rfl ?_
      refine XS.iloadN X0.here hx rfl (hb hby at_17) rfl ?_
      exact k
    by_cases hc2 : (((p0s.toUInt32 >>> ((1 : Int32) &&& 31).toUInt32).toInt32) &&& (1 : Int32)) = (0 : Int32)
    · obtain ⟨_, _, ⟨T1, L1, k1x, n1⟩, -, X1, ⟨Lc1, hQ1, l1, y1, z1⟩, st1⟩ := Jvm.LawKit.callS X0 hx (y := (⟨"com/example/qedbox/qedbox/KeywordHasDomainPinLaw", "draw", "(III)Ljava/lang/String;"⟩ : MethodName)) hown (mvT hZ (tw hw 0 rfl)) (mvT hZ (tw hw 1 rfl)) (mvT hZ (tw hw 2 rfl)) (mvT hZ (tw hw 3 rfl)) (by decide) (backOf (W := 0) (rm1_1 l Z a0 hw [] p0s p1s p2s GC h0 n0 Z0 hc2 Sg0 O0 nzGC) hZ (tw hw 3 rfl) (tw hw 2 rfl) (by decide) (by decide)) (g := (mkF m 18 #[iv p0s, iv p1s, iv p2s, iv p3s, iv p4s, iv 1, .unset, .unset, .unset, .unset, .unset] [(.int p2s), (.int p1s), (.int ((p0s.toUInt32 >>> ((1 : Int32) &&& 31).toUInt32).toInt32))])) rfl (by rw [hml]; rfl) (argsL := [(.int ((p0s.toUInt32 >>> ((1 : Int32) &&& 31).toUInt32).toInt32)), (.int p1s), (.int p2s)]) (rest := []) (lenOf pd_1 rfl) rfl (by show 2 * 0 + _ ≤ _; exact Nat.le_of_eq rfl) (hb hby at_18) (fun _ _ => ⟨rfl, e0, (by decide : 0 + 3 ≤ _), (by decide : 0 + 6 ≤ _)⟩)
      dsimp only [Pt.U, Pt.locs, Pt.cells, Pt.slots] at X1 l1 y1 z1 st1 hQ1
      subst l1 y1 z1
      obtain ⟨b6, b7, k8, bz_b6, bz_b7, bn1_0, rfl, N1q, K1c, Fq1_0, Fq1_1, Fq1_2, Fq1_3⟩ := hQ1
      have N1 := Fr.app N0 N1q
      have pre3 : ∀ t, SF p e below T1 (mkF m 29 #[iv p0s, iv p1s, iv p2s, iv p3s, iv p4s, iv 1, rv b6, .unset, .unset, .unset, .unset] [(.int p4s), (.int p3s), (.int ((p0s.toUInt32 >>> ((2 : Int32) &&& 31).toUInt32).toInt32))]) t → SF p e below s₁ (mkF m 18 #[iv p0s, iv p1s, iv p2s, iv p3s, iv p4s, iv 1, .unset, .unset, .unset, .unset, .unset] [(.int p2s), (.int p1s), (.int ((p0s.toUInt32 >>> ((1 : Int32) &&& 31).toUInt32).toInt32))]) t := fun t k => by
        show SF p e below s₁ (mkF m 18 #[iv p0s, iv p1s, iv p2s, iv p3s, iv p4s, iv 1, .unset, .unset, .unset, .unset, .unset] [(.int p2s), (.int p1s), (.int ((p0s.toUInt32 >>> ((1 : Int32) &&& 31).toUInt32).toInt32))]) _
        refine st1 _ ?_
        show SF p e below T1 (mkF m 21 #[iv p0s, iv p1s, iv p2s, iv p3s, iv p4s, iv 1, .unset, .unset, .unset, .unset, .unset] [(.ref b6)]) _
        refine XS.astore X1.here hx rfl (hb hby at_21) rfl rfl (l' := #[iv p0s, iv p1s, iv p2s, iv p3s, iv p4s, iv 1, rv b6, .unset, .unset, .unset, .unset]) rfl ?_
        refine XS.iloadN X1.here hx rfl (hb hby at_23) rfl ?_
        show SF p e below T1 (mkF m 24 #[iv p0s, iv p1s, iv p2s, iv p3s, iv p4s, iv 1, rv b6, .unset, .unset, .unset, .unset] [(.int p0s)]) _
        refine XS.iconst X1.here hx rfl (hb hby at_24) ?_
        show SF p e below T1 (mkF m 25 #[iv p0s, iv p1s, iv p2s, iv p3s, iv p4s, iv 1, rv b6, .unset, .unset, .unset, .unset] [(.int 2), (.int p0s)]) _
        refine XS.iushr X1.here hx rfl (hb hby at_25) rfl ?_
        show SF p e below T1 (mkF m 26 #[iv p0s, iv p1s, iv p2s, iv p3s, iv p4s, iv 1, rv b6, .unset, .unset, .unset, .unset] [(.int ((p0s.toUInt32 >>> ((2 : Int32) &&& 31).toUInt32).toInt32))]) _
        refine XS.iloadN X1.here hx rfl (hb hby at_26) rfl ?_
        refine XS.iload X1.here hx rfl (hb hby at_27) rfl ?_
        exact k
      by_cases hc3 : (((p0s.toUInt32 >>> ((2 : Int32) &&& 31).toUInt32).toInt32) &&& (1 : Int32)) = (0 : Int32)
      · have O1 : Old Z n0 T1.heap := O0.keep K1c all0
        have Z1 : n0 ≤ T1.heap.size := Nat.le_trans Z0 K1c.1
        obtain ⟨_, _, ⟨T2, L2, k2x, n2⟩, -, X2, ⟨Lc2, hQ2, l2, y2, z2⟩, st2⟩ := Jvm.LawKit.callS X1 hx (y := (⟨"com/example/qedbox/qedbox/KeywordHasDomainPinLaw", "draw", "(III)Ljava/lang/String;"⟩ : MethodName)) hown (mvT hZ (tw hw 0 rfl)) (mvT hZ (tw hw 1 rfl)) (mvT hZ (tw hw 2 rfl)) (mvT hZ (tw hw 3 rfl)) (by decide) (backOf (W := 0) (rm1_2 l Z a0 hw [] p0s p3s p4s GC T1.heap n0 Z1 hc3 Sg0 O1 nzGC) hZ (tw hw 3 rfl) (tw hw 2 rfl) (by decide) (by decide)) (g := (mkF m 29 #[iv p0s, iv p1s, iv p2s, iv p3s, iv p4s, iv 1, rv b6, .unset, .unset, .unset, .unset] [(.int p4s), (.int p3s), (.int ((p0s.toUInt32 >>> ((2 : Int32) &&& 31).toUInt32).toInt32))])) rfl (by rw [hml]; rfl) (argsL := [(.int ((p0s.toUInt32 >>> ((2 : Int32) &&& 31).toUInt32).toInt32)), (.int p3s), (.int p4s)]) (rest := []) (lenOf pd_1 rfl) rfl (by show 2 * 0 + _ ≤ _; exact Nat.le_of_eq rfl) (hb hby at_29) (fun _ _ => ⟨rfl, rfl, (by decide : 3 + 3 ≤ _), (by decide : 6 + 6 ≤ _)⟩)
        dsimp only [Pt.U, Pt.locs, Pt.cells, Pt.slots] at X2 l2 y2 z2 st2 hQ2
        subst l2 y2 z2
        obtain ⟨b14, b15, k16, bz_b14, bz_b15, bn2_0, rfl, N2q, K2c, Fq2_0, Fq2_1, Fq2_2, Fq2_3⟩ := hQ2
        have N2 := Fr.app N1 N2q
        obtain ⟨T3, h3, X3, e3, E3, A3, D3, -, st3⟩ := newO X2 hx hZ hown (tw hw 34 rfl) (tw hw 35 rfl) (tw hw 36 rfl) rfl (g := (mkF m 46 #[iv p0s, iv p1s, iv p2s, iv p3s, iv p4s, iv 1, rv b6, rv b14, rv b6, .unset, .unset] [])) rfl (hb hby at_46) (by decide) (by decide)
        obtain ⟨b17, g3⟩ : ∃ z, z = T2.heap.size := ⟨_, rfl⟩
        rw [← g3] at A3 D3 st3
        have Fn4 : Fld Z h3 b17 "com/example/qedbox/qedbox/Keyword" "domain" "Ljava/lang/String;" .null := D3 (Or.inr (tw hw 59 rfl)) (ty := (.object "java/lang/String")) (by decide)
        have Fn5 : Fld Z h3 b17 "com/example/qedbox/qedbox/Keyword" "value" "Ljava/lang/String;" .null := D3 (Or.inr (tw hw 61 rfl)) (ty := (.object "java/lang/String")) (by decide)
        have F2_7 : Exa Z T2.heap b6 "java/lang/String" := Fq1_0.keep K2c
        have F3_8 : Exa Z h3 b6 "java/lang/String" := F2_7.ext E3
        have F2_9 : Fld Z T2.heap b6 "java/lang/String" "value" "[B" (.ref b7) := Fq1_2.keep K2c nin0
        have F3_10 : Fld Z h3 b6 "java/lang/String" "value" "[B" (.ref b7) := F2_9.ext E3
        have F2_11 : Fld Z T2.heap b6 "java/lang/String" "coder" "B" (.int 0) := Fq1_1.keep K2c nin0
        have F3_12 : Fld Z h3 b6 "java/lang/String" "coder" "B" (.int 0) := F2_11.ext E3
        have F2_13 : Arv Z T2.heap b7 k8 .byte (1 : Int32) (((([(nar .char ((p1s &&& (255 : Int32)).toUInt32.toUInt16.toUInt32.toInt32))] : List Int32)).map (fun c => c.toInt8.toInt32)).map Value.int) (.int (0 : Int32)) := Fq1_3.keep K2c nin0
        have F3_14 : Arv Z h3 b7 k8 .byte (1 : Int32) (((([(nar .char ((p1s &&& (255 : Int32)).toUInt32.toUInt16.toUInt32.toInt32))] : List Int32)).map (fun c => c.toInt8.toInt32)).map Value.int) (.int (0 : Int32)) := F2_13.ext E3
        have F3_15 : Exa Z h3 b14 "java/lang/String" := Fq2_0.ext E3
        have F3_16 : Fld Z h3 b14 "java/lang/String" "value" "[B" (.ref b15) := Fq2_2.ext E3
        have F3_17 : Fld Z h3 b14 "java/lang/String" "coder" "B" (.int 0) := Fq2_1.ext E3
        have F3_18 : Arv Z h3 b15 k16 .byte (1 : Int32) (((([(nar .char ((p3s &&& (255 : Int32)).toUInt32.toUInt16.toUInt32.toInt32))] : List Int32)).map (fun c => c.toInt8.toInt32)).map Value.int) (.int (0 : Int32)) := Fq2_3.ext E3
        have Z2 : n0 ≤ T2.heap.size := Nat.le_trans Z1 K2c.1
        have g_b17 : n0 ≤ b17 := Nat.le_trans Z2 (Nat.le_of_eq g3.symm)
        have Z3 : n0 ≤ h3.size := Nat.le_trans Z2 E3.1
        obtain ⟨_, _, ⟨T6, L6, k6x, n6⟩, -, X6, hS6, hgr6, ⟨Lc6, hQ6, l6, y6, z6⟩, st6⟩ := X3.specialBackS hx (y := (⟨"com/example/qedbox/qedbox/Keyword", "<init>", "(Ljava/lang/String;Ljava/lang/String;)V"⟩ : MethodName)) rfl hown (mvT hZ (tw hw 37 rfl)) (mvT hZ (tw hw 38 rfl)) (mvT hZ (tw hw 39 rfl)) (by decide) (backOfS (W := 1) (rm8_11 l Z a0 hw [] b17 b6 b14 b7 k8 p1s b15 k16 p3s h3 n0 Z3 F3_8 F3_10 F3_12 F3_14 F3_15 F3_16 F3_17 F3_18 A3 Fn4 Fn5 g_b17) hZ (tw hw 39 rfl) (tw hw 36 rfl) (by decide) (by decide)) (g := (mkF m 54 #[iv p0s, iv p1s, iv p2s, iv p3s, iv p4s, iv 1, rv b6, rv b14, rv b6, .unset, .unset] [(.ref b14), (.ref b6), (.ref b17), (.ref b17)])) rfl (by rw [hml]; rfl) (Steps.refl _) (a := b17) (argsL := [(.ref b6), (.ref b14)]) (rest := [(.ref b17)]) (lenOf pd_5 rfl) rfl (by show 2 * 0 + _ ≤ _; exact Nat.le_of_eq rfl) (hb hby at_54) (fun _ _ => ⟨rfl, e3, (by decide : 7 + 2 ≤ _), (by decide : 14 + 24 ≤ _)⟩)
        dsimp only [Pt.U, Pt.locs, Pt.cells, Pt.slots] at X6 l6 y6 z6 st6 hQ6 hS6 hgr6
        subst l6 y6 z6
        have hZ6 : Z.Warmed39 (s.setVm T6.vm).vm := State.Warmed39.trans hZ hS6.1
        have hown6 : (s.setVm T6.vm).vm.findClass "com/example/qedbox/qedbox/KeywordHasDomainPinLaw" = some m.cls := (hS6.1.alike.findClass _ _).trans hown
        obtain ⟨rfl, N6q, K6c, Fq6_0, Fq6_1, Fq6_2⟩ := hQ6
        have N6 := Fr.app N2 N6q
        have hk6 : T6.heap.size ≤ T6.heap.size := Nat.le_refl _
        have Z6 : n0 ≤ T6.heap.size := Nat.le_trans Z3 K6c.1
        obtain ⟨cq19, kq19, q19a, q19b, q19c⟩ := isOf hZ6 rfl Fq6_0
        obtain ⟨_, _, ⟨T19, L19, k19x, n19⟩, -, X19, ⟨Lc19, hQ19, l19, y19, z19⟩, st19⟩ := X6.virtualBack hx (y := (⟨"com/example/qedbox/qedbox/Keyword", "hasDomain", "()Z"⟩ : MethodName)) (z := (⟨"com/example/qedbox/qedbox/Keyword", "hasDomain", "()Z"⟩ : MethodName)) hown6 (mvT hZ6 (tw hw 62 rfl)) (mvT hZ6 (tw hw 63 rfl)) (notFace_of_selects (args := #[]) (mvT hZ6 (tw hw 65 rfl))) (mvT hZ6 (tw hw 65 rfl)) (mvT hZ6 (tw hw 64 rfl)) (by decide) (backOf (W := 0) (rm12_12 l Z a0 hw [] b17 b6 T6.heap n0 Z6 Fq6_1) hZ6 (tw hw 66 rfl) (tw hw 36 rfl) (by decide) (by decide)) q19a q19c (g := (mkF m 61 #[iv p0s, iv p1s, iv p2s, iv p3s, iv p4s, iv 1, rv b6, rv b14, rv b6, rv b17, .unset] [(.ref b17)])) rfl (by rw [hml]; rfl) (Steps.refl _) (argsL := []) (rest := []) (lenOf pd_4 rfl) rfl (by show 2 * 0 + _ ≤ _; exact Nat.le_of_eq rfl) (hb hby at_61) (fun _ _ => ⟨rfl, rfl, (by decide : 9 + 0 ≤ _), (by decide : 38 + 0 ≤ _)⟩)
        dsimp only [Pt.U, Pt.locs, Pt.cells, Pt.slots] at X19 l19 y19 z19 st19 hQ19
        subst l19 y19 z19
        obtain ⟨rfl, N19q, e19⟩ := hQ19
        have N19 := Fr.app N6 N19q
        obtain ⟨cq20, kq20, q20a, q20b, q20c⟩ := isOf hZ6 e19 Fq6_0
        obtain ⟨_, _, ⟨T20, L20, k20x, n20⟩, -, X20, ⟨Lc20, hQ20, l20, y20, z20⟩, st20⟩ := X19.virtualBack hx (y := (⟨"com/example/qedbox/qedbox/Keyword", "domain", "()Ljava/lang/String;"⟩ : MethodName)) (z := (⟨"com/example/qedbox/qedbox/Keyword", "domain", "()Ljava/lang/String;"⟩ : MethodName)) hown6 (mvT hZ6 (tw hw 67 rfl)) (mvT hZ6 (tw hw 68 rfl)) (notFace_of_selects (args := #[]) (mvT hZ6 (tw hw 70 rfl))) (mvT hZ6 (tw hw 70 rfl)) (mvT hZ6 (tw hw 69 rfl)) (by decide) (backOf (W := 1) (rm13_13 l Z a0 hw [] b17 b6 T6.heap n0 Z6 Fq6_1) hZ6 (tw hw 71 rfl) (tw hw 36 rfl) (by decide) (by decide)) q20a q20c (g := (mkF m 77 #[iv p0s, iv p1s, iv p2s, iv p3s, iv p4s, iv 1, rv b6, rv b14, rv b6, rv b17, iv 1] [(.ref b17), (.int 1)])) rfl (by rw [hml]; rfl) (Steps.refl _) (argsL := []) (rest := [(.int 1)]) (lenOf pd_6 rfl) rfl (by show 2 * 0 + _ ≤ _; exact Nat.le_of_eq rfl) (hb hby at_77) (fun _ _ => ⟨rfl, e19, (by decide : 9 + 0 ≤ _), (by decide : 38 + 0 ≤ _)⟩)
        dsimp only [Pt.U, Pt.locs, Pt.cells, Pt.slots] at X20 l20 y20 z20 st20 hQ20
        subst l20 y20 z20
        obtain ⟨rfl, N20q, e20⟩ := hQ20
        have N20 := Fr.app N19 N20q
        obtain ⟨fs, hr, hrun, hended, hRW⟩ := X20.leaveW hS6 (by rw [e20]; exact hk6) (v := some (.int (1 : Int32))) (fun h => by rw [hre] at h; cases h)
        refine ⟨_, _, pre0 _ (pre1 _ (pre2 _ (pre3 _ (?_)))), hrun, hended, _, _, rfl, ?_, hRW.1, hRW.2.1, hRW.2.2.1, hRW.2.2.2.mono (by decide) (by decide)⟩
        · show SF p e below T1 (mkF m 29 #[iv p0s, iv p1s, iv p2s, iv p3s, iv p4s, iv 1, rv b6, .unset, .unset, .unset, .unset] [(.int p4s), (.int p3s), (.int ((p0s.toUInt32 >>> ((2 : Int32) &&& 31).toUInt32).toInt32))]) _
          refine st2 _ ?_
          show SF p e below T2 (mkF m 32 #[iv p0s, iv p1s, iv p2s, iv p3s, iv p4s, iv 1, rv b6, .unset, .unset, .unset, .unset] [(.ref b14)]) _
          refine XS.astore X2.here hx rfl (hb hby at_32) rfl rfl (l' := #[iv p0s, iv p1s, iv p2s, iv p3s, iv p4s, iv 1, rv b6, rv b14, .unset, .unset, .unset]) rfl ?_
          refine XS.aconstNull X2.here hx rfl (hb hby at_34) ?_
          show SF p e below T2 (mkF m 35 #[iv p0s, iv p1s, iv p2s, iv p3s, iv p4s, iv 1, rv b6, rv b14, .unset, .unset, .unset] [.null]) _
          refine XS.astore X2.here hx rfl (hb hby at_35) rfl rfl (l' := #[iv p0s, iv p1s, iv p2s, iv p3s, iv p4s, iv 1, rv b6, rv b14, .val .null, .unset, .unset]) rfl ?_
          refine XS.iload X2.here hx rfl (hb hby at_37) rfl ?_
          show SF p e below T2 (mkF m 39 #[iv p0s, iv p1s, iv p2s, iv p3s, iv p4s, iv 1, rv b6, rv b14, .val .null, .unset, .unset] [(.int 1)]) _
          refine XS.ifNo X2.here hx rfl (hb hby at_39) rfl ((if0 _ _).trans (feq (by decide : ¬ ((1 : Int32) = (0 : Int32)))).1) ?_
          show SF p e below T2 (mkF m 42 #[iv p0s, iv p1s, iv p2s, iv p3s, iv p4s, iv 1, rv b6, rv b14, .val .null, .unset, .unset] []) _
          refine XS.aload X2.here hx rfl (hb hby at_42) rfl rfl ?_
          refine XS.astore X2.here hx rfl (hb hby at_44) rfl rfl (l' := #[iv p0s, iv p1s, iv p2s, iv p3s, iv p4s, iv 1, rv b6, rv b14, rv b6, .unset, .unset]) rfl ?_
          show SF p e below T2 (mkF m 46 #[iv p0s, iv p1s, iv p2s, iv p3s, iv p4s, iv 1, rv b6, rv b14, rv b6, .unset, .unset] []) _
          refine st3 _ ?_
          show SF p e below T3 (mkF m 49 #[iv p0s, iv p1s, iv p2s, iv p3s, iv p4s, iv 1, rv b6, rv b14, rv b6, .unset, .unset] [(.ref b17)]) _
          refine XS.dup X3.here hx rfl (hb hby at_49) rfl rfl ?_
          refine XS.aload X3.here hx rfl (hb hby at_50) rfl rfl ?_
          show SF p e below T3 (mkF m 52 #[iv p0s, iv p1s, iv p2s, iv p3s, iv p4s, iv 1, rv b6, rv b14, rv b6, .unset, .unset] [(.ref b6), (.ref b17), (.ref b17)]) _
          refine XS.aload X3.here hx rfl (hb hby at_52) rfl rfl ?_
          show SF p e below T3 (mkF m 54 #[iv p0s, iv p1s, iv p2s, iv p3s, iv p4s, iv 1, rv b6, rv b14, rv b6, .unset, .unset] [(.ref b14), (.ref b6), (.ref b17), (.ref b17)]) _
          refine st6.trans ?_
          show SF p e below T6 (mkF m 57 #[iv p0s, iv p1s, iv p2s, iv p3s, iv p4s, iv 1, rv b6, rv b14, rv b6, .unset, .unset] [(.ref b17)]) _
          refine XS.astore X6.here hx rfl (hb hby at_57) rfl rfl (l' := #[iv p0s, iv p1s, iv p2s, iv p3s, iv p4s, iv 1, rv b6, rv b14, rv b6, rv b17, .unset]) rfl ?_
          refine XS.aload X6.here hx rfl (hb hby at_59) rfl rfl ?_
          show SF p e below T6 (mkF m 61 #[iv p0s, iv p1s, iv p2s, iv p3s, iv p4s, iv 1, rv b6, rv b14, rv b6, rv b17, .unset] [(.ref b17)]) _
          refine st19.trans ?_
          show SF p e below T19 (mkF m 64 #[iv p0s, iv p1s, iv p2s, iv p3s, iv p4s, iv 1, rv b6, rv b14, rv b6, rv b17, .unset] [(.int 1)]) _
          refine XS.istore X19.here hx rfl (hb hby at_64) rfl (l' := #[iv p0s, iv p1s, iv p2s, iv p3s, iv p4s, iv 1, rv b6, rv b14, rv b6, rv b17, iv 1]) rfl ?_
          refine XS.iload X19.here hx rfl (hb hby at_66) rfl ?_
          show SF p e below T19 (mkF m 68 #[iv p0s, iv p1s, iv p2s, iv p3s, iv p4s, iv 1, rv b6, rv b14, rv b6, rv b17, iv 1] [(.int 1)]) _
          refine XS.iload X19.here hx rfl (hb hby at_68) rfl ?_
          show SF p e below T19 (mkF m 70 #[iv p0s, iv p1s, iv p2s, iv p3s, iv p4s, iv 1, rv b6, rv b14, rv b6, rv b17, iv 1] [(.int 1), (.int 1)]) _
          refine XS.icmpNo X19.here hx rfl (hb hby at_70) rfl (teq (by decide : (1 : Int32) = (1 : Int32))).2 ?_
          show SF p e below T19 (mkF m 73 #[iv p0s, iv p1s, iv p2s, iv p3s, iv p4s, iv 1, rv b6, rv b14, rv b6, rv b17, iv 1] []) _
          refine XS.iload X19.here hx rfl (hb hby at_73) rfl ?_
          refine XS.aload X19.here hx rfl (hb hby at_75) rfl rfl ?_
          show SF p e below T19 (mkF m 77 #[iv p0s, iv p1s, iv p2s, iv p3s, iv p4s, iv 1, rv b6, rv b14, rv b6, rv b17, iv 1] [(.ref b17), (.int 1)]) _
          refine st20.trans ?_
          show SF p e below T20 (mkF m 80 #[iv p0s, iv p1s, iv p2s, iv p3s, iv p4s, iv 1, rv b6, rv b14, rv b6, rv b17, iv 1] [(.ref b6), (.int 1)]) _
          refine XS.ifnullNo X20.here hx rfl (hb hby at_80) rfl ?_
          show SF p e below T20 (mkF m 83 #[iv p0s, iv p1s, iv p2s, iv p3s, iv p4s, iv 1, rv b6, rv b14, rv b6, rv b17, iv 1] [(.int 1)]) _
          refine XS.iconst X20.here hx rfl (hb hby at_83) ?_
          refine XS.goto X20.here hx rfl (pc0 := 84) (pc' := 88) rfl (hb hby at_84) (by decide) (by decide) ?_
          show SF p e below T20 (mkF m 88 #[iv p0s, iv p1s, iv p2s, iv p3s, iv p4s, iv 1, rv b6, rv b14, rv b6, rv b17, iv 1] [(.int 1), (.int 1)]) _
          refine XS.icmpNo X20.here hx rfl (hb hby at_88) rfl (teq (by decide : (1 : Int32) = (1 : Int32))).2 ?_
          show SF p e below T20 (mkF m 91 #[iv p0s, iv p1s, iv p2s, iv p3s, iv p4s, iv 1, rv b6, rv b14, rv b6, rv b17, iv 1] []) _
          refine XS.iconst X20.here hx rfl (hb hby at_91) ?_
          refine XS.goto X20.here hx rfl (pc0 := 92) (pc' := 96) rfl (hb hby at_92) (by decide) (by decide) ?_
          show SF p e below T20 (mkF m 96 #[iv p0s, iv p1s, iv p2s, iv p3s, iv p4s, iv 1, rv b6, rv b14, rv b6, rv b17, iv 1] [(.int 1)]) _
          exact retN X20 hx (t := .boolean) hre (by simp) (hb hby at_96) hr
        · exact ⟨rfl, N20⟩
      · have O1 : Old Z n0 T1.heap := O0.keep K1c all0
        have Z1 : n0 ≤ T1.heap.size := Nat.le_trans Z0 K1c.1
        obtain ⟨_, _, ⟨T2, L2, k2x, n2⟩, -, X2, ⟨Lc2, hQ2, l2, y2, z2⟩, st2⟩ := Jvm.LawKit.callS X1 hx (y := (⟨"com/example/qedbox/qedbox/KeywordHasDomainPinLaw", "draw", "(III)Ljava/lang/String;"⟩ : MethodName)) hown (mvT hZ (tw hw 0 rfl)) (mvT hZ (tw hw 1 rfl)) (mvT hZ (tw hw 2 rfl)) (mvT hZ (tw hw 3 rfl)) (by decide) (backOf (W := 0) (rm1_8 l Z a0 hw [] p0s p3s p4s GC T1.heap n0 Z1 hc3 Sg0 O1 nzGC) hZ (tw hw 3 rfl) (tw hw 2 rfl) (by decide) (by decide)) (g := (mkF m 29 #[iv p0s, iv p1s, iv p2s, iv p3s, iv p4s, iv 1, rv b6, .unset, .unset, .unset, .unset] [(.int p4s), (.int p3s), (.int ((p0s.toUInt32 >>> ((2 : Int32) &&& 31).toUInt32).toInt32))])) rfl (by rw [hml]; rfl) (argsL := [(.int ((p0s.toUInt32 >>> ((2 : Int32) &&& 31).toUInt32).toInt32)), (.int p3s), (.int p4s)]) (rest := []) (lenOf pd_1 rfl) rfl (by show 2 * 0 + _ ≤ _; exact Nat.le_of_eq rfl) (hb hby at_29) (fun _ _ => ⟨rfl, rfl, (by decide : 3 + 3 ≤ _), (by decide : 6 + 8 ≤ _)⟩)
        dsimp only [Pt.U, Pt.locs, Pt.cells, Pt.slots] at X2 l2 y2 z2 st2 hQ2
        subst l2 y2 z2
        obtain ⟨b14, b15, k16, bz_b14, bz_b15, bn2_0, rfl, N2q, K2c, Fq2_0, Fq2_1, Fq2_2, Fq2_3⟩ := hQ2
        have N2 := Fr.app N1 N2q
        obtain ⟨T3, h3, X3, e3, E3, A3, D3, -, st3⟩ := newO X2 hx hZ hown (tw hw 34 rfl) (tw hw 35 rfl) (tw hw 36 rfl) rfl (g := (mkF m 46 #[iv p0s, iv p1s, iv p2s, iv p3s, iv p4s, iv 1, rv b6, rv b14, rv b6, .unset, .unset] [])) rfl (hb hby at_46) (by decide) (by decide)
        obtain ⟨b17, g3⟩ : ∃ z, z = T2.heap.size := ⟨_, rfl⟩
        rw [← g3] at A3 D3 st3
        have Fn4 : Fld Z h3 b17 "com/example/qedbox/qedbox/Keyword" "domain" "Ljava/lang/String;" .null := D3 (Or.inr (tw hw 59 rfl)) (ty := (.object "java/lang/String")) (by decide)
        have Fn5 : Fld Z h3 b17 "com/example/qedbox/qedbox/Keyword" "value" "Ljava/lang/String;" .null := D3 (Or.inr (tw hw 61 rfl)) (ty := (.object "java/lang/String")) (by decide)
        have F2_7 : Exa Z T2.heap b6 "java/lang/String" := Fq1_0.keep K2c
        have F3_8 : Exa Z h3 b6 "java/lang/String" := F2_7.ext E3
        have F2_9 : Fld Z T2.heap b6 "java/lang/String" "value" "[B" (.ref b7) := Fq1_2.keep K2c nin0
        have F3_10 : Fld Z h3 b6 "java/lang/String" "value" "[B" (.ref b7) := F2_9.ext E3
        have F2_11 : Fld Z T2.heap b6 "java/lang/String" "coder" "B" (.int 0) := Fq1_1.keep K2c nin0
        have F3_12 : Fld Z h3 b6 "java/lang/String" "coder" "B" (.int 0) := F2_11.ext E3
        have F2_13 : Arv Z T2.heap b7 k8 .byte (1 : Int32) (((([(nar .char ((p1s &&& (255 : Int32)).toUInt32.toUInt16.toUInt32.toInt32))] : List Int32)).map (fun c => c.toInt8.toInt32)).map Value.int) (.int (0 : Int32)) := Fq1_3.keep K2c nin0
        have F3_14 : Arv Z h3 b7 k8 .byte (1 : Int32) (((([(nar .char ((p1s &&& (255 : Int32)).toUInt32.toUInt16.toUInt32.toInt32))] : List Int32)).map (fun c => c.toInt8.toInt32)).map Value.int) (.int (0 : Int32)) := F2_13.ext E3
        have F3_15 : Exa Z h3 b14 "java/lang/String" := Fq2_0.ext E3
        have F3_16 : Fld Z h3 b14 "java/lang/String" "value" "[B" (.ref b15) := Fq2_2.ext E3
        have F3_17 : Fld Z h3 b14 "java/lang/String" "coder" "B" (.int 0) := Fq2_1.ext E3
        have F3_18 : Arv Z h3 b15 k16 .byte (2 : Int32) (((([(nar .char ((p3s &&& (255 : Int32)).toUInt32.toUInt16.toUInt32.toInt32)), (nar .char ((p4s &&& (255 : Int32)).toUInt32.toUInt16.toUInt32.toInt32))] : List Int32)).map (fun c => c.toInt8.toInt32)).map Value.int) (.int (0 : Int32)) := Fq2_3.ext E3
        have Z2 : n0 ≤ T2.heap.size := Nat.le_trans Z1 K2c.1
        have g_b17 : n0 ≤ b17 := Nat.le_trans Z2 (Nat.le_of_eq g3.symm)
        have Z3 : n0 ≤ h3.size := Nat.le_trans Z2 E3.1
        obtain ⟨_, _, ⟨T6, L6, k6x, n6⟩, -, X6, hS6, hgr6, ⟨Lc6, hQ6, l6, y6, z6⟩, st6⟩ := X3.specialBackS hx (y := (⟨"com/example/qedbox/qedbox/Keyword", "<init>", "(Ljava/lang/String;Ljava/lang/String;)V"⟩ : MethodName)) rfl hown (mvT hZ (tw hw 37 rfl)) (mvT hZ (tw hw 38 rfl)) (mvT hZ (tw hw 39 rfl)) (by decide) (backOfS (W := 1) (rm8_14 l Z a0 hw [] b17 b6 b14 b7 k8 p1s b15 k16 p3s p4s h3 n0 Z3 F3_8 F3_10 F3_12 F3_14 F3_15 F3_16 F3_17 F3_18 A3 Fn4 Fn5 g_b17) hZ (tw hw 39 rfl) (tw hw 36 rfl) (by decide) (by decide)) (g := (mkF m 54 #[iv p0s, iv p1s, iv p2s, iv p3s, iv p4s, iv 1, rv b6, rv b14, rv b6, .unset, .unset] [(.ref b14), (.ref b6), (.ref b17), (.ref b17)])) rfl (by rw [hml]; rfl) (Steps.refl _) (a := b17) (argsL := [(.ref b6), (.ref b14)]) (rest := [(.ref b17)]) (lenOf pd_5 rfl) rfl (by show 2 * 0 + _ ≤ _; exact Nat.le_of_eq rfl) (hb hby at_54) (fun _ _ => ⟨rfl, e3, (by decide : 7 + 2 ≤ _), (by decide : 16 + 24 ≤ _)⟩)
        dsimp only [Pt.U, Pt.locs, Pt.cells, Pt.slots] at X6 l6 y6 z6 st6 hQ6 hS6 hgr6
        subst l6 y6 z6
        have hZ6 : Z.Warmed39 (s.setVm T6.vm).vm := State.Warmed39.trans hZ hS6.1
        have hown6 : (s.setVm T6.vm).vm.findClass "com/example/qedbox/qedbox/KeywordHasDomainPinLaw" = some m.cls := (hS6.1.alike.findClass _ _).trans hown
        obtain ⟨rfl, N6q, K6c, Fq6_0, Fq6_1, Fq6_2⟩ := hQ6
        have N6 := Fr.app N2 N6q
        have hk6 : T6.heap.size ≤ T6.heap.size := Nat.le_refl _
        have Z6 : n0 ≤ T6.heap.size := Nat.le_trans Z3 K6c.1
        obtain ⟨cq19, kq19, q19a, q19b, q19c⟩ := isOf hZ6 rfl Fq6_0
        obtain ⟨_, _, ⟨T19, L19, k19x, n19⟩, -, X19, ⟨Lc19, hQ19, l19, y19, z19⟩, st19⟩ := X6.virtualBack hx (y := (⟨"com/example/qedbox/qedbox/Keyword", "hasDomain", "()Z"⟩ : MethodName)) (z := (⟨"com/example/qedbox/qedbox/Keyword", "hasDomain", "()Z"⟩ : MethodName)) hown6 (mvT hZ6 (tw hw 62 rfl)) (mvT hZ6 (tw hw 63 rfl)) (notFace_of_selects (args := #[]) (mvT hZ6 (tw hw 65 rfl))) (mvT hZ6 (tw hw 65 rfl)) (mvT hZ6 (tw hw 64 rfl)) (by decide) (backOf (W := 0) (rm12_12 l Z a0 hw [] b17 b6 T6.heap n0 Z6 Fq6_1) hZ6 (tw hw 66 rfl) (tw hw 36 rfl) (by decide) (by decide)) q19a q19c (g := (mkF m 61 #[iv p0s, iv p1s, iv p2s, iv p3s, iv p4s, iv 1, rv b6, rv b14, rv b6, rv b17, .unset] [(.ref b17)])) rfl (by rw [hml]; rfl) (Steps.refl _) (argsL := []) (rest := []) (lenOf pd_4 rfl) rfl (by show 2 * 0 + _ ≤ _; exact Nat.le_of_eq rfl) (hb hby at_61) (fun _ _ => ⟨rfl, rfl, (by decide : 9 + 0 ≤ _), (by decide : 40 + 0 ≤ _)⟩)
        dsimp only [Pt.U, Pt.locs, Pt.cells, Pt.slots] at X19 l19 y19 z19 st19 hQ19
        subst l19 y19 z19
        obtain ⟨rfl, N19q, e19⟩ := hQ19
        have N19 := Fr.app N6 N19q
        obtain ⟨cq20, kq20, q20a, q20b, q20c⟩ := isOf hZ6 e19 Fq6_0
        obtain ⟨_, _, ⟨T20, L20, k20x, n20⟩, -, X20, ⟨Lc20, hQ20, l20, y20, z20⟩, st20⟩ := X19.virtualBack hx (y := (⟨"com/example/qedbox/qedbox/Keyword", "domain", "()Ljava/lang/String;"⟩ : MethodName)) (z := (⟨"com/example/qedbox/qedbox/Keyword", "domain", "()Ljava/lang/String;"⟩ : MethodName)) hown6 (mvT hZ6 (tw hw 67 rfl)) (mvT hZ6 (tw hw 68 rfl)) (notFace_of_selects (args := #[]) (mvT hZ6 (tw hw 70 rfl))) (mvT hZ6 (tw hw 70 rfl)) (mvT hZ6 (tw hw 69 rfl)) (by decide) (backOf (W := 1) (rm13_13 l Z a0 hw [] b17 b6 T6.heap n0 Z6 Fq6_1) hZ6 (tw hw 71 rfl) (tw hw 36 rfl) (by decide) (by decide)) q20a q20c (g := (mkF m 77 #[iv p0s, iv p1s, iv p2s, iv p3s, iv p4s, iv 1, rv b6, rv b14, rv b6, rv b17, iv 1] [(.ref b17), (.int 1)])) rfl (by rw [hml]; rfl) (Steps.refl _) (argsL := []) (rest := [(.int 1)]) (lenOf pd_6 rfl) rfl (by show 2 * 0 + _ ≤ _; exact Nat.le_of_eq rfl) (hb hby at_77) (fun _ _ => ⟨rfl, e19, (by decide : 9 + 0 ≤ _), (by decide : 40 + 0 ≤ _)⟩)
        dsimp only [Pt.U, Pt.locs, Pt.cells, Pt.slots] at X20 l20 y20 z20 st20 hQ20
        subst l20 y20 z20
        obtain ⟨rfl, N20q, e20⟩ := hQ20
        have N20 := Fr.app N19 N20q
        obtain ⟨fs, hr, hrun, hended, hRW⟩ := X20.leaveW hS6 (by rw [e20]; exact hk6) (v := some (.int (1 : Int32))) (fun h => by rw [hre] at h; cases h)
        refine ⟨_, _, pre0 _ (pre1 _ (pre2 _ (pre3 _ (?_)))), hrun, hended, _, _, rfl, ?_, hRW.1, hRW.2.1, hRW.2.2.1, hRW.2.2.2.mono (by decide) (by decide)⟩
        · show SF p e below T1 (mkF m 29 #[iv p0s, iv p1s, iv p2s, iv p3s, iv p4s, iv 1, rv b6, .unset, .unset, .unset, .unset] [(.int p4s), (.int p3s), (.int ((p0s.toUInt32 >>> ((2 : Int32) &&& 31).toUInt32).toInt32))]) _
          refine st2 _ ?_
          show SF p e below T2 (mkF m 32 #[iv p0s, iv p1s, iv p2s, iv p3s, iv p4s, iv 1, rv b6, .unset, .unset, .unset, .unset] [(.ref b14)]) _
          refine XS.astore X2.here hx rfl (hb hby at_32) rfl rfl (l' := #[iv p0s, iv p1s, iv p2s, iv p3s, iv p4s, iv 1, rv b6, rv b14, .unset, .unset, .unset]) rfl ?_
          refine XS.aconstNull X2.here hx rfl (hb hby at_34) ?_
          show SF p e below T2 (mkF m 35 #[iv p0s, iv p1s, iv p2s, iv p3s, iv p4s, iv 1, rv b6, rv b14, .unset, .unset, .unset] [.null]) _
          refine XS.astore X2.here hx rfl (hb hby at_35) rfl rfl (l' := #[iv p0s, iv p1s, iv p2s, iv p3s, iv p4s, iv 1, rv b6, rv b14, .val .null, .unset, .unset]) rfl ?_
          refine XS.iload X2.here hx rfl (hb hby at_37) rfl ?_
          show SF p e below T2 (mkF m 39 #[iv p0s, iv p1s, iv p2s, iv p3s, iv p4s, iv 1, rv b6, rv b14, .val .null, .unset, .unset] [(.int 1)]) _
          refine XS.ifNo X2.here hx rfl (hb hby at_39) rfl ((if0 _ _).trans (feq (by decide : ¬ ((1 : Int32) = (0 : Int32)))).1) ?_
          show SF p e below T2 (mkF m 42 #[iv p0s, iv p1s, iv p2s, iv p3s, iv p4s, iv 1, rv b6, rv b14, .val .null, .unset, .unset] []) _
          refine XS.aload X2.here hx rfl (hb hby at_42) rfl rfl ?_
          refine XS.astore X2.here hx rfl (hb hby at_44) rfl rfl (l' := #[iv p0s, iv p1s, iv p2s, iv p3s, iv p4s, iv 1, rv b6, rv b14, rv b6, .unset, .unset]) rfl ?_
          show SF p e below T2 (mkF m 46 #[iv p0s, iv p1s, iv p2s, iv p3s, iv p4s, iv 1, rv b6, rv b14, rv b6, .unset, .unset] []) _
          refine st3 _ ?_
          show SF p e below T3 (mkF m 49 #[iv p0s, iv p1s, iv p2s, iv p3s, iv p4s, iv 1, rv b6, rv b14, rv b6, .unset, .unset] [(.ref b17)]) _
          refine XS.dup X3.here hx rfl (hb hby at_49) rfl rfl ?_
          refine XS.aload X3.here hx rfl (hb hby at_50) rfl rfl ?_
          show SF p e below T3 (mkF m 52 #[iv p0s, iv p1s, iv p2s, iv p3s, iv p4s, iv 1, rv b6, rv b14, rv b6, .unset, .unset] [(.ref b6), (.ref b17), (.ref b17)]) _
          refine XS.aload X3.here hx rfl (hb hby at_52) rfl rfl ?_
          show SF p e below T3 (mkF m 54 #[iv p0s, iv p1s, iv p2s, iv p3s, iv p4s, iv 1, rv b6, rv b14, rv b6, .unset, .unset] [(.ref b14), (.ref b6), (.ref b17), (.ref b17)]) _
          refine st6.trans ?_
          show SF p e below T6 (mkF m 57 #[iv p0s, iv p1s, iv p2s, iv p3s, iv p4s, iv 1, rv b6, rv b14, rv b6, .unset, .unset] [(.ref b17)]) _
          refine XS.astore X6.here hx rfl (hb hby at_57) rfl rfl (l' := #[iv p0s, iv p1s, iv p2s, iv p3s, iv p4s, iv 1, rv b6, rv b14, rv b6, rv b17, .unset]) rfl ?_
          refine XS.aload X6.here hx rfl (hb hby at_59) rfl rfl ?_
          show SF p e below T6 (mkF m 61 #[iv p0s, iv p1s, iv p2s, iv p3s, iv p4s, iv 1, rv b6, rv b14, rv b6, rv b17, .unset] [(.ref b17)]) _
          refine st19.trans ?_
          show SF p e below T19 (mkF m 64 #[iv p0s, iv p1s, iv p2s, iv p3s, iv p4s, iv 1, rv b6, rv b14, rv b6, rv b17, .unset] [(.int 1)]) _
          refine XS.istore X19.here hx rfl (hb hby at_64) rfl (l' := #[iv p0s, iv p1s, iv p2s, iv p3s, iv p4s, iv 1, rv b6, rv b14, rv b6, rv b17, iv 1]) rfl ?_
          refine XS.iload X19.here hx rfl (hb hby at_66) rfl ?_
          show SF p e below T19 (mkF m 68 #[iv p0s, iv p1s, iv p2s, iv p3s, iv p4s, iv 1, rv b6, rv b14, rv b6, rv b17, iv 1] [(.int 1)]) _
          refine XS.iload X19.here hx rfl (hb hby at_68) rfl ?_
          show SF p e below T19 (mkF m 70 #[iv p0s, iv p1s, iv p2s, iv p3s, iv p4s, iv 1, rv b6, rv b14, rv b6, rv b17, iv 1] [(.int 1), (.int 1)]) _
          refine XS.icmpNo X19.here hx rfl (hb hby at_70) rfl (teq (by decide : (1 : Int32) = (1 : Int32))).2 ?_
          show SF p e below T19 (mkF m 73 #[iv p0s, iv p1s, iv p2s, iv p3s, iv p4s, iv 1, rv b6, rv b14, rv b6, rv b17, iv 1] []) _
          refine XS.iload X19.here hx rfl (hb hby at_73) rfl ?_
          refine XS.aload X19.here hx rfl (hb hby at_75) rfl rfl ?_
          show SF p e below T19 (mkF m 77 #[iv p0s, iv p1s, iv p2s, iv p3s, iv p4s, iv 1, rv b6, rv b14, rv b6, rv b17, iv 1] [(.ref b17), (.int 1)]) _
          refine st20.trans ?_
          show SF p e below T20 (mkF m 80 #[iv p0s, iv p1s, iv p2s, iv p3s, iv p4s, iv 1, rv b6, rv b14, rv b6, rv b17, iv 1] [(.ref b6), (.int 1)]) _
          refine XS.ifnullNo X20.here hx rfl (hb hby at_80) rfl ?_
          show SF p e below T20 (mkF m 83 #[iv p0s, iv p1s, iv p2s, iv p3s, iv p4s, iv 1, rv b6, rv b14, rv b6, rv b17, iv 1] [(.int 1)]) _
          refine XS.iconst X20.here hx rfl (hb hby at_83) ?_
          refine XS.goto X20.here hx rfl (pc0 := 84) (pc' := 88) rfl (hb hby at_84) (by decide) (by decide) ?_
          show SF p e below T20 (mkF m 88 #[iv p0s, iv p1s, iv p2s, iv p3s, iv p4s, iv 1, rv b6, rv b14, rv b6, rv b17, iv 1] [(.int 1), (.int 1)]) _
          refine XS.icmpNo X20.here hx rfl (hb hby at_88) rfl (teq (by decide : (1 : Int32) = (1 : Int32))).2 ?_
          show SF p e below T20 (mkF m 91 #[iv p0s, iv p1s, iv p2s, iv p3s, iv p4s, iv 1, rv b6, rv b14, rv b6, rv b17, iv 1] []) _
          refine XS.iconst X20.here hx rfl (hb hby at_91) ?_
          refine XS.goto X20.here hx rfl (pc0 := 92) (pc' := 96) rfl (hb hby at_92) (by decide) (by decide) ?_
          show SF p e below T20 (mkF m 96 #[iv p0s, iv p1s, iv p2s, iv p3s, iv p4s, iv 1, rv b6, rv b14, rv b6, rv b17, iv 1] [(.int 1)]) _
          exact retN X20 hx (t := .boolean) hre (by simp) (hb hby at_96) hr
        · exact ⟨rfl, N20⟩
    · obtain ⟨_, _, ⟨T1, L1, k1x, n1⟩, -, X1, ⟨Lc1, hQ1, l1, y1, z1⟩, st1⟩ := Jvm.LawKit.callS X0 hx (y := (⟨"com/example/qedbox/qedbox/KeywordHasDomainPinLaw", "draw", "(III)Ljava/lang/String;"⟩ : MethodName)) hown (mvT hZ (tw hw 0 rfl)) (mvT hZ (tw hw 1 rfl)) (mvT hZ (tw hw 2 rfl)) (mvT hZ (tw hw 3 rfl)) (by decide) (backOf (W := 0) (rm1_10 l Z a0 hw [] p0s p1s p2s GC h0 n0 Z0 hc2 Sg0 O0 nzGC) hZ (tw hw 3 rfl) (tw hw 2 rfl) (by decide) (by decide)) (g := (mkF m 18 #[iv p0s, iv p1s, iv p2s, iv p3s, iv p4s, iv 1, .unset, .unset, .unset, .unset, .unset] [(.int p2s), (.int p1s), (.int ((p0s.toUInt32 >>> ((1 : Int32) &&& 31).toUInt32).toInt32))])) rfl (by rw [hml]; rfl) (argsL := [(.int ((p0s.toUInt32 >>> ((1 : Int32) &&& 31).toUInt32).toInt32)), (.int p1s), (.int p2s)]) (rest := []) (lenOf pd_1 rfl) rfl (by show 2 * 0 + _ ≤ _; exact Nat.le_of_eq rfl) (hb hby at_18) (fun _ _ => ⟨rfl, e0, (by decide : 0 + 3 ≤ _), (by decide : 0 + 8 ≤ _)⟩)
      dsimp only [Pt.U, Pt.locs, Pt.cells, Pt.slots] at X1 l1 y1 z1 st1 hQ1
      subst l1 y1 z1
      obtain ⟨b6, b7, k8, bz_b6, bz_b7, bn1_0, rfl, N1q, K1c, Fq1_0, Fq1_1, Fq1_2, Fq1_3⟩ := hQ1
      have N1 := Fr.app N0 N1q
      have pre3 : ∀ t, SF p e below T1 (mkF m 29 #[iv p0s, iv p1s, iv p2s, iv p3s, iv p4s, iv 1, rv b6, .unset, .unset, .unset, .unset] [(.int p4s), (.int p3s), (.int ((p0s.toUInt32 >>> ((2 : Int32) &&& 31).toUInt32).toInt32))]) t → SF p e below s₁ (mkF m 18 #[iv p0s, iv p1s, iv p2s, iv p3s, iv p4s, iv 1, .unset, .unset, .unset, .unset, .unset] [(.int p2s), (.int p1s), (.int ((p0s.toUInt32 >>> ((1 : Int32) &&& 31).toUInt32).toInt32))]) t := fun t k => by
        show SF p e below s₁ (mkF m 18 #[iv p0s, iv p1s, iv p2s, iv p3s, iv p4s, iv 1, .unset, .unset, .unset, .unset, .unset] [(.int p2s), (.int p1s), (.int ((p0s.toUInt32 >>> ((1 : Int32) &&& 31).toUInt32).toInt32))]) _
        refine st1 _ ?_
        show SF p e below T1 (mkF m 21 #[iv p0s, iv p1s, iv p2s, iv p3s, iv p4s, iv 1, .unset, .unset, .unset, .unset, .unset] [(.ref b6)]) _
        refine XS.astore X1.here hx rfl (hb hby at_21) rfl rfl (l' := #[iv p0s, iv p1s, iv p2s, iv p3s, iv p4s, iv 1, rv b6, .unset, .unset, .unset, .unset]) rfl ?_
        refine XS.iloadN X1.here hx rfl (hb hby at_23) rfl ?_
        show SF p e below T1 (mkF m 24 #[iv p0s, iv p1s, iv p2s, iv p3s, iv p4s, iv 1, rv b6, .unset, .unset, .unset, .unset] [(.int p0s)]) _
        refine XS.iconst X1.here hx rfl (hb hby at_24) ?_
        show SF p e below T1 (mkF m 25 #[iv p0s, iv p1s, iv p2s, iv p3s, iv p4s, iv 1, rv b6, .unset, .unset, .unset, .unset] [(.int 2), (.int p0s)]) _
        refine XS.iushr X1.here hx rfl (hb hby at_25) rfl ?_
        show SF p e below T1 (mkF m 26 #[iv p0s, iv p1s, iv p2s, iv p3s, iv p4s, iv 1, rv b6, .unset, .unset, .unset, .unset] [(.int ((p0s.toUInt32 >>> ((2 : Int32) &&& 31).toUInt32).toInt32))]) _
        refine XS.iloadN X1.here hx rfl (hb hby at_26) rfl ?_
        refine XS.iload X1.here hx rfl (hb hby at_27) rfl ?_
        exact k
      by_cases hc3 : (((p0s.toUInt32 >>> ((2 : Int32) &&& 31).toUInt32).toInt32) &&& (1 : Int32)) = (0 : Int32)
      · have O1 : Old Z n0 T1.heap := O0.keep K1c all0
        have Z1 : n0 ≤ T1.heap.size := Nat.le_trans Z0 K1c.1
        obtain ⟨_, _, ⟨T2, L2, k2x, n2⟩, -, X2, ⟨Lc2, hQ2, l2, y2, z2⟩, st2⟩ := Jvm.LawKit.callS X1 hx (y := (⟨"com/example/qedbox/qedbox/KeywordHasDomainPinLaw", "draw", "(III)Ljava/lang/String;"⟩ : MethodName)) hown (mvT hZ (tw hw 0 rfl)) (mvT hZ (tw hw 1 rfl)) (mvT hZ (tw hw 2 rfl)) (mvT hZ (tw hw 3 rfl)) (by decide) (backOf (W := 0) (rm1_2 l Z a0 hw [] p0s p3s p4s GC T1.heap n0 Z1 hc3 Sg0 O1 nzGC) hZ (tw hw 3 rfl) (tw hw 2 rfl) (by decide) (by decide)) (g := (mkF m 29 #[iv p0s, iv p1s, iv p2s, iv p3s, iv p4s, iv 1, rv b6, .unset, .unset, .unset, .unset] [(.int p4s), (.int p3s), (.int ((p0s.toUInt32 >>> ((2 : Int32) &&& 31).toUInt32).toInt32))])) rfl (by rw [hml]; rfl) (argsL := [(.int ((p0s.toUInt32 >>> ((2 : Int32) &&& 31).toUInt32).toInt32)), (.int p3s), (.int p4s)]) (rest := []) (lenOf pd_1 rfl) rfl (by show 2 * 0 + _ ≤ _; exact Nat.le_of_eq rfl) (hb hby at_29) (fun _ _ => ⟨rfl, rfl, (by decide : 3 + 3 ≤ _), (by decide : 8 + 6 ≤ _)⟩)
        dsimp only [Pt.U, Pt.locs, Pt.cells, Pt.slots] at X2 l2 y2 z2 st2 hQ2
        subst l2 y2 z2
        obtain ⟨b14, b15, k16, bz_b14, bz_b15, bn2_0, rfl, N2q, K2c, Fq2_0, Fq2_1, Fq2_2, Fq2_3⟩ := hQ2
        have N2 := Fr.app N1 N2q
        obtain ⟨T3, h3, X3, e3, E3, A3, D3, -, st3⟩ := newO X2 hx hZ hown (tw hw 34 rfl) (tw hw 35 rfl) (tw hw 36 rfl) rfl (g := (mkF m 46 #[iv p0s, iv p1s, iv p2s, iv p3s, iv p4s, iv 1, rv b6, rv b14, rv b6, .unset, .unset] [])) rfl (hb hby at_46) (by decide) (by decide)
        obtain ⟨b17, g3⟩ : ∃ z, z = T2.heap.size := ⟨_, rfl⟩
        rw [← g3] at A3 D3 st3
        have Fn4 : Fld Z h3 b17 "com/example/qedbox/qedbox/Keyword" "domain" "Ljava/lang/String;" .null := D3 (Or.inr (tw hw 59 rfl)) (ty := (.object "java/lang/String")) (by decide)
        have Fn5 : Fld Z h3 b17 "com/example/qedbox/qedbox/Keyword" "value" "Ljava/lang/String;" .null := D3 (Or.inr (tw hw 61 rfl)) (ty := (.object "java/lang/String")) (by decide)
        have F2_7 : Exa Z T2.heap b6 "java/lang/String" := Fq1_0.keep K2c
        have F3_8 : Exa Z h3 b6 "java/lang/String" := F2_7.ext E3
        have F2_9 : Fld Z T2.heap b6 "java/lang/String" "value" "[B" (.ref b7) := Fq1_2.keep K2c nin0
        have F3_10 : Fld Z h3 b6 "java/lang/String" "value" "[B" (.ref b7) := F2_9.ext E3
        have F2_11 : Fld Z T2.heap b6 "java/lang/String" "coder" "B" (.int 0) := Fq1_1.keep K2c nin0
        have F3_12 : Fld Z h3 b6 "java/lang/String" "coder" "B" (.int 0) := F2_11.ext E3
        have F2_13 : Arv Z T2.heap b7 k8 .byte (2 : Int32) (((([(nar .char ((p1s &&& (255 : Int32)).toUInt32.toUInt16.toUInt32.toInt32)), (nar .char ((p2s &&& (255 : Int32)).toUInt32.toUInt16.toUInt32.toInt32))] : List Int32)).map (fun c => c.toInt8.toInt32)).map Value.int) (.int (0 : Int32)) := Fq1_3.keep K2c nin0
        have F3_14 : Arv Z h3 b7 k8 .byte (2 : Int32) (((([(nar .char ((p1s &&& (255 : Int32)).toUInt32.toUInt16.toUInt32.toInt32)), (nar .char ((p2s &&& (255 : Int32)).toUInt32.toUInt16.toUInt32.toInt32))] : List Int32)).map (fun c => c.toInt8.toInt32)).map Value.int) (.int (0 : Int32)) := F2_13.ext E3
        have F3_15 : Exa Z h3 b14 "java/lang/String" := Fq2_0.ext E3
        have F3_16 : Fld Z h3 b14 "java/lang/String" "value" "[B" (.ref b15) := Fq2_2.ext E3
        have F3_17 : Fld Z h3 b14 "java/lang/String" "coder" "B" (.int 0) := Fq2_1.ext E3
        have F3_18 : Arv Z h3 b15 k16 .byte (1 : Int32) (((([(nar .char ((p3s &&& (255 : Int32)).toUInt32.toUInt16.toUInt32.toInt32))] : List Int32)).map (fun c => c.toInt8.toInt32)).map Value.int) (.int (0 : Int32)) := Fq2_3.ext E3
        have Z2 : n0 ≤ T2.heap.size := Nat.le_trans Z1 K2c.1
        have g_b17 : n0 ≤ b17 := Nat.le_trans Z2 (Nat.le_of_eq g3.symm)
        have Z3 : n0 ≤ h3.size := Nat.le_trans Z2 E3.1
        obtain ⟨_, _, ⟨T6, L6, k6x, n6⟩, -, X6, hS6, hgr6, ⟨Lc6, hQ6, l6, y6, z6⟩, st6⟩ := X3.specialBackS hx (y := (⟨"com/example/qedbox/qedbox/Keyword", "<init>", "(Ljava/lang/String;Ljava/lang/String;)V"⟩ : MethodName)) rfl hown (mvT hZ (tw hw 37 rfl)) (mvT hZ (tw hw 38 rfl)) (mvT hZ (tw hw 39 rfl)) (by decide) (backOfS (W := 1) (rm8_15 l Z a0 hw [] b17 b6 b14 b7 k8 p1s p2s b15 k16 p3s h3 n0 Z3 F3_8 F3_10 F3_12 F3_14 F3_15 F3_16 F3_17 F3_18 A3 Fn4 Fn5 g_b17) hZ (tw hw 39 rfl) (tw hw 36 rfl) (by decide) (by decide)) (g := (mkF m 54 #[iv p0s, iv p1s, iv p2s, iv p3s, iv p4s, iv 1, rv b6, rv b14, rv b6, .unset, .unset] [(.ref b14), (.ref b6), (.ref b17), (.ref b17)])) rfl (by rw [hml]; rfl) (Steps.refl _) (a := b17) (argsL := [(.ref b6), (.ref b14)]) (rest := [(.ref b17)]) (lenOf pd_5 rfl) rfl (by show 2 * 0 + _ ≤ _; exact Nat.le_of_eq rfl) (hb hby at_54) (fun _ _ => ⟨rfl, e3, (by decide : 7 + 2 ≤ _), (by decide : 16 + 24 ≤ _)⟩)
        dsimp only [Pt.U, Pt.locs, Pt.cells, Pt.slots] at X6 l6 y6 z6 st6 hQ6 hS6 hgr6
        subst l6 y6 z6
        have hZ6 : Z.Warmed39 (s.setVm T6.vm).vm := State.Warmed39.trans hZ hS6.1
        have hown6 : (s.setVm T6.vm).vm.findClass "com/example/qedbox/qedbox/KeywordHasDomainPinLaw" = some m.cls := (hS6.1.alike.findClass _ _).trans hown
        obtain ⟨rfl, N6q, K6c, Fq6_0, Fq6_1, Fq6_2⟩ := hQ6
        have N6 := Fr.app N2 N6q
        have hk6 : T6.heap.size ≤ T6.heap.size := Nat.le_refl _
        have Z6 : n0 ≤ T6.heap.size := Nat.le_trans Z3 K6c.1
        obtain ⟨cq19, kq19, q19a, q19b, q19c⟩ := isOf hZ6 rfl Fq6_0
        obtain ⟨_, _, ⟨T19, L19, k19x, n19⟩, -, X19, ⟨Lc19, hQ19, l19, y19, z19⟩, st19⟩ := X6.virtualBack hx (y := (⟨"com/example/qedbox/qedbox/Keyword", "hasDomain", "()Z"⟩ : MethodName)) (z := (⟨"com/example/qedbox/qedbox/Keyword", "hasDomain", "()Z"⟩ : MethodName)) hown6 (mvT hZ6 (tw hw 62 rfl)) (mvT hZ6 (tw hw 63 rfl)) (notFace_of_selects (args := #[]) (mvT hZ6 (tw hw 65 rfl))) (mvT hZ6 (tw hw 65 rfl)) (mvT hZ6 (tw hw 64 rfl)) (by decide) (backOf (W := 0) (rm12_12 l Z a0 hw [] b17 b6 T6.heap n0 Z6 Fq6_1) hZ6 (tw hw 66 rfl) (tw hw 36 rfl) (by decide) (by decide)) q19a q19c (g := (mkF m 61 #[iv p0s, iv p1s, iv p2s, iv p3s, iv p4s, iv 1, rv b6, rv b14, rv b6, rv b17, .unset] [(.ref b17)])) rfl (by rw [hml]; rfl) (Steps.refl _) (argsL := []) (rest := []) (lenOf pd_4 rfl) rfl (by show 2 * 0 + _ ≤ _; exact Nat.le_of_eq rfl) (hb hby at_61) (fun _ _ => ⟨rfl, rfl, (by decide : 9 + 0 ≤ _), (by decide : 40 + 0 ≤ _)⟩)
        dsimp only [Pt.U, Pt.locs, Pt.cells, Pt.slots] at X19 l19 y19 z19 st19 hQ19
        subst l19 y19 z19
        obtain ⟨rfl, N19q, e19⟩ := hQ19
        have N19 := Fr.app N6 N19q
        obtain ⟨cq20, kq20, q20a, q20b, q20c⟩ := isOf hZ6 e19 Fq6_0
        obtain ⟨_, _, ⟨T20, L20, k20x, n20⟩, -, X20, ⟨Lc20, hQ20, l20, y20, z20⟩, st20⟩ := X19.virtualBack hx (y := (⟨"com/example/qedbox/qedbox/Keyword", "domain", "()Ljava/lang/String;"⟩ : MethodName)) (z := (⟨"com/example/qedbox/qedbox/Keyword", "domain", "()Ljava/lang/String;"⟩ : MethodName)) hown6 (mvT hZ6 (tw hw 67 rfl)) (mvT hZ6 (tw hw 68 rfl)) (notFace_of_selects (args := #[]) (mvT hZ6 (tw hw 70 rfl))) (mvT hZ6 (tw hw 70 rfl)) (mvT hZ6 (tw hw 69 rfl)) (by decide) (backOf (W := 1) (rm13_13 l Z a0 hw [] b17 b6 T6.heap n0 Z6 Fq6_1) hZ6 (tw hw 71 rfl) (tw hw 36 rfl) (by decide) (by decide)) q20a q20c (g := (mkF m 77 #[iv p0s, iv p1s, iv p2s, iv p3s, iv p4s, iv 1, rv b6, rv b14, rv b6, rv b17, iv 1] [(.ref b17), (.int 1)])) rfl (by rw [hml]; rfl) (Steps.refl _) (argsL := []) (rest := [(.int 1)]) (lenOf pd_6 rfl) rfl (by show 2 * 0 + _ ≤ _; exact Nat.le_of_eq rfl) (hb hby at_77) (fun _ _ => ⟨rfl, e19, (by decide : 9 + 0 ≤ _), (by decide : 40 + 0 ≤ _)⟩)
        dsimp only [Pt.U, Pt.locs, Pt.cells, Pt.slots] at X20 l20 y20 z20 st20 hQ20
        subst l20 y20 z20
        obtain ⟨rfl, N20q, e20⟩ := hQ20
        have N20 := Fr.app N19 N20q
        obtain ⟨fs, hr, hrun, hended, hRW⟩ := X20.leaveW hS6 (by rw [e20]; exact hk6) (v := some (.int (1 : Int32))) (fun h => by rw [hre] at h; cases h)
        refine ⟨_, _, pre0 _ (pre1 _ (pre2 _ (pre3 _ (?_)))), hrun, hended, _, _, rfl, ?_, hRW.1, hRW.2.1, hRW.2.2.1, hRW.2.2.2.mono (by decide) (by decide)⟩
        · show SF p e below T1 (mkF m 29 #[iv p0s, iv p1s, iv p2s, iv p3s, iv p4s, iv 1, rv b6, .unset, .unset, .unset, .unset] [(.int p4s), (.int p3s), (.int ((p0s.toUInt32 >>> ((2 : Int32) &&& 31).toUInt32).toInt32))]) _
          refine st2 _ ?_
          show SF p e below T2 (mkF m 32 #[iv p0s, iv p1s, iv p2s, iv p3s, iv p4s, iv 1, rv b6, .unset, .unset, .unset, .unset] [(.ref b14)]) _
          refine XS.astore X2.here hx rfl (hb hby at_32) rfl rfl (l' := #[iv p0s, iv p1s, iv p2s, iv p3s, iv p4s, iv 1, rv b6, rv b14, .unset, .unset, .unset]) rfl ?_
          refine XS.aconstNull X2.here hx rfl (hb hby at_34) ?_
          show SF p e below T2 (mkF m 35 #[iv p0s, iv p1s, iv p2s, iv p3s, iv p4s, iv 1, rv b6, rv b14, .unset, .unset, .unset] [.null]) _
          refine XS.astore X2.here hx rfl (hb hby at_35) rfl rfl (l' := #[iv p0s, iv p1s, iv p2s, iv p3s, iv p4s, iv 1, rv b6, rv b14, .val .null, .unset, .unset]) rfl ?_
          refine XS.iload X2.here hx rfl (hb hby at_37) rfl ?_
          show SF p e below T2 (mkF m 39 #[iv p0s, iv p1s, iv p2s, iv p3s, iv p4s, iv 1, rv b6, rv b14, .val .null, .unset, .unset] [(.int 1)]) _
          refine XS.ifNo X2.here hx rfl (hb hby at_39) rfl ((if0 _ _).trans (feq (by decide : ¬ ((1 : Int32) = (0 : Int32)))).1) ?_
          show SF p e below T2 (mkF m 42 #[iv p0s, iv p1s, iv p2s, iv p3s, iv p4s, iv 1, rv b6, rv b14, .val .null, .unset, .unset] []) _
          refine XS.aload X2.here hx rfl (hb hby at_42) rfl rfl ?_
          refine XS.astore X2.here hx rfl (hb hby at_44) rfl rfl (l' := #[iv p0s, iv p1s, iv p2s, iv p3s, iv p4s, iv 1, rv b6, rv b14, rv b6, .unset, .unset]) rfl ?_
          show SF p e below T2 (mkF m 46 #[iv p0s, iv p1s, iv p2s, iv p3s, iv p4s, iv 1, rv b6, rv b14, rv b6, .unset, .unset] []) _
          refine st3 _ ?_
          show SF p e below T3 (mkF m 49 #[iv p0s, iv p1s, iv p2s, iv p3s, iv p4s, iv 1, rv b6, rv b14, rv b6, .unset, .unset] [(.ref b17)]) _
          refine XS.dup X3.here hx rfl (hb hby at_49) rfl rfl ?_
          refine XS.aload X3.here hx rfl (hb hby at_50) rfl rfl ?_
          show SF p e below T3 (mkF m 52 #[iv p0s, iv p1s, iv p2s, iv p3s, iv p4s, iv 1, rv b6, rv b14, rv b6, .unset, .unset] [(.ref b6), (.ref b17), (.ref b17)]) _
          refine XS.aload X3.here hx rfl (hb hby at_52) rfl rfl ?_
          show SF p e below T3 (mkF m 54 #[iv p0s, iv p1s, iv p2s, iv p3s, iv p4s, iv 1, rv b6, rv b14, rv b6, .unset, .unset] [(.ref b14), (.ref b6), (.ref b17), (.ref b17)]) _
          refine st6.trans ?_
          show SF p e below T6 (mkF m 57 #[iv p0s, iv p1s, iv p2s, iv p3s, iv p4s, iv 1, rv b6, rv b14, rv b6, .unset, .unset] [(.ref b17)]) _
          refine XS.astore X6.here hx rfl (hb hby at_57) rfl rfl (l' := #[iv p0s, iv p1s, iv p2s, iv p3s, iv p4s, iv 1, rv b6, rv b14, rv b6, rv b17, .unset]) rfl ?_
          refine XS.aload X6.here hx rfl (hb hby at_59) rfl rfl ?_
          show SF p e below T6 (mkF m 61 #[iv p0s, iv p1s, iv p2s, iv p3s, iv p4s, iv 1, rv b6, rv b14, rv b6, rv b17, .unset] [(.ref b17)]) _
          refine st19.trans ?_
          show SF p e below T19 (mkF m 64 #[iv p0s, iv p1s, iv p2s, iv p3s, iv p4s, iv 1, rv b6, rv b14, rv b6, rv b17, .unset] [(.int 1)]) _
          refine XS.istore X19.here hx rfl (hb hby at_64) rfl (l' := #[iv p0s, iv p1s, iv p2s, iv p3s, iv p4s, iv 1, rv b6, rv b14, rv b6, rv b17, iv 1]) rfl ?_
          refine XS.iload X19.here hx rfl (hb hby at_66) rfl ?_
          show SF p e below T19 (mkF m 68 #[iv p0s, iv p1s, iv p2s, iv p3s, iv p4s, iv 1, rv b6, rv b14, rv b6, rv b17, iv 1] [(.int 1)]) _
          refine XS.iload X19.here hx rfl (hb hby at_68) rfl ?_
          show SF p e below T19 (mkF m 70 #[iv p0s, iv p1s, iv p2s, iv p3s, iv p4s, iv 1, rv b6, rv b14, rv b6, rv b17, iv 1] [(.int 1), (.int 1)]) _
          refine XS.icmpNo X19.here hx rfl (hb hby at_70) rfl (teq (by decide : (1 : Int32) = (1 : Int32))).2 ?_
          show SF p e below T19 (mkF m 73 #[iv p0s, iv p1s, iv p2s, iv p3s, iv p4s, iv 1, rv b6, rv b14, rv b6, rv b17, iv 1] []) _
          refine XS.iload X19.here hx rfl (hb hby at_73) rfl ?_
          refine XS.aload X19.here hx rfl (hb hby at_75) rfl rfl ?_
          show SF p e below T19 (mkF m 77 #[iv p0s, iv p1s, iv p2s, iv p3s, iv p4s, iv 1, rv b6, rv b14, rv b6, rv b17, iv 1] [(.ref b17), (.int 1)]) _
          refine st20.trans ?_
          show SF p e below T20 (mkF m 80 #[iv p0s, iv p1s, iv p2s, iv p3s, iv p4s, iv 1, rv b6, rv b14, rv b6, rv b17, iv 1] [(.ref b6), (.int 1)]) _
          refine XS.ifnullNo X20.here hx rfl (hb hby at_80) rfl ?_
          show SF p e below T20 (mkF m 83 #[iv p0s, iv p1s, iv p2s, iv p3s, iv p4s, iv 1, rv b6, rv b14, rv b6, rv b17, iv 1] [(.int 1)]) _
          refine XS.iconst X20.here hx rfl (hb hby at_83) ?_
          refine XS.goto X20.here hx rfl (pc0 := 84) (pc' := 88) rfl (hb hby at_84) (by decide) (by decide) ?_
          show SF p e below T20 (mkF m 88 #[iv p0s, iv p1s, iv p2s, iv p3s, iv p4s, iv 1, rv b6, rv b14, rv b6, rv b17, iv 1] [(.int 1), (.int 1)]) _
          refine XS.icmpNo X20.here hx rfl (hb hby at_88) rfl (teq (by decide : (1 : Int32) = (1 : Int32))).2 ?_
          show SF p e below T20 (mkF m 91 #[iv p0s, iv p1s, iv p2s, iv p3s, iv p4s, iv 1, rv b6, rv b14, rv b6, rv b17, iv 1] []) _
          refine XS.iconst X20.here hx rfl (hb hby at_91) ?_
          refine XS.goto X20.here hx rfl (pc0 := 92) (pc' := 96) rfl (hb hby at_92) (by decide) (by decide) ?_
          show SF p e below T20 (mkF m 96 #[iv p0s, iv p1s, iv p2s, iv p3s, iv p4s, iv 1, rv b6, rv b14, rv b6, rv b17, iv 1] [(.int 1)]) _
          exact retN X20 hx (t := .boolean) hre (by simp) (hb hby at_96) hr
        · exact ⟨rfl, N20⟩
      · have O1 : Old Z n0 T1.heap := O0.keep K1c all0
        have Z1 : n0 ≤ T1.heap.size := Nat.le_trans Z0 K1c.1
        obtain ⟨_, _, ⟨T2, L2, k2x, n2⟩, -, X2, ⟨Lc2, hQ2, l2, y2, z2⟩, st2⟩ := Jvm.LawKit.callS X1 hx (y := (⟨"com/example/qedbox/qedbox/KeywordHasDomainPinLaw", "draw", "(III)Ljava/lang/String;"⟩ : MethodName)) hown (mvT hZ (tw hw 0 rfl)) (mvT hZ (tw hw 1 rfl)) (mvT hZ (tw hw 2 rfl)) (mvT hZ (tw hw 3 rfl)) (by decide) (backOf (W := 0) (rm1_8 l Z a0 hw [] p0s p3s p4s GC T1.heap n0 Z1 hc3 Sg0 O1 nzGC) hZ (tw hw 3 rfl) (tw hw 2 rfl) (by decide) (by decide)) (g := (mkF m 29 #[iv p0s, iv p1s, iv p2s, iv p3s, iv p4s, iv 1, rv b6, .unset, .unset, .unset, .unset] [(.int p4s), (.int p3s), (.int ((p0s.toUInt32 >>> ((2 : Int32) &&& 31).toUInt32).toInt32))])) rfl (by rw [hml]; rfl) (argsL := [(.int ((p0s.toUInt32 >>> ((2 : Int32) &&& 31).toUInt32).toInt32)), (.int p3s), (.int p4s)]) (rest := []) (lenOf pd_1 rfl) rfl (by show 2 * 0 + _ ≤ _; exact Nat.le_of_eq rfl) (hb hby at_29) (fun _ _ => ⟨rfl, rfl, (by decide : 3 + 3 ≤ _), (by decide : 8 + 8 ≤ _)⟩)
        dsimp only [Pt.U, Pt.locs, Pt.cells, Pt.slots] at X2 l2 y2 z2 st2 hQ2
        subst l2 y2 z2
        obtain ⟨b14, b15, k16, bz_b14, bz_b15, bn2_0, rfl, N2q, K2c, Fq2_0, Fq2_1, Fq2_2, Fq2_3⟩ := hQ2
        have N2 := Fr.app N1 N2q
        obtain ⟨T3, h3, X3, e3, E3, A3, D3, -, st3⟩ := newO X2 hx hZ hown (tw hw 34 rfl) (tw hw 35 rfl) (tw hw 36 rfl) rfl (g := (mkF m 46 #[iv p0s, iv p1s, iv p2s, iv p3s, iv p4s, iv 1, rv b6, rv b14, rv b6, .unset, .unset] [])) rfl (hb hby at_46) (by decide) (by decide)
        obtain ⟨b17, g3⟩ : ∃ z, z = T2.heap.size := ⟨_, rfl⟩
        rw [← g3] at A3 D3 st3
        have Fn4 : Fld Z h3 b17 "com/example/qedbox/qedbox/Keyword" "domain" "Ljava/lang/String;" .null := D3 (Or.inr (tw hw 59 rfl)) (ty := (.object "java/lang/String")) (by decide)
        have Fn5 : Fld Z h3 b17 "com/example/qedbox/qedbox/Keyword" "value" "Ljava/lang/String;" .null := D3 (Or.inr (tw hw 61 rfl)) (ty := (.object "java/lang/String")) (by decide)
        have F2_7 : Exa Z T2.heap b6 "java/lang/String" := Fq1_0.keep K2c
        have F3_8 : Exa Z h3 b6 "java/lang/String" := F2_7.ext E3
        have F2_9 : Fld Z T2.heap b6 "java/lang/String" "value" "[B" (.ref b7) := Fq1_2.keep K2c nin0
        have F3_10 : Fld Z h3 b6 "java/lang/String" "value" "[B" (.ref b7) := F2_9.ext E3
        have F2_11 : Fld Z T2.heap b6 "java/lang/String" "coder" "B" (.int 0) := Fq1_1.keep K2c nin0
        have F3_12 : Fld Z h3 b6 "java/lang/String" "coder" "B" (.int 0) := F2_11.ext E3
        have F2_13 : Arv Z T2.heap b7 k8 .byte (2 : Int32) (((([(nar .char ((p1s &&& (255 : Int32)).toUInt32.toUInt16.toUInt32.toInt32)), (nar .char ((p2s &&& (255 : Int32)).toUInt32.toUInt16.toUInt32.toInt32))] : List Int32)).map (fun c => c.toInt8.toInt32)).map Value.int) (.int (0 : Int32)) := Fq1_3.keep K2c nin0
        have F3_14 : Arv Z h3 b7 k8 .byte (2 : Int32) (((([(nar .char ((p1s &&& (255 : Int32)).toUInt32.toUInt16.toUInt32.toInt32)), (nar .char ((p2s &&& (255 : Int32)).toUInt32.toUInt16.toUInt32.toInt32))] : List Int32)).map (fun c => c.toInt8.toInt32)).map Value.int) (.int (0 : Int32)) := F2_13.ext E3
        have F3_15 : Exa Z h3 b14 "java/lang/String" := Fq2_0.ext E3
        have F3_16 : Fld Z h3 b14 "java/lang/String" "value" "[B" (.ref b15) := Fq2_2.ext E3
        have F3_17 : Fld Z h3 b14 "java/lang/String" "coder" "B" (.int 0) := Fq2_1.ext E3
        have F3_18 : Arv Z h3 b15 k16 .byte (2 : Int32) (((([(nar .char ((p3s &&& (255 : Int32)).toUInt32.toUInt16.toUInt32.toInt32)), (nar .char ((p4s &&& (255 : Int32)).toUInt32.toUInt16.toUInt32.toInt32))] : List Int32)).map (fun c => c.toInt8.toInt32)).map Value.int) (.int (0 : Int32)) := Fq2_3.ext E3
        have Z2 : n0 ≤ T2.heap.size := Nat.le_trans Z1 K2c.1
        have g_b17 : n0 ≤ b17 := Nat.le_trans Z2 (Nat.le_of_eq g3.symm)
        have Z3 : n0 ≤ h3.size := Nat.le_trans Z2 E3.1
        obtain ⟨_, _, ⟨T6, L6, k6x, n6⟩, -, X6, hS6, hgr6, ⟨Lc6, hQ6, l6, y6, z6⟩, st6⟩ := X3.specialBackS hx (y := (⟨"com/example/qedbox/qedbox/Keyword", "<init>", "(Ljava/lang/String;Ljava/lang/String;)V"⟩ : MethodName)) rfl hown (mvT hZ (tw hw 37 rfl)) (mvT hZ (tw hw 38 rfl)) (mvT hZ (tw hw 39 rfl)) (by decide) (backOfS (W := 1) (rm8_16 l Z a0 hw [] b17 b6 b14 b7 k8 p1s p2s b15 k16 p3s p4s h3 n0 Z3 F3_8 F3_10 F3_12 F3_14 F3_15 F3_16 F3_17 F3_18 A3 Fn4 Fn5 g_b17) hZ (tw hw 39 rfl) (tw hw 36 rfl) (by decide) (by decide)) (g := (mkF m 54 #[iv p0s, iv p1s, iv p2s, iv p3s, iv p4s, iv 1, rv b6, rv b14, rv b6, .unset, .unset] [(.ref b14), (.ref b6), (.ref b17), (.ref b17)])) rfl (by rw [hml]; rfl) (Steps.refl _) (a := b17) (argsL := [(.ref b6), (.ref b14)]) (rest := [(.ref b17)]) (lenOf pd_5 rfl) rfl (by show 2 * 0 + _ ≤ _; exact Nat.le_of_eq rfl) (hb hby at_54) (fun _ _ => ⟨rfl, e3, (by decide : 7 + 2 ≤ _), (by decide : 18 + 24 ≤ _)⟩)
        dsimp only [Pt.U, Pt.locs, Pt.cells, Pt.slots] at X6 l6 y6 z6 st6 hQ6 hS6 hgr6
        subst l6 y6 z6
        have hZ6 : Z.Warmed39 (s.setVm T6.vm).vm := State.Warmed39.trans hZ hS6.1
        have hown6 : (s.setVm T6.vm).vm.findClass "com/example/qedbox/qedbox/KeywordHasDomainPinLaw" = some m.cls := (hS6.1.alike.findClass _ _).trans hown
        obtain ⟨rfl, N6q, K6c, Fq6_0, Fq6_1, Fq6_2⟩ := hQ6
        have N6 := Fr.app N2 N6q
        have hk6 : T6.heap.size ≤ T6.heap.size := Nat.le_refl _
        have Z6 : n0 ≤ T6.heap.size := Nat.le_trans Z3 K6c.1
        obtain ⟨cq19, kq19, q19a, q19b, q19c⟩ := isOf hZ6 rfl Fq6_0
        obtain ⟨_, _, ⟨T19, L19, k19x, n19⟩, -, X19, ⟨Lc19, hQ19, l19, y19, z19⟩, st19⟩ := X6.virtualBack hx (y := (⟨"com/example/qedbox/qedbox/Keyword", "hasDomain", "()Z"⟩ : MethodName)) (z := (⟨"com/example/qedbox/qedbox/Keyword", "hasDomain", "()Z"⟩ : MethodName)) hown6 (mvT hZ6 (tw hw 62 rfl)) (mvT hZ6 (tw hw 63 rfl)) (notFace_of_selects (args := #[]) (mvT hZ6 (tw hw 65 rfl))) (mvT hZ6 (tw hw 65 rfl)) (mvT hZ6 (tw hw 64 rfl)) (by decide) (backOf (W := 0) (rm12_12 l Z a0 hw [] b17 b6 T6.heap n0 Z6 Fq6_1) hZ6 (tw hw 66 rfl) (tw hw 36 rfl) (by decide) (by decide)) q19a q19c (g := (mkF m 61 #[iv p0s, iv p1s, iv p2s, iv p3s, iv p4s, iv 1, rv b6, rv b14, rv b6, rv b17, .unset] [(.ref b17)])) rfl (by rw [hml]; rfl) (Steps.refl _) (argsL := []) (rest := []) (lenOf pd_4 rfl) rfl (by show 2 * 0 + _ ≤ _; exact Nat.le_of_eq rfl) (hb hby at_61) (fun _ _ => ⟨rfl, rfl, (by decide : 9 + 0 ≤ _), (by decide : 42 + 0 ≤ _)⟩)
        dsimp only [Pt.U, Pt.locs, Pt.cells, Pt.slots] at X19 l19 y19 z19 st19 hQ19
        subst l19 y19 z19
        obtain ⟨rfl, N19q, e19⟩ := hQ19
        have N19 := Fr.app N6 N19q
        obtain ⟨cq20, kq20, q20a, q20b, q20c⟩ := isOf hZ6 e19 Fq6_0
        obtain ⟨_, _, ⟨T20, L20, k20x, n20⟩, -, X20, ⟨Lc20, hQ20, l20, y20, z20⟩, st20⟩ := X19.virtualBack hx (y := (⟨"com/example/qedbox/qedbox/Keyword", "domain", "()Ljava/lang/String;"⟩ : MethodName)) (z := (⟨"com/example/qedbox/qedbox/Keyword", "domain", "()Ljava/lang/String;"⟩ : MethodName)) hown6 (mvT hZ6 (tw hw 67 rfl)) (mvT hZ6 (tw hw 68 rfl)) (notFace_of_selects (args := #[]) (mvT hZ6 (tw hw 70 rfl))) (mvT hZ6 (tw hw 70 rfl)) (mvT hZ6 (tw hw 69 rfl)) (by decide) (backOf (W := 1) (rm13_13 l Z a0 hw [] b17 b6 T6.heap n0 Z6 Fq6_1) hZ6 (tw hw 71 rfl) (tw hw 36 rfl) (by decide) (by decide)) q20a q20c (g := (mkF m 77 #[iv p0s, iv p1s, iv p2s, iv p3s, iv p4s, iv 1, rv b6, rv b14, rv b6, rv b17, iv 1] [(.ref b17), (.int 1)])) rfl (by rw [hml]; rfl) (Steps.refl _) (argsL := []) (rest := [(.int 1)]) (lenOf pd_6 rfl) rfl (by show 2 * 0 + _ ≤ _; exact Nat.le_of_eq rfl) (hb hby at_77) (fun _ _ => ⟨rfl, e19, (by decide : 9 + 0 ≤ _), (by decide : 42 + 0 ≤ _)⟩)
        dsimp only [Pt.U, Pt.locs, Pt.cells, Pt.slots] at X20 l20 y20 z20 st20 hQ20
        subst l20 y20 z20
        obtain ⟨rfl, N20q, e20⟩ := hQ20
        have N20 := Fr.app N19 N20q
        obtain ⟨fs, hr, hrun, hended, hRW⟩ := X20.leaveW hS6 (by rw [e20]; exact hk6) (v := some (.int (1 : Int32))) (fun h => by rw [hre] at h; cases h)
        refine ⟨_, _, pre0 _ (pre1 _ (pre2 _ (pre3 _ (?_)))), hrun, hended, _, _, rfl, ?_, hRW.1, hRW.2.1, hRW.2.2.1, hRW.2.2.2.mono (by decide) (by decide)⟩
        · show SF p e below T1 (mkF m 29 #[iv p0s, iv p1s, iv p2s, iv p3s, iv p4s, iv 1, rv b6, .unset, .unset, .unset, .unset] [(.int p4s), (.int p3s), (.int ((p0s.toUInt32 >>> ((2 : Int32) &&& 31).toUInt32).toInt32))]) _
          refine st2 _ ?_
          show SF p e below T2 (mkF m 32 #[iv p0s, iv p1s, iv p2s, iv p3s, iv p4s, iv 1, rv b6, .unset, .unset, .unset, .unset] [(.ref b14)]) _
          refine XS.astore X2.here hx rfl (hb hby at_32) rfl rfl (l' := #[iv p0s, iv p1s, iv p2s, iv p3s, iv p4s, iv 1, rv b6, rv b14, .unset, .unset, .unset]) rfl ?_
          refine XS.aconstNull X2.here hx rfl (hb hby at_34) ?_
          show SF p e below T2 (mkF m 35 #[iv p0s, iv p1s, iv p2s, iv p3s, iv p4s, iv 1, rv b6, rv b14, .unset, .unset, .unset] [.null]) _
          refine XS.astore X2.here hx rfl (hb hby at_35) rfl rfl (l' := #[iv p0s, iv p1s, iv p2s, iv p3s, iv p4s, iv 1, rv b6, rv b14, .val .null, .unset, .unset]) rfl ?_
          refine XS.iload X2.here hx rfl (hb hby at_37) rfl ?_
          show SF p e below T2 (mkF m 39 #[iv p0s, iv p1s, iv p2s, iv p3s, iv p4s, iv 1, rv b6, rv b14, .val .null, .unset, .unset] [(.int 1)]) _
          refine XS.ifNo X2.here hx rfl (hb hby at_39) rfl ((if0 _ _).trans (feq (by decide : ¬ ((1 : Int32) = (0 : Int32)))).1) ?_
          show SF p e below T2 (mkF m 42 #[iv p0s, iv p1s, iv p2s, iv p3s, iv p4s, iv 1, rv b6, rv b14, .val .null, .unset, .unset] []) _
          refine XS.aload X2.here hx rfl (hb hby at_42) rfl rfl ?_
          refine XS.astore X2.here hx rfl (hb hby at_44) rfl rfl (l' := #[iv p0s, iv p1s, iv p2s, iv p3s, iv p4s, iv 1, rv b6, rv b14, rv b6, .unset, .unset]) rfl ?_
          show SF p e below T2 (mkF m 46 #[iv p0s, iv p1s, iv p2s, iv p3s, iv p4s, iv 1, rv b6, rv b14, rv b6, .unset, .unset] []) _
          refine st3 _ ?_
          show SF p e below T3 (mkF m 49 #[iv p0s, iv p1s, iv p2s, iv p3s, iv p4s, iv 1, rv b6, rv b14, rv b6, .unset, .unset] [(.ref b17)]) _
          refine XS.dup X3.here hx rfl (hb hby at_49) rfl rfl ?_
          refine XS.aload X3.here hx rfl (hb hby at_50) rfl rfl ?_
          show SF p e below T3 (mkF m 52 #[iv p0s, iv p1s, iv p2s, iv p3s, iv p4s, iv 1, rv b6, rv b14, rv b6, .unset, .unset] [(.ref b6), (.ref b17), (.ref b17)]) _
          refine XS.aload X3.here hx rfl (hb hby at_52) rfl rfl ?_
          show SF p e below T3 (mkF m 54 #[iv p0s, iv p1s, iv p2s, iv p3s, iv p4s, iv 1, rv b6, rv b14, rv b6, .unset, .unset] [(.ref b14), (.ref b6), (.ref b17), (.ref b17)]) _
          refine st6.trans ?_
          show SF p e below T6 (mkF m 57 #[iv p0s, iv p1s, iv p2s, iv p3s, iv p4s, iv 1, rv b6, rv b14, rv b6, .unset, .unset] [(.ref b17)]) _
          refine XS.astore X6.here hx rfl (hb hby at_57) rfl rfl (l' := #[iv p0s, iv p1s, iv p2s, iv p3s, iv p4s, iv 1, rv b6, rv b14, rv b6, rv b17, .unset]) rfl ?_
          refine XS.aload X6.here hx rfl (hb hby at_59) rfl rfl ?_
          show SF p e below T6 (mkF m 61 #[iv p0s, iv p1s, iv p2s, iv p3s, iv p4s, iv 1, rv b6, rv b14, rv b6, rv b17, .unset] [(.ref b17)]) _
          refine st19.trans ?_
          show SF p e below T19 (mkF m 64 #[iv p0s, iv p1s, iv p2s, iv p3s, iv p4s, iv 1, rv b6, rv b14, rv b6, rv b17, .unset] [(.int 1)]) _
          refine XS.istore X19.here hx rfl (hb hby at_64) rfl (l' := #[iv p0s, iv p1s, iv p2s, iv p3s, iv p4s, iv 1, rv b6, rv b14, rv b6, rv b17, iv 1]) rfl ?_
          refine XS.iload X19.here hx rfl (hb hby at_66) rfl ?_
          show SF p e below T19 (mkF m 68 #[iv p0s, iv p1s, iv p2s, iv p3s, iv p4s, iv 1, rv b6, rv b14, rv b6, rv b17, iv 1] [(.int 1)]) _
          refine XS.iload X19.here hx rfl (hb hby at_68) rfl ?_
          show SF p e below T19 (mkF m 70 #[iv p0s, iv p1s, iv p2s, iv p3s, iv p4s, iv 1, rv b6, rv b14, rv b6, rv b17, iv 1] [(.int 1), (.int 1)]) _
          refine XS.icmpNo X19.here hx rfl (hb hby at_70) rfl (teq (by decide : (1 : Int32) = (1 : Int32))).2 ?_
          show SF p e below T19 (mkF m 73 #[iv p0s, iv p1s, iv p2s, iv p3s, iv p4s, iv 1, rv b6, rv b14, rv b6, rv b17, iv 1] []) _
          refine XS.iload X19.here hx rfl (hb hby at_73) rfl ?_
          refine XS.aload X19.here hx rfl (hb hby at_75) rfl rfl ?_
          show SF p e below T19 (mkF m 77 #[iv p0s, iv p1s, iv p2s, iv p3s, iv p4s, iv 1, rv b6, rv b14, rv b6, rv b17, iv 1] [(.ref b17), (.int 1)]) _
          refine st20.trans ?_
          show SF p e below T20 (mkF m 80 #[iv p0s, iv p1s, iv p2s, iv p3s, iv p4s, iv 1, rv b6, rv b14, rv b6, rv b17, iv 1] [(.ref b6), (.int 1)]) _
          refine XS.ifnullNo X20.here hx rfl (hb hby at_80) rfl ?_
          show SF p e below T20 (mkF m 83 #[iv p0s, iv p1s, iv p2s, iv p3s, iv p4s, iv 1, rv b6, rv b14, rv b6, rv b17, iv 1] [(.int 1)]) _
          refine XS.iconst X20.here hx rfl (hb hby at_83) ?_
          refine XS.goto X20.here hx rfl (pc0 := 84) (pc' := 88) rfl (hb hby at_84) (by decide) (by decide) ?_
          show SF p e below T20 (mkF m 88 #[iv p0s, iv p1s, iv p2s, iv p3s, iv p4s, iv 1, rv b6, rv b14, rv b6, rv b17, iv 1] [(.int 1), (.int 1)]) _
          refine XS.icmpNo X20.here hx rfl (hb hby at_88) rfl (teq (by decide : (1 : Int32) = (1 : Int32))).2 ?_
          show SF p e below T20 (mkF m 91 #[iv p0s, iv p1s, iv p2s, iv p3s, iv p4s, iv 1, rv b6, rv b14, rv b6, rv b17, iv 1] []) _
          refine XS.iconst X20.here hx rfl (hb hby at_91) ?_
          refine XS.goto X20.here hx rfl (pc0 := 92) (pc' := 96) rfl (hb hby at_92) (by decide) (by decide) ?_
          show SF p e below T20 (mkF m 96 #[iv p0s, iv p1s, iv p2s, iv p3s, iv p4s, iv 1, rv b6, rv b14, rv b6, rv b17, iv 1] [(.int 1)]) _
          exact retN X20 hx (t := .boolean) hre (by simp) (hb hby at_96) hr
        · exact ⟨rfl, N20⟩
set_option maxRecDepth 65536 in
set_option maxHeartbeats 40000000 in
theorem comes_1 {Post : Tables → Env → Array Value → State → Outcome → State → Prop} (hpost : ∀ tb e args s v u, (limb_1_1.after args s (.returned v) u = true ∧ limb_1_2.after args s (.returned v) u = true ∧ True) → ReturnedEndW s (.returned v) u (Jvm.fieldLocs frame_1_writes args s ++ Jvm.arrayLocs frame_1_arrays args s ++ Jvm.staticLocs frame_1_statics s) 24 1152 → Post tb e args s (.returned v) u) :
    ArmFor flags0 classFile x code maxLocals ret World_1 tables_1 room_1 Calls_1 rest_1 Pre_1 Post := by
  intro l hfl _ _ p e ha hc hk s m args below hf hA hF happ hP
  obtain ⟨hcalls, hrest, hpre⟩ := hP
  obtain ⟨-, -, -, hnamed, -, -, -, hat⟩ := (Spec.applies_iff hf).mp happ
  obtain ⟨hg, hn⟩ := and_e (Cond.before_iff.mp (show (Jvm.Cond.and given_1 narrow_1).before args s = true from hpre))
  obtain ⟨gv0, gr0⟩ := and_e hg
  obtain ⟨gv1, gr1⟩ := and_e gr0
  obtain ⟨gv2, gr2⟩ := and_e gr1
  obtain ⟨gv3, gr3⟩ := and_e gr2
  obtain ⟨gv4, gr4⟩ := and_e gr3
  have gv5 := gr4
  obtain ⟨av0, av1, av2, av3, av4, rfl⟩ : ∃ av0 av1 av2 av3 av4 : Value, args = #[av0, av1, av2, av3, av4] := by
    have hs : args.size = 5 := by simpa [Cond.value, given_1] using gv0
    obtain ⟨L⟩ := args
    match L, hs with
    | [av0, av1, av2, av3, av4], _ => exact ⟨av0, av1, av2, av3, av4, rfl⟩
  have hw := fun d (hd : d ∈ tables_1) => atoms_spec (ws := Jvm.Cond.code x code maxLocals ret :: tables_1) hat d (List.mem_cons_of_mem _ hd)
  have hfit : Fit s := fun {y c} hc i hi => by
    obtain ⟨ha, rfl⟩ := Array.getElem?_eq_some_iff.mp hc
    have q := List.all_eq_true.mp ((Array.all_eq_true_iff_forall_mem.mp hF) _ (Array.getElem_mem ha)) i (List.mem_range.mpr hi)
    simpa [Array.getElem?_eq_getElem hi] using q
  obtain ⟨hsets, hown0⟩ := atoms_of _ (rest_1_c_eq ▸ (show rest_1_c.before _ s = true from hrest))
  obtain ⟨p0s, ei0⟩ := is_v gv1
  obtain rfl : av0 = (.int p0s) := Option.some.inj ei0
  obtain ⟨p1s, ei1⟩ := is_v gv2
  obtain rfl : av1 = (.int p1s) := Option.some.inj ei1
  obtain ⟨p2s, ei2⟩ := is_v gv3
  obtain rfl : av2 = (.int p2s) := Option.some.inj ei2
  obtain ⟨p3s, ei3⟩ := is_v gv4
  obtain rfl : av3 = (.int p3s) := Option.some.inj ei3
  obtain ⟨p4s, ei4⟩ := is_v gv5
  obtain rfl : av4 = (.int p4s) := Option.some.inj ei4
  obtain ⟨GC, evGC⟩ := is_v (Cond.before_iff.mp (hsets _ (List.mem_of_getElem? (i := 1) rfl)))
  have Sg0 : Sta s s.heap "java/lang/String" "COMPACT_STRINGS" "Z" (.int GC) := Sta.start evGC (Or.inl (hsets _ (List.mem_of_getElem? (i := 0) rfl)))
  obtain ⟨GF, evGF, rGF⟩ := isR_v (Cond.before_iff.mp (hsets _ (List.mem_of_getElem? (i := 8) rfl)))
  have Sg1 : Sta s s.heap "jdk/internal/util/Preconditions" "SIOOBE_FORMATTER" "Ljava/util/function/BiFunction;" GF := Sta.start evGF (Or.inl (hsets _ (List.mem_of_getElem? (i := 7) rfl)))
  have nzGC : ¬ (GC = (0 : Int32)) := gotF (Cond.eq_ints evGC (Term.int_eval (0))) (not_v (Cond.before_iff.mp (hsets _ (List.mem_of_getElem? (i := 2) rfl))))
  have O0 := Old.start s
  obtain ⟨n, o, h1, h2, h3, _, L, rfl, ⟨rfl, N⟩, hq⟩ := rm0 l s _ hw tables_1 p0s p1s p2s p3s p4s GC GF s.heap s.heap.size (Nat.le_refl _) O0 Sg0 Sg1 rGF nzGC p e ha hc hk s m _ below hf ((Spec.applies_iff_loose hf).mp happ).1 ⟨rfl, State.Warmed39.refl s, rfl⟩ trivial
  refine ⟨n, _, h1, h2, h3, hpost _ _ _ _ _ _ ⟨Cond.after_iff.mpr rfl, Cond.after_iff.mpr (eq_i res_at (Term.int_eval (1)) rfl), trivial⟩ ⟨hq.1, hq.2.1, hq.2.2.1, (hq.2.2.2.sift fun y hy => Or.inr (N y hy)).mono (by decide) (by decide)⟩⟩
theorem main_1_1 : Claimed_1_1 := comes_1 fun _ _ _ _ _ _ h hF => ⟨h.1, hF⟩
theorem main_1_2 : Claimed_1_2 := comes_1 fun _ _ _ _ _ _ h hF => ⟨h.2.1, hF⟩
end Jvm.Pilot.@@N@@
namespace Jvm.Pilot.@@N@@
open Jvm Jvm.ClassFile Sem Op Lib Jvm.Free Jvm.Stand Jvm.Pilot.@@N@@.Jvm.D
/-! MADE BY PROGRAM (witnessworld.py) out of the Statement's table words and the real class files: 22 classes; the members and pool entries that the words name. The judged class is class 1, her method 2. -/
namespace start1
open Jvm.ClassFile
def u (s : String) : CpInfo := .utf8 (stringToUtf16 s)
/-- a pool by its gaps: so many unusable entries, then the entry; so many at the end -/
def gap : Nat → List CpInfo → List CpInfo
  | 0, r => r
  | n + 1, r => .unusable :: gap n r
def poolList (es : List (Nat × CpInfo)) (last : Nat) : List CpInfo := es.foldr (fun e r => gap e.1 (e.2 :: r)) (gap last [])
def pool (es : List (Nat × CpInfo)) (last : Nat) : Array CpInfo := ⟨poolList es last⟩
def fileOf (pool : Array CpInfo) (this : Nat) (attrs : Array Attribute := #[]) (ms : Array MethodInfo := #[]) (fl : Nat := 33) (sup : Nat := 0) (ifs : Array Nat := #[]) (fds : Array FieldInfo := #[]) : ClassFile where
  minorVersion := 0
  majorVersion := 65
  constantPool := pool
  accessFlags := fl
  thisClass := this
  superClass := sup
  interfaces := ifs
  fields := fds
  methods := ms
  attributes := attrs
def plain (name : String) (sup : Option ClassId) : Class where
  name := name
  kind := .ordinary
  loader := none
  accessFlags := 33
  super := sup
  interfaces := #[]
  cf := none
  fields := #[]
  methods := #[]
  instanceTypes := #[]
  staticTypes := #[]
  resolved := #[]
  callSites := []
  init := .initialized
  statics := none
  mirror := none

def pool0 : Array CpInfo := pool [(5, u "<init>"), (0, u "()V"), (1, .class_ 10), (1, u "java/lang/Object")] 113

def k0c0 : Code := { maxStack := 0, maxLocals := 1, code := object_method_1_code, exceptionTable := #[], attributes := #[] }
def k0m0 : Method := { name := "<init>", desc := "()V", sig := { parameters := [], returnType := none }, accessFlags := 1, code := some k0c0 }
/-- java/lang/Object -/
def k0 : Class := { plain "java/lang/Object" none with
  accessFlags := 33
  interfaces := #[]
  cf := some (fileOf pool0 8 #[] #[{ accessFlags := 1, nameIndex := 5, descriptorIndex := 6, attributes := #[] }] 33 0 #[] #[])
  fields := #[]
  methods := #[k0m0]
  instanceTypes := #[]
  staticTypes := #[]
  resolved := Array.replicate 124 none
  statics := none }

def pool1 : Array CpInfo := pool [(2, .class_ 4), (1, u "java/lang/Object"), (0, u "<init>"), (0, u "()V"), (0, .class_ 8), (0, u "java/lang/String"), (0, .methodref 7 10), (0, .nameAndType 5 11), (0, u "([C)V"), (0, .methodref 13 14), (0, .class_ 15), (0, .nameAndType 16 17), (0, u "com/example/qedbox/qedbox/KeywordHasDomainPinLaw"), (0, u "draw"), (0, u "(III)Ljava/lang/String;"), (0, .class_ 19), (0, u "com/example/qedbox/qedbox/Keyword"), (0, .methodref 18 21), (0, .nameAndType 5 22), (0, u "(Ljava/lang/String;Ljava/lang/String;)V"), (0, .methodref 18 24), (0, .nameAndType 25 26), (0, u "hasDomain"), (0, u "()Z"), (0, .methodref 18 28), (0, .nameAndType 29 30), (0, u "domain"), (0, u "()Ljava/lang/String;"), (3, u "law"), (0, u "(IIIII)Z")] 2

def k1m0 : Method := { name := "<init>", desc := "()V", sig := { parameters := [], returnType := none }, accessFlags := 2, code := none }
def k1c1 : Code := { maxStack := 6, maxLocals := 5, code := method_2_code, exceptionTable := #[], attributes := #[] }
def k1m1 : Method := { name := "draw", desc := "(III)Ljava/lang/String;", sig := { parameters := [.int, .int, .int], returnType := some (.object "java/lang/String") }, accessFlags := 10, code := some k1c1 }
def k1c2 : Code := { maxStack := 4, maxLocals := 11, code := code, exceptionTable := #[], attributes := #[] }
def k1m2 : Method := { name := "law", desc := "(IIIII)Z", sig := { parameters := [.int, .int, .int, .int, .int], returnType := some .boolean }, accessFlags := 9, code := some k1c2 }
/-- com/example/qedbox/qedbox/KeywordHasDomainPinLaw -/
def k1 : Class := { plain "com/example/qedbox/qedbox/KeywordHasDomainPinLaw" (some 0) with
  accessFlags := 49
  interfaces := #[]
  cf := some (fileOf pool1 13 #[] #[{ accessFlags := 2, nameIndex := 5, descriptorIndex := 6, attributes := #[] }, { accessFlags := 10, nameIndex := 16, descriptorIndex := 17, attributes := #[] }, { accessFlags := 9, nameIndex := 34, descriptorIndex := 35, attributes := #[] }] 49 2 #[] #[])
  fields := #[]
  methods := #[k1m0, k1m1, k1m2]
  instanceTypes := #[]
  staticTypes := #[]
  resolved := Array.replicate 38 none
  statics := none }

def pool2 : Array CpInfo := pool [(1, .class_ 2), (0, u "java/io/Serializable"), (0, .class_ 4), (0, u "java/lang/Object")] 2

/-- java/io/Serializable -/
def k2 : Class := { plain "java/io/Serializable" (some 0) with
  accessFlags := 1537
  interfaces := #[]
  cf := some (fileOf pool2 1 #[] #[] 1537 3 #[] #[])
  fields := #[]
  methods := #[]
  instanceTypes := #[]
  staticTypes := #[]
  resolved := Array.replicate 7 none
  statics := none }

def pool3 : Array CpInfo := pool [(1, .class_ 2), (0, u "java/lang/Comparable"), (0, .class_ 4), (0, u "java/lang/Object")] 7

/-- java/lang/Comparable -/
def k3 : Class := { plain "java/lang/Comparable" (some 0) with
  accessFlags := 1537
  interfaces := #[]
  cf := some (fileOf pool3 1 #[] #[] 1537 3 #[] #[])
  fields := #[]
  methods := #[]
  instanceTypes := #[]
  staticTypes := #[]
  resolved := Array.replicate 12 none
  statics := none }

def pool4 : Array CpInfo := pool [(2, .class_ 4), (1, u "java/lang/CharSequence"), (42, .class_ 48), (0, u "java/lang/CharSequence$1CodePointIterator"), (10, .class_ 60), (0, u "java/lang/CharSequence$1CharIterator"), (5, .class_ 67), (0, u "java/lang/Object")] 63

/-- java/lang/CharSequence -/
def k4 : Class := { plain "java/lang/CharSequence" (some 0) with
  accessFlags := 1537
  interfaces := #[]
  cf := some (fileOf pool4 2 #[.nestMembers #[47, 59]] #[] 1537 66 #[] #[])
  fields := #[]
  methods := #[]
  instanceTypes := #[]
  staticTypes := #[]
  resolved := Array.replicate 131 none
  statics := none }

def pool5 : Array CpInfo := pool [(1, .class_ 2), (0, u "java/lang/constant/Constable"), (0, .class_ 4), (0, u "java/lang/Object")] 6

/-- java/lang/constant/Constable -/
def k5 : Class := { plain "java/lang/constant/Constable" (some 0) with
  accessFlags := 1537
  interfaces := #[]
  cf := some (fileOf pool5 1 #[] #[] 1537 3 #[] #[])
  fields := #[]
  methods := #[]
  instanceTypes := #[]
  staticTypes := #[]
  resolved := Array.replicate 11 none
  statics := none }

def pool6 : Array CpInfo := pool [(1, .class_ 2), (0, u "java/lang/constant/ConstantDesc"), (0, .class_ 4), (0, u "java/lang/Object")] 32

/-- java/lang/constant/ConstantDesc -/
def k6 : Class := { plain "java/lang/constant/ConstantDesc" (some 0) with
  accessFlags := 1537
  interfaces := #[]
  cf := some (fileOf pool6 1 #[] #[] 1537 3 #[] #[])
  fields := #[]
  methods := #[]
  instanceTypes := #[]
  staticTypes := #[]
  resolved := Array.replicate 37 none
  statics := none }

def pool7 : Array CpInfo := pool [(1, .methodref 2 3), (0, .class_ 4), (0, .nameAndType 5 6), (0, u "java/lang/Object"), (0, u "<init>"), (0, u "()V"), (2, .fieldref 10 11), (0, .class_ 12), (0, .nameAndType 13 14), (0, u "java/lang/String"), (0, u "value"), (0, u "[B"), (0, .fieldref 10 16), (0, .nameAndType 17 18), (0, u "coder"), (0, u "B"), (2, u "hash"), (0, u "I"), (2, u "hashIsZero"), (0, u "Z"), (0, .methodref 10 28), (0, .nameAndType 5 29), (0, u "([CIILjava/lang/Void;)V"), (8, .fieldref 10 39), (0, .nameAndType 40 26), (0, u "COMPACT_STRINGS"), (1, .class_ 44), (1, u "java/lang/StringUTF16"), (0, u "compress"), (1, .methodref 42 48), (0, .nameAndType 49 50), (0, u "coderFromArrayLen"), (0, u "([BI)B"), (91, u "()Z"), (34, .methodref 42 178), (0, .nameAndType 45 179), (0, u "([CII)[B"), (395, .class_ 576), (0, u "java/lang/CharSequence"), (22, u "CASE_INSENSITIVE_ORDER"), (0, u "Ljava/util/Comparator;"), (91, u "isEmpty"), (317, u "([C)V"), (90, u "serialPersistentFields"), (0, u "[Ljava/io/ObjectStreamField;"), (0, .class_ 1104), (0, u "java/lang/String$CaseInsensitiveComparator"), (1, .class_ 1107), (0, u "java/io/Serializable"), (0, .class_ 1109), (0, u "java/lang/Comparable"), (0, .class_ 1111), (0, u "java/lang/constant/Constable"), (0, .class_ 1113), (0, u "java/lang/constant/ConstantDesc"), (2, u "serialVersionUID"), (0, u "J"), (3, u "REPL"), (0, u "C"), (2, u "LATIN1"), (1, u "UTF16")] 323

def k7m0 : Method := { name := "<init>", desc := "()V", sig := { parameters := [], returnType := none }, accessFlags := 1, code := none }
def k7c1 : Code := { maxStack := 5, maxLocals := 2, code := jdk_42_method_3_code, exceptionTable := #[], attributes := #[] }
def k7m1 : Method := { name := "<init>", desc := "([C)V", sig := { parameters := [(.array .char)], returnType := none }, accessFlags := 1, code := some k7c1 }
def k7c2 : Code := { maxStack := 1, maxLocals := 1, code := jdk_42_method_55_code, exceptionTable := #[], attributes := #[] }
def k7m2 : Method := { name := "isEmpty", desc := "()Z", sig := { parameters := [], returnType := some .boolean }, accessFlags := 1, code := some k7c2 }
def k7c3 : Code := { maxStack := 4, maxLocals := 6, code := jdk_42_method_149_code, exceptionTable := #[], attributes := #[] }
def k7m3 : Method := { name := "<init>", desc := "([CIILjava/lang/Void;)V", sig := { parameters := [(.array .char), .int, .int, (.object "java/lang/Void")], returnType := none }, accessFlags := 2, code := some k7c3 }
/-- java/lang/String -/
def k7 : Class := { plain "java/lang/String" (some 0) with
  accessFlags := 49
  interfaces := #[2, 3, 4, 5, 6]
  cf := some (fileOf pool7 10 #[.nestMembers #[1103]] #[{ accessFlags := 1, nameIndex := 5, descriptorIndex := 6, attributes := #[] }, { accessFlags := 1, nameIndex := 5, descriptorIndex := 1010, attributes := #[] }, { accessFlags := 1, nameIndex := 692, descriptorIndex := 142, attributes := #[] }, { accessFlags := 2, nameIndex := 5, descriptorIndex := 29, attributes := #[] }] 49 2 #[1106, 1108, 575, 1110, 1112] #[{ accessFlags := 18, nameIndex := 13, descriptorIndex := 14, attributes := #[] }, { accessFlags := 18, nameIndex := 17, descriptorIndex := 18, attributes := #[] }, { accessFlags := 2, nameIndex := 21, descriptorIndex := 22, attributes := #[] }, { accessFlags := 2, nameIndex := 25, descriptorIndex := 26, attributes := #[] }, { accessFlags := 26, nameIndex := 1116, descriptorIndex := 1117, attributes := #[] }, { accessFlags := 24, nameIndex := 40, descriptorIndex := 26, attributes := #[] }, { accessFlags := 26, nameIndex := 1101, descriptorIndex := 1102, attributes := #[] }, { accessFlags := 26, nameIndex := 1121, descriptorIndex := 1122, attributes := #[] }, { accessFlags := 25, nameIndex := 599, descriptorIndex := 600, attributes := #[] }, { accessFlags := 24, nameIndex := 1125, descriptorIndex := 18, attributes := #[] }, { accessFlags := 24, nameIndex := 1127, descriptorIndex := 18, attributes := #[] }])
  fields := #[{ name := "value", type := (.array .byte), accessFlags := 18, slot := 0, constantValue := 0 }, { name := "coder", type := .byte, accessFlags := 18, slot := 1, constantValue := 0 }, { name := "hash", type := .int, accessFlags := 2, slot := 2, constantValue := 0 }, { name := "hashIsZero", type := .boolean, accessFlags := 2, slot := 3, constantValue := 0 }, { name := "serialVersionUID", type := .long, accessFlags := 26, slot := 0, constantValue := 0 }, { name := "COMPACT_STRINGS", type := .boolean, accessFlags := 24, slot := 1, constantValue := 0 }, { name := "serialPersistentFields", type := (.array (.object "java/io/ObjectStreamField")), accessFlags := 26, slot := 2, constantValue := 0 }, { name := "REPL", type := .char, accessFlags := 26, slot := 3, constantValue := 0 }, { name := "CASE_INSENSITIVE_ORDER", type := (.object "java/util/Comparator"), accessFlags := 25, slot := 4, constantValue := 0 }, { name := "LATIN1", type := .byte, accessFlags := 24, slot := 5, constantValue := 0 }, { name := "UTF16", type := .byte, accessFlags := 24, slot := 6, constantValue := 0 }]
  methods := #[k7m0, k7m1, k7m2, k7m3]
  instanceTypes := #[(.array .byte), .byte, .int, .boolean]
  staticTypes := #[.long, .boolean, (.array (.object "java/io/ObjectStreamField")), .char, (.object "java/util/Comparator"), .byte, .byte]
  resolved := Array.replicate 1451 none
  statics := some 0 }

def pool8 : Array CpInfo := pool [(6, .class_ 8), (1, u "java/lang/Object"), (0, u "<init>"), (0, u "()V"), (1, .class_ 14), (1, u "java/lang/StringUTF16"), (31, u "$assertionsDisabled"), (0, u "Z"), (13, u "HI_BYTE_SHIFT"), (0, u "I"), (2, u "LO_BYTE_SHIFT"), (49, .methodref 12 116), (0, .nameAndType 117 118), (0, u "compress"), (0, u "([CI[BII)I"), (3, u "([CII)[B"), (138, u "coderFromArrayLen"), (0, u "([BI)B"), (106, .class_ 371), (1, u "java/lang/StringUTF16$LinesSpliterator"), (58, u "MAX_LENGTH"), (196, .class_ 628), (0, u "java/lang/StringUTF16$CodePointsSpliterator"), (0, .class_ 630), (0, u "java/lang/StringUTF16$CharsSpliterator")] 4

def k8m0 : Method := { name := "<init>", desc := "()V", sig := { parameters := [], returnType := none }, accessFlags := 0, code := none }
def k8c1 : Code := { maxStack := 2, maxLocals := 2, code := jdk_52_method_15_code, exceptionTable := #[], attributes := #[] }
def k8m1 : Method := { name := "coderFromArrayLen", desc := "([BI)B", sig := { parameters := [(.array .byte), .int], returnType := some .byte }, accessFlags := 8, code := some k8c1 }
def k8c2 : Code := { maxStack := 5, maxLocals := 6, code := jdk_52_method_16_code, exceptionTable := #[], attributes := #[] }
def k8m2 : Method := { name := "compress", desc := "([CII)[B", sig := { parameters := [(.array .char), .int, .int], returnType := some (.array .byte) }, accessFlags := 9, code := some k8c2 }
def k8c3 : Code := { maxStack := 3, maxLocals := 7, code := jdk_52_method_21_code, exceptionTable := #[], attributes := #[] }
def k8m3 : Method := { name := "compress", desc := "([CI[BII)I", sig := { parameters := [(.array .char), .int, (.array .byte), .int, .int], returnType := some .int }, accessFlags := 9, code := some k8c3 }
/-- java/lang/StringUTF16 -/
def k8 : Class := { plain "java/lang/StringUTF16" (some 0) with
  accessFlags := 48
  interfaces := #[]
  cf := some (fileOf pool8 12 #[.nestMembers #[627, 629, 369]] #[{ accessFlags := 0, nameIndex := 9, descriptorIndex := 10, attributes := #[] }, { accessFlags := 8, nameIndex := 261, descriptorIndex := 262, attributes := #[] }, { accessFlags := 9, nameIndex := 117, descriptorIndex := 122, attributes := #[] }, { accessFlags := 9, nameIndex := 117, descriptorIndex := 118, attributes := #[] }] 48 6 #[] #[{ accessFlags := 26, nameIndex := 61, descriptorIndex := 62, attributes := #[] }, { accessFlags := 26, nameIndex := 65, descriptorIndex := 62, attributes := #[] }, { accessFlags := 24, nameIndex := 430, descriptorIndex := 62, attributes := #[] }, { accessFlags := 4120, nameIndex := 46, descriptorIndex := 47, attributes := #[] }])
  fields := #[{ name := "HI_BYTE_SHIFT", type := .int, accessFlags := 26, slot := 0, constantValue := 0 }, { name := "LO_BYTE_SHIFT", type := .int, accessFlags := 26, slot := 1, constantValue := 0 }, { name := "MAX_LENGTH", type := .int, accessFlags := 24, slot := 2, constantValue := 0 }, { name := "$assertionsDisabled", type := .boolean, accessFlags := 4120, slot := 3, constantValue := 0 }]
  methods := #[k8m0, k8m1, k8m2, k8m3]
  instanceTypes := #[]
  staticTypes := #[.int, .int, .int, .boolean]
  resolved := Array.replicate 635 none
  statics := none }

def pool9 : Array CpInfo := pool [(1, .methodref 2 3), (0, .class_ 4), (0, .nameAndType 5 6), (0, u "java/lang/Object"), (0, u "<init>"), (0, u "()V"), (0, .class_ 8), (0, u "java/lang/Record")] 13

def k9c0 : Code := { maxStack := 1, maxLocals := 1, code := jdk_30_method_1_code, exceptionTable := #[], attributes := #[] }
def k9m0 : Method := { name := "<init>", desc := "()V", sig := { parameters := [], returnType := none }, accessFlags := 4, code := some k9c0 }
/-- java/lang/Record -/
def k9 : Class := { plain "java/lang/Record" (some 0) with
  accessFlags := 1057
  interfaces := #[]
  cf := some (fileOf pool9 7 #[] #[{ accessFlags := 4, nameIndex := 5, descriptorIndex := 6, attributes := #[] }] 1057 2 #[] #[])
  fields := #[]
  methods := #[k9m0]
  instanceTypes := #[]
  staticTypes := #[]
  resolved := Array.replicate 22 none
  statics := none }

def pool10 : Array CpInfo := pool [(1, .methodref 2 3), (0, .class_ 4), (0, .nameAndType 5 6), (0, u "java/lang/Record"), (0, u "<init>"), (0, u "()V"), (0, .string 8), (0, u "value"), (0, .methodref 10 11), (0, .class_ 12), (0, .nameAndType 13 14), (0, u "java/util/Objects"), (0, u "requireNonNull"), (0, u "(Ljava/lang/Object;Ljava/lang/String;)Ljava/lang/Object;"), (0, .methodref 16 17), (0, .class_ 18), (0, .nameAndType 19 20), (0, u "java/lang/String"), (0, u "isEmpty"), (0, u "()Z"), (9, .fieldref 31 32), (0, .class_ 33), (0, .nameAndType 34 35), (0, u "com/example/qedbox/qedbox/Keyword"), (0, u "domain"), (0, u "Ljava/lang/String;"), (0, .fieldref 31 37), (0, .nameAndType 8 35), (2, u "(Ljava/lang/String;Ljava/lang/String;)V"), (20, u "hasDomain"), (20, u "()Ljava/lang/String;")] 37

def k10c0 : Code := { maxStack := 3, maxLocals := 3, code := prog_8_method_1_code, exceptionTable := #[], attributes := #[] }
def k10m0 : Method := { name := "<init>", desc := "(Ljava/lang/String;Ljava/lang/String;)V", sig := { parameters := [(.object "java/lang/String"), (.object "java/lang/String")], returnType := none }, accessFlags := 1, code := some k10c0 }
def k10c1 : Code := { maxStack := 1, maxLocals := 1, code := prog_8_method_3_code, exceptionTable := #[], attributes := #[] }
def k10m1 : Method := { name := "hasDomain", desc := "()Z", sig := { parameters := [], returnType := some .boolean }, accessFlags := 1, code := some k10c1 }
def k10c2 : Code := { maxStack := 1, maxLocals := 1, code := prog_8_method_8_code, exceptionTable := #[], attributes := #[] }
def k10m2 : Method := { name := "domain", desc := "()Ljava/lang/String;", sig := { parameters := [], returnType := some (.object "java/lang/String") }, accessFlags := 1, code := some k10c2 }
/-- com/example/qedbox/qedbox/Keyword -/
def k10 : Class := { plain "com/example/qedbox/qedbox/Keyword" (some 9) with
  accessFlags := 49
  interfaces := #[]
  cf := some (fileOf pool10 31 #[] #[{ accessFlags := 1, nameIndex := 5, descriptorIndex := 40, attributes := #[] }, { accessFlags := 1, nameIndex := 61, descriptorIndex := 20, attributes := #[] }, { accessFlags := 1, nameIndex := 34, descriptorIndex := 82, attributes := #[] }] 49 2 #[] #[{ accessFlags := 18, nameIndex := 34, descriptorIndex := 35, attributes := #[] }, { accessFlags := 18, nameIndex := 8, descriptorIndex := 35, attributes := #[] }])
  fields := #[{ name := "domain", type := (.object "java/lang/String"), accessFlags := 18, slot := 0, constantValue := 0 }, { name := "value", type := (.object "java/lang/String"), accessFlags := 18, slot := 1, constantValue := 0 }]
  methods := #[k10m0, k10m1, k10m2]
  instanceTypes := #[(.object "java/lang/String"), (.object "java/lang/String")]
  staticTypes := #[]
  resolved := Array.replicate 120 none
  statics := none }

def pool11 : Array CpInfo := pool [(2, .class_ 4), (1, u "java/lang/Object"), (0, u "<init>"), (0, u "()V"), (35, .class_ 44), (1, u "java/util/Objects"), (0, u "requireNonNull"), (48, u "(Ljava/lang/Object;Ljava/lang/String;)Ljava/lang/Object;")] 89

def k11m0 : Method := { name := "<init>", desc := "()V", sig := { parameters := [], returnType := none }, accessFlags := 2, code := none }
def k11c1 : Code := { maxStack := 3, maxLocals := 2, code := jdk_31_method_11_code, exceptionTable := #[], attributes := #[] }
def k11m1 : Method := { name := "requireNonNull", desc := "(Ljava/lang/Object;Ljava/lang/String;)Ljava/lang/Object;", sig := { parameters := [(.object "java/lang/Object"), (.object "java/lang/String")], returnType := some (.object "java/lang/Object") }, accessFlags := 9, code := some k11c1 }
/-- java/util/Objects -/
def k11 : Class := { plain "java/util/Objects" (some 0) with
  accessFlags := 49
  interfaces := #[]
  cf := some (fileOf pool11 42 #[] #[{ accessFlags := 2, nameIndex := 5, descriptorIndex := 6, attributes := #[] }, { accessFlags := 9, nameIndex := 45, descriptorIndex := 94, attributes := #[] }] 49 2 #[] #[])
  fields := #[]
  methods := #[k11m0, k11m1]
  instanceTypes := #[]
  staticTypes := #[]
  resolved := Array.replicate 184 none
  statics := none }

def pool12 : Array CpInfo := pool [(4, .class_ 6), (1, u "java/lang/Object"), (0, u "<init>"), (0, u "()V"), (5, .class_ 16), (1, u "java/lang/StringLatin1"), (104, u "$assertionsDisabled"), (0, u "Z"), (98, .class_ 223), (1, u "java/lang/StringLatin1$LinesSpliterator"), (166, .class_ 391), (0, u "java/lang/StringLatin1$CharsSpliterator")] 3

def k12m0 : Method := { name := "<init>", desc := "()V", sig := { parameters := [], returnType := none }, accessFlags := 0, code := none }
/-- java/lang/StringLatin1 -/
def k12 : Class := { plain "java/lang/StringLatin1" (some 0) with
  accessFlags := 48
  interfaces := #[]
  cf := some (fileOf pool12 14 #[.nestMembers #[390, 221]] #[{ accessFlags := 0, nameIndex := 7, descriptorIndex := 8, attributes := #[] }] 48 4 #[] #[{ accessFlags := 4120, nameIndex := 121, descriptorIndex := 122, attributes := #[] }])
  fields := #[{ name := "$assertionsDisabled", type := .boolean, accessFlags := 4120, slot := 0, constantValue := 0 }]
  methods := #[k12m0]
  instanceTypes := #[]
  staticTypes := #[.boolean]
  resolved := Array.replicate 395 none
  statics := none }

def pool13 : Array CpInfo := pool [(2, .class_ 4), (1, u "java/lang/Object"), (0, u "<init>"), (0, u "()V"), (17, .class_ 26), (1, u "jdk/internal/util/Preconditions"), (28, .class_ 56), (0, u "jdk/internal/util/Preconditions$4"), (57, .class_ 115), (0, u "jdk/internal/util/Preconditions$1"), (7, u "SIOOBE_FORMATTER"), (0, u "Ljava/util/function/BiFunction;"), (0, .class_ 126), (0, u "jdk/internal/util/Preconditions$2"), (3, u "AIOOBE_FORMATTER"), (0, .class_ 132), (0, u "jdk/internal/util/Preconditions$3"), (3, u "IOOBE_FORMATTER")] 57

def k13m0 : Method := { name := "<init>", desc := "()V", sig := { parameters := [], returnType := none }, accessFlags := 1, code := none }
/-- jdk/internal/util/Preconditions -/
def k13 : Class := { plain "jdk/internal/util/Preconditions" (some 0) with
  accessFlags := 33
  interfaces := #[]
  cf := some (fileOf pool13 24 #[.nestMembers #[55, 131, 125, 114]] #[{ accessFlags := 1, nameIndex := 5, descriptorIndex := 6, attributes := #[] }] 33 2 #[] #[{ accessFlags := 25, nameIndex := 123, descriptorIndex := 124, attributes := #[] }, { accessFlags := 25, nameIndex := 130, descriptorIndex := 124, attributes := #[] }, { accessFlags := 25, nameIndex := 136, descriptorIndex := 124, attributes := #[] }])
  fields := #[{ name := "SIOOBE_FORMATTER", type := (.object "java/util/function/BiFunction"), accessFlags := 25, slot := 0, constantValue := 0 }, { name := "AIOOBE_FORMATTER", type := (.object "java/util/function/BiFunction"), accessFlags := 25, slot := 1, constantValue := 0 }, { name := "IOOBE_FORMATTER", type := (.object "java/util/function/BiFunction"), accessFlags := 25, slot := 2, constantValue := 0 }]
  methods := #[k13m0]
  instanceTypes := #[]
  staticTypes := #[(.object "java/util/function/BiFunction"), (.object "java/util/function/BiFunction"), (.object "java/util/function/BiFunction")]
  resolved := Array.replicate 194 none
  statics := some 1 }

def pool14 : Array CpInfo := pool [(9, u "<init>"), (6, .class_ 18), (1, u "java/lang/Object"), (0, u "()V"), (1, .class_ 23), (1, u "jdk/internal/util/ArraysSupport"), (0, u "LOG2_ARRAY_LONG_INDEX_SCALE"), (0, u "I"), (2, u "U"), (0, u "Ljdk/internal/misc/Unsafe;"), (8, u "BIG_ENDIAN"), (0, u "Z"), (8, u "LOG2_BYTE_BIT_SIZE"), (4, u "LOG2_ARRAY_INT_INDEX_SCALE"), (54, u "JLA"), (0, u "Ljdk/internal/access/JavaLangAccess;"), (11, u "LOG2_ARRAY_BOOLEAN_INDEX_SCALE"), (9, u "LOG2_ARRAY_BYTE_INDEX_SCALE"), (5, u "LOG2_ARRAY_CHAR_INDEX_SCALE"), (5, u "LOG2_ARRAY_SHORT_INDEX_SCALE"), (18, u "LOG2_ARRAY_FLOAT_INDEX_SCALE"), (24, u "LOG2_ARRAY_DOUBLE_INDEX_SCALE"), (89, u "T_BOOLEAN"), (2, u "T_CHAR"), (1, u "T_FLOAT"), (1, u "T_DOUBLE"), (1, u "T_BYTE"), (1, u "T_SHORT"), (1, u "T_INT"), (1, u "T_LONG"), (1, u "SOFT_MAX_ARRAY_LENGTH")] 83

def k14m0 : Method := { name := "<init>", desc := "()V", sig := { parameters := [], returnType := none }, accessFlags := 2, code := none }
/-- jdk/internal/util/ArraysSupport -/
def k14 : Class := { plain "jdk/internal/util/ArraysSupport" (some 0) with
  accessFlags := 33
  interfaces := #[]
  cf := some (fileOf pool14 21 #[] #[{ accessFlags := 2, nameIndex := 9, descriptorIndex := 19, attributes := #[] }] 33 16 #[] #[{ accessFlags := 24, nameIndex := 28, descriptorIndex := 29, attributes := #[] }, { accessFlags := 26, nameIndex := 38, descriptorIndex := 39, attributes := #[] }, { accessFlags := 25, nameIndex := 121, descriptorIndex := 25, attributes := #[] }, { accessFlags := 25, nameIndex := 131, descriptorIndex := 25, attributes := #[] }, { accessFlags := 25, nameIndex := 137, descriptorIndex := 25, attributes := #[] }, { accessFlags := 25, nameIndex := 143, descriptorIndex := 25, attributes := #[] }, { accessFlags := 25, nameIndex := 53, descriptorIndex := 25, attributes := #[] }, { accessFlags := 25, nameIndex := 24, descriptorIndex := 25, attributes := #[] }, { accessFlags := 25, nameIndex := 162, descriptorIndex := 25, attributes := #[] }, { accessFlags := 25, nameIndex := 187, descriptorIndex := 25, attributes := #[] }, { accessFlags := 26, nameIndex := 48, descriptorIndex := 25, attributes := #[] }, { accessFlags := 25, nameIndex := 277, descriptorIndex := 25, attributes := #[] }, { accessFlags := 25, nameIndex := 280, descriptorIndex := 25, attributes := #[] }, { accessFlags := 25, nameIndex := 282, descriptorIndex := 25, attributes := #[] }, { accessFlags := 25, nameIndex := 284, descriptorIndex := 25, attributes := #[] }, { accessFlags := 25, nameIndex := 286, descriptorIndex := 25, attributes := #[] }, { accessFlags := 25, nameIndex := 288, descriptorIndex := 25, attributes := #[] }, { accessFlags := 25, nameIndex := 290, descriptorIndex := 25, attributes := #[] }, { accessFlags := 25, nameIndex := 292, descriptorIndex := 25, attributes := #[] }, { accessFlags := 26, nameIndex := 108, descriptorIndex := 109, attributes := #[] }, { accessFlags := 25, nameIndex := 294, descriptorIndex := 25, attributes := #[] }])
  fields := #[{ name := "U", type := (.object "jdk/internal/misc/Unsafe"), accessFlags := 24, slot := 0, constantValue := 0 }, { name := "BIG_ENDIAN", type := .boolean, accessFlags := 26, slot := 1, constantValue := 0 }, { name := "LOG2_ARRAY_BOOLEAN_INDEX_SCALE", type := .int, accessFlags := 25, slot := 2, constantValue := 0 }, { name := "LOG2_ARRAY_BYTE_INDEX_SCALE", type := .int, accessFlags := 25, slot := 3, constantValue := 0 }, { name := "LOG2_ARRAY_CHAR_INDEX_SCALE", type := .int, accessFlags := 25, slot := 4, constantValue := 0 }, { name := "LOG2_ARRAY_SHORT_INDEX_SCALE", type := .int, accessFlags := 25, slot := 5, constantValue := 0 }, { name := "LOG2_ARRAY_INT_INDEX_SCALE", type := .int, accessFlags := 25, slot := 6, constantValue := 0 }, { name := "LOG2_ARRAY_LONG_INDEX_SCALE", type := .int, accessFlags := 25, slot := 7, constantValue := 0 }, { name := "LOG2_ARRAY_FLOAT_INDEX_SCALE", type := .int, accessFlags := 25, slot := 8, constantValue := 0 }, { name := "LOG2_ARRAY_DOUBLE_INDEX_SCALE", type := .int, accessFlags := 25, slot := 9, constantValue := 0 }, { name := "LOG2_BYTE_BIT_SIZE", type := .int, accessFlags := 26, slot := 10, constantValue := 0 }, { name := "T_BOOLEAN", type := .int, accessFlags := 25, slot := 11, constantValue := 0 }, { name := "T_CHAR", type := .int, accessFlags := 25, slot := 12, constantValue := 0 }, { name := "T_FLOAT", type := .int, accessFlags := 25, slot := 13, constantValue := 0 }, { name := "T_DOUBLE", type := .int, accessFlags := 25, slot := 14, constantValue := 0 }, { name := "T_BYTE", type := .int, accessFlags := 25, slot := 15, constantValue := 0 }, { name := "T_SHORT", type := .int, accessFlags := 25, slot := 16, constantValue := 0 }, { name := "T_INT", type := .int, accessFlags := 25, slot := 17, constantValue := 0 }, { name := "T_LONG", type := .int, accessFlags := 25, slot := 18, constantValue := 0 }, { name := "JLA", type := (.object "jdk/internal/access/JavaLangAccess"), accessFlags := 26, slot := 19, constantValue := 0 }, { name := "SOFT_MAX_ARRAY_LENGTH", type := .int, accessFlags := 25, slot := 20, constantValue := 0 }]
  methods := #[k14m0]
  instanceTypes := #[]
  staticTypes := #[(.object "jdk/internal/misc/Unsafe"), .boolean, .int, .int, .int, .int, .int, .int, .int, .int, .int, .int, .int, .int, .int, .int, .int, .int, .int, (.object "jdk/internal/access/JavaLangAccess"), .int]
  resolved := Array.replicate 378 none
  statics := none }

def pool15 : Array CpInfo := pool [(1, u "java/lang/Cloneable"), (0, .class_ 1), (0, u "java/lang/Object"), (0, .class_ 3)] 3

/-- java/lang/Cloneable -/
def k15 : Class := { plain "java/lang/Cloneable" (some 0) with
  accessFlags := 1537
  interfaces := #[]
  cf := some (fileOf pool15 2 #[] #[] 1537 4 #[] #[])
  fields := #[]
  methods := #[]
  instanceTypes := #[]
  staticTypes := #[]
  resolved := Array.replicate 8 none
  statics := none }

/-- the primitive byte -/
def k16 : Class := { plain "byte" none with kind := .primitive 'B', accessFlags := 0x411 }
/-- [B -/
def k17 : Class := { plain "[B" (some 0) with kind := .array 16 .byte, interfaces := #[15, 2], accessFlags := 1041 }

/-- the primitive char -/
def k18 : Class := { plain "char" none with kind := .primitive 'C', accessFlags := 0x411 }
/-- [C -/
def k19 : Class := { plain "[C" (some 0) with kind := .array 18 .char, interfaces := #[15, 2], accessFlags := 1041 }

/-- the primitive int -/
def k20 : Class := { plain "int" none with kind := .primitive 'I', accessFlags := 0x411 }
/-- [I -/
def k21 : Class := { plain "[I" (some 0) with kind := .array 20 .int, interfaces := #[15, 2], accessFlags := 1041 }

def heap : Heap := #[{ cls := 7, slots := #[.long 0, .int 1, .null, .int 0, .null, .int 0, .int 0], vm := .statics 7 },
  { cls := 13, slots := #[.null, .null, .null], vm := .statics 13 }]
def classes : Array Class := #[k0, k1, k2, k3, k4, k5, k6, k7, k8, k9, k10, k11, k12, k13, k14, k15, k16, k17, k18, k19, k20, k21]
def interned : List (Array UInt16 × Addr) := []
def slotsUsed : Nat := 10
def theMethod : MethodId := ⟨1, 2⟩
def args0 : Array Value := #[.int 5, .int 6, .int 7, .int 8, .int 9]
def aboutOver (below : List Frame) : State where
  vm := { classes := classes, interned := interned.toArray }
  heap := heap
  slotsUsed := slotsUsed
  threads := #[{ frames := .invoking theMethod args0 :: below }]
def below0 : List Frame := [.native { method := ⟨0, 0⟩, args := #[] }]
def about1 : State := aboutOver below0
def p0 : Program := .bare "" "" ""
def e0 : Env := launch0.env 0 0 0
theorem w_frames : about1.frames = Frame.invoking theMethod args0 :: below0 := rfl
set_option maxRecDepth 65536 in
theorem w_args : argsFit about1.vm theMethod args0 = true := by decide +kernel
set_option maxRecDepth 65536 in
theorem w_heap : heapFits about1 = true := by decide +kernel
set_option maxRecDepth 65536 in
theorem w_runnable : about1.curStatus? = some .runnable := by decide +kernel
set_option maxRecDepth 65536 in
theorem w_alone : about1.alone = true := by decide +kernel
set_option maxRecDepth 65536 in
theorem w_named : about1.methodNamed? x = some theMethod := by decide +kernel
set_option maxRecDepth 65536 in
theorem w_hears : about1.hears theMethod below0 = true := by decide +kernel
set_option maxRecDepth 65536 in
theorem w_ripe : about1.ripe theMethod args0 below0 = true := by decide +kernel
theorem w_running : about1.status = .running := rfl
set_option maxRecDepth 65536 in
theorem w_room : about1.hasRoom e0.platform room_1 = true :=
  launch0.hasRoom_least _ room_1 (by decide +kernel) (by decide +kernel) (by decide +kernel) (by decide +kernel) (by decide +kernel) (by decide +kernel)
theorem allAtoms_all (ts : List Jvm.Cond) (a : Array Jvm.Value) (st : Jvm.State) : (allAtoms ts).before a st = ts.all (fun c => c.before a st) := by
  induction ts with
  | nil => rfl
  | cons c t ih =>
    show (Jvm.Cond.and c (allAtoms t)).before a st = _
    rw [Jvm.Cond.before_and, ih, List.all_cons]
def words1 : List Jvm.Cond := Jvm.Cond.code x code maxLocals ret :: tables_1
/-- a 'code' word, met by the world's own term for the bytes: nothing is compared byte by byte -/
theorem code_word {y : MethodName} {bytes : ByteArray} {mx : Nat} {rt : Option FieldType} {a : Array Value} {s : State} {m : MethodId} {meth : Method} {c : Code} (h1 : s.methodNamed? y = some m) (h2 : s.vm.method? m = some meth) (h3 : meth.code = some c) (h4 : c.code = bytes)
    (h5 : (c.maxLocals == mx && c.exceptionTable.isEmpty && decide (c.maxStack ≤ mostOperands) && decide (meth.sig.returnType = rt) && !meth.locks && decide (parseMethodDescriptor y.desc = some meth.sig)) = true) : (Jvm.Cond.code y bytes mx rt).before a s = true := by
  simp only [Bool.and_eq_true, beq_iff_eq, Bool.not_eq_true', decide_eq_true_eq] at h5
  obtain ⟨⟨⟨⟨⟨g1, g2⟩, g3⟩, g4⟩, g5⟩, g6⟩ := h5
  simp [Cond.before, Cond.holds, Cond.value, h1, h2, h3, h4, g1, g2, g3, g4, g5, g6]
def isCode : Jvm.Cond → Bool
  | .code _ _ _ _ => true
  | _ => false
theorem all_split {L : List Jvm.Cond} {P : Jvm.Cond → Bool} (h1 : L.all (fun c => isCode c || P c) = true) (h2 : ∀ c ∈ L.filter isCode, P c = true) : L.all P = true := by
  refine List.all_eq_true.mpr fun c hc => ?_
  have h := List.all_eq_true.mp h1 c hc
  rcases Bool.eq_false_or_eq_true (isCode c) with hi | hi
  · exact h2 c (List.mem_filter.mpr ⟨hc, hi⟩)
  · simpa [hi] using h
set_option maxRecDepth 65536 in
theorem w_c0 : (Jvm.Cond.code x code maxLocals ret).before args0 about1 = true := code_word (m := ⟨1, 2⟩) (meth := k1m2) (c := k1c2) (by decide +kernel) rfl rfl rfl (by decide +kernel)
set_option maxRecDepth 65536 in
theorem w_c1 : (Jvm.Cond.code ({ cls := "com/example/qedbox/qedbox/KeywordHasDomainPinLaw", name := "draw", desc := "(III)Ljava/lang/String;" } : Jvm.MethodName) method_2_code (5 : Nat) (Option.some (Jvm.ClassFile.FieldType.object "java/lang/String"))).before args0 about1 = true := code_word (m := ⟨1, 1⟩) (meth := k1m1) (c := k1c1) (by decide +kernel) rfl rfl rfl (by decide +kernel)
set_option maxRecDepth 65536 in
theorem w_c2 : (Jvm.Cond.code ({ cls := "java/lang/String", name := "<init>", desc := "([C)V" } : Jvm.MethodName) jdk_42_method_3_code (2 : Nat) (Option.none : Option Jvm.ClassFile.FieldType)).before args0 about1 = true := code_word (m := ⟨7, 1⟩) (meth := k7m1) (c := k7c1) (by decide +kernel) rfl rfl rfl (by decide +kernel)
set_option maxRecDepth 65536 in
theorem w_c3 : (Jvm.Cond.code ({ cls := "java/lang/String", name := "<init>", desc := "([CIILjava/lang/Void;)V" } : Jvm.MethodName) jdk_42_method_149_code (6 : Nat) (Option.none : Option Jvm.ClassFile.FieldType)).before args0 about1 = true := code_word (m := ⟨7, 3⟩) (meth := k7m3) (c := k7c3) (by decide +kernel) rfl rfl rfl (by decide +kernel)
set_option maxRecDepth 65536 in
theorem w_c4 : (Jvm.Cond.code ({ cls := "java/lang/Object", name := "<init>", desc := "()V" } : Jvm.MethodName) object_method_1_code (1 : Nat) (Option.none : Option Jvm.ClassFile.FieldType)).before args0 about1 = true := code_word (m := ⟨0, 0⟩) (meth := k0m0) (c := k0c0) (by decide +kernel) rfl rfl rfl (by decide +kernel)
set_option maxRecDepth 65536 in
theorem w_c5 : (Jvm.Cond.code ({ cls := "java/lang/StringUTF16", name := "compress", desc := "([CII)[B" } : Jvm.MethodName) jdk_52_method_16_code (6 : Nat) (Option.some (Jvm.ClassFile.FieldType.array Jvm.ClassFile.FieldType.byte))).before args0 about1 = true := code_word (m := ⟨8, 2⟩) (meth := k8m2) (c := k8c2) (by decide +kernel) rfl rfl rfl (by decide +kernel)
set_option maxRecDepth 65536 in
theorem w_c6 : (Jvm.Cond.code ({ cls := "java/lang/StringUTF16", name := "compress", desc := "([CI[BII)I" } : Jvm.MethodName) jdk_52_method_21_code (7 : Nat) (Option.some Jvm.ClassFile.FieldType.int)).before args0 about1 = true := code_word (m := ⟨8, 3⟩) (meth := k8m3) (c := k8c3) (by decide +kernel) rfl rfl rfl (by decide +kernel)
set_option maxRecDepth 65536 in
theorem w_c7 : (Jvm.Cond.code ({ cls := "java/lang/StringUTF16", name := "coderFromArrayLen", desc := "([BI)B" } : Jvm.MethodName) jdk_52_method_15_code (2 : Nat) (Option.some Jvm.ClassFile.FieldType.byte)).before args0 about1 = true := code_word (m := ⟨8, 1⟩) (meth := k8m1) (c := k8c1) (by decide +kernel) rfl rfl rfl (by decide +kernel)
set_option maxRecDepth 65536 in
theorem w_c8 : (Jvm.Cond.code ({ cls := "com/example/qedbox/qedbox/Keyword", name := "<init>", desc := "(Ljava/lang/String;Ljava/lang/String;)V" } : Jvm.MethodName) prog_8_method_1_code (3 : Nat) (Option.none : Option Jvm.ClassFile.FieldType)).before args0 about1 = true := code_word (m := ⟨10, 0⟩) (meth := k10m0) (c := k10c0) (by decide +kernel) rfl rfl rfl (by decide +kernel)
set_option maxRecDepth 65536 in
theorem w_c9 : (Jvm.Cond.code ({ cls := "java/lang/Record", name := "<init>", desc := "()V" } : Jvm.MethodName) jdk_30_method_1_code (1 : Nat) (Option.none : Option Jvm.ClassFile.FieldType)).before args0 about1 = true := code_word (m := ⟨9, 0⟩) (meth := k9m0) (c := k9c0) (by decide +kernel) rfl rfl rfl (by decide +kernel)
set_option maxRecDepth 65536 in
theorem w_c10 : (Jvm.Cond.code ({ cls := "java/util/Objects", name := "requireNonNull", desc := "(Ljava/lang/Object;Ljava/lang/String;)Ljava/lang/Object;" } : Jvm.MethodName) jdk_31_method_11_code (2 : Nat) (Option.some (Jvm.ClassFile.FieldType.object "java/lang/Object"))).before args0 about1 = true := code_word (m := ⟨11, 1⟩) (meth := k11m1) (c := k11c1) (by decide +kernel) rfl rfl rfl (by decide +kernel)
set_option maxRecDepth 65536 in
theorem w_c11 : (Jvm.Cond.code ({ cls := "java/lang/String", name := "isEmpty", desc := "()Z" } : Jvm.MethodName) jdk_42_method_55_code (1 : Nat) (Option.some Jvm.ClassFile.FieldType.boolean)).before args0 about1 = true := code_word (m := ⟨7, 2⟩) (meth := k7m2) (c := k7c2) (by decide +kernel) rfl rfl rfl (by decide +kernel)
set_option maxRecDepth 65536 in
theorem w_c12 : (Jvm.Cond.code ({ cls := "com/example/qedbox/qedbox/Keyword", name := "hasDomain", desc := "()Z" } : Jvm.MethodName) prog_8_method_3_code (1 : Nat) (Option.some Jvm.ClassFile.FieldType.boolean)).before args0 about1 = true := code_word (m := ⟨10, 1⟩) (meth := k10m1) (c := k10c1) (by decide +kernel) rfl rfl rfl (by decide +kernel)
set_option maxRecDepth 65536 in
theorem w_c13 : (Jvm.Cond.code ({ cls := "com/example/qedbox/qedbox/Keyword", name := "domain", desc := "()Ljava/lang/String;" } : Jvm.MethodName) prog_8_method_8_code (1 : Nat) (Option.some (Jvm.ClassFile.FieldType.object "java/lang/String"))).before args0 about1 = true := code_word (m := ⟨10, 2⟩) (meth := k10m2) (c := k10c2) (by decide +kernel) rfl rfl rfl (by decide +kernel)
def codes1 : List Jvm.Cond := [Jvm.Cond.code x code maxLocals ret, Jvm.Cond.code ({ cls := "com/example/qedbox/qedbox/KeywordHasDomainPinLaw", name := "draw", desc := "(III)Ljava/lang/String;" } : Jvm.MethodName) method_2_code (5 : Nat) (Option.some (Jvm.ClassFile.FieldType.object "java/lang/String")), Jvm.Cond.code ({ cls := "java/lang/String", name := "<init>", desc := "([C)V" } : Jvm.MethodName) jdk_42_method_3_code (2 : Nat) (Option.none : Option Jvm.ClassFile.FieldType), Jvm.Cond.code ({ cls := "java/lang/String", name := "<init>", desc := "([CIILjava/lang/Void;)V" } : Jvm.MethodName) jdk_42_method_149_code (6 : Nat) (Option.none : Option Jvm.ClassFile.FieldType), Jvm.Cond.code ({ cls := "java/lang/Object", name := "<init>", desc := "()V" } : Jvm.MethodName) object_method_1_code (1 : Nat) (Option.none : Option Jvm.ClassFile.FieldType), Jvm.Cond.code ({ cls := "java/lang/StringUTF16", name := "compress", desc := "([CII)[B" } : Jvm.MethodName) jdk_52_method_16_code (6 : Nat) (Option.some (Jvm.ClassFile.FieldType.array Jvm.ClassFile.FieldType.byte)), Jvm.Cond.code ({ cls := "java/lang/StringUTF16", name := "compress", desc := "([CI[BII)I" } : Jvm.MethodName) jdk_52_method_21_code (7 : Nat) (Option.some Jvm.ClassFile.FieldType.int), Jvm.Cond.code ({ cls := "java/lang/StringUTF16", name := "coderFromArrayLen", desc := "([BI)B" } : Jvm.MethodName) jdk_52_method_15_code (2 : Nat) (Option.some Jvm.ClassFile.FieldType.byte), Jvm.Cond.code ({ cls := "com/example/qedbox/qedbox/Keyword", name := "<init>", desc := "(Ljava/lang/String;Ljava/lang/String;)V" } : Jvm.MethodName) prog_8_method_1_code (3 : Nat) (Option.none : Option Jvm.ClassFile.FieldType), Jvm.Cond.code ({ cls := "java/lang/Record", name := "<init>", desc := "()V" } : Jvm.MethodName) jdk_30_method_1_code (1 : Nat) (Option.none : Option Jvm.ClassFile.FieldType), Jvm.Cond.code ({ cls := "java/util/Objects", name := "requireNonNull", desc := "(Ljava/lang/Object;Ljava/lang/String;)Ljava/lang/Object;" } : Jvm.MethodName) jdk_31_method_11_code (2 : Nat) (Option.some (Jvm.ClassFile.FieldType.object "java/lang/Object")), Jvm.Cond.code ({ cls := "java/lang/String", name := "isEmpty", desc := "()Z" } : Jvm.MethodName) jdk_42_method_55_code (1 : Nat) (Option.some Jvm.ClassFile.FieldType.boolean), Jvm.Cond.code ({ cls := "com/example/qedbox/qedbox/Keyword", name := "hasDomain", desc := "()Z" } : Jvm.MethodName) prog_8_method_3_code (1 : Nat) (Option.some Jvm.ClassFile.FieldType.boolean), Jvm.Cond.code ({ cls := "com/example/qedbox/qedbox/Keyword", name := "domain", desc := "()Ljava/lang/String;" } : Jvm.MethodName) prog_8_method_8_code (1 : Nat) (Option.some (Jvm.ClassFile.FieldType.object "java/lang/String"))]
set_option maxRecDepth 65536 in
theorem codes_eq : words1.filter isCode = codes1 := rfl
theorem w_codes : ∀ c ∈ words1.filter isCode, c.before args0 about1 = true := by
  rw [codes_eq]
  intro c hc
  simp only [codes1, List.mem_cons, List.not_mem_nil, or_false] at hc
  rcases hc with rfl | rfl | rfl | rfl | rfl | rfl | rfl | rfl | rfl | rfl | rfl | rfl | rfl | rfl
  · exact w_c0
  · exact w_c1
  · exact w_c2
  · exact w_c3
  · exact w_c4
  · exact w_c5
  · exact w_c6
  · exact w_c7
  · exact w_c8
  · exact w_c9
  · exact w_c10
  · exact w_c11
  · exact w_c12
  · exact w_c13
set_option maxRecDepth 65536 in
theorem w_t1 : (words1.take 24).all (fun c => isCode c || c.before args0 about1) = true := by decide +kernel
set_option maxRecDepth 65536 in
theorem w_t2 : ((words1.drop 24).take 24).all (fun c => isCode c || c.before args0 about1) = true := by decide +kernel
set_option maxRecDepth 65536 in
theorem w_t3 : (((words1.drop 24).drop 24).take 24).all (fun c => isCode c || c.before args0 about1) = true := by decide +kernel
set_option maxRecDepth 65536 in
theorem w_t4 : (((words1.drop 24).drop 24).drop 24).all (fun c => isCode c || c.before args0 about1) = true := by decide +kernel
theorem w_tables : (allAtoms (Jvm.Cond.code x code maxLocals ret :: tables_1)).before args0 about1 = true := by
  rw [allAtoms_all]
  show words1.all (fun c => c.before args0 about1) = true
  refine all_split ?_ w_codes
  rw [← List.take_append_drop 24 words1, List.all_append, w_t1, ← List.take_append_drop 24 (words1.drop 24), List.all_append, w_t2, ← List.take_append_drop 24 ((words1.drop 24).drop 24), List.all_append, w_t3, w_t4]
  rfl
set_option maxRecDepth 65536 in
theorem w_rest : rest_1_c.before args0 about1 = true := by decide +kernel
set_option maxRecDepth 65536 in
theorem w_case : (Jvm.Cond.and given_1 narrow_1).before args0 about1 = true := by decide +kernel
theorem w_applies : (headSpec (Jvm.Cond.code x code maxLocals ret :: tables_1) room_1).applies x e0.platform about1 = true :=
  (Spec.applies_iff w_frames).mpr ⟨w_running, w_runnable, w_alone, w_named, w_hears, w_ripe, w_room, w_tables⟩
theorem atStart : AtStart classFile x code maxLocals ret World_1 tables_1 room_1 Calls_1 rest_1 Pre_1 launch0 p0 e0 about1 theMethod args0 below0 :=
  ⟨lists_1, trivial, launch0.admits_env _ _ _, launch0.least_env, fairChoices_fair.cas, fairChoices_fair.clock, w_frames, w_args, w_heap, w_applies, trivial, w_rest, w_case⟩
end start1
theorem witness_1 : WitnessClaimed_1 := ⟨start1.p0, start1.e0, start1.about1, start1.theMethod, start1.args0, start1.below0, start1.atStart⟩
end Jvm.Pilot.@@N@@
