import JvmDerived
import JvmDerived.Pilot.@@N@@Statement
import JvmDerived.Pilot.@@N@@Code
set_option linter.unusedVariables false
set_option linter.unusedSimpArgs false
namespace Jvm.RoadKit
open Sem ClassFile Op Lib Jvm.Stand Jvm.Free Jvm.LawKit
section New
variable {p : Program} {l : Launch} {e : Env} {R : Room} {s : State} {m : MethodId} {args : Array Value} {below : List Frame} {meth : Method} {c : Code} {T : State} {locs : List Loc} {cells slots : Nat}
theorem retI (X : Stand p l e R s m args below meth c T locs cells slots) (hx : p.tables.exec = Jvm.exec) {pc : Nat} {Ls : Array Slot} {z : Int32} {rest : List Value} (hret : meth.sig.returnType = some .int) (hd : decode c.code pc = .ok (.ireturn, 1)) {fs : List Frame}
    (hl : ∀ (f : JFrame) (acts : List Action), f.method = m → f.locked = none → f.entered = [] → (doReturn e (T.setTop f) acts (some (.int z))).1 = T.setFrames fs) : Steps p.tables e below (T.setTop (mkF m pc Ls (.int z :: rest))) (T.setFrames fs) := by
  have hm' : T.vm.method? m = some meth := X.method'
  have hn : narrow .int (.int z) = .int z := rfl
  show Steps p.tables e below (T.setTop { method := m, pc := pc, locals := Ls, stack := _ :: rest, locked := none }) _
  jvm_step X.here [X.here.top, hx, hd, hm', hret, hn]
  first | (intro acts; rw [hl _ acts rfl rfl rfl]) | rw [hl _ _ rfl rfl rfl]
  exact Steps.refl _
theorem own_retR (X : Stand p l e R s m args below meth c T locs cells slots) (hx : p.tables.exec = Jvm.exec) {pc : Nat} {Ls : Array Slot} {w : Value} {t : FieldType} {rest : List Value} (hret : meth.sig.returnType = some t) (ht : t.isReference = true) (hw : w.isRef = true) (hd : decode c.code pc = .ok (.areturn, 1)) {fs : List Frame}
    (hl : ∀ (f : JFrame) (acts : List Action), f.method = m → f.locked = none → f.entered = [] → (doReturn e (T.setTop f) acts (some w)).1 = T.setFrames fs) : Steps p.tables e below (T.setTop (mkF m pc Ls (w :: rest))) (T.setFrames fs) :=
  retOut X hx hret (by rcases ref_cases hw with rfl | ⟨z, rfl⟩ <;> cases t <;> first | rfl | (cases ht; done)) (Or.inr (Or.inr (Or.inr (Or.inr ⟨rfl, ht, hw⟩)))) hd hl
theorem own_retJ (X : Stand p l e R s m args below meth c T locs cells slots) (hx : p.tables.exec = Jvm.exec) {pc : Nat} {Ls : Array Slot} {z : Int64} {rest : List Value} (hret : meth.sig.returnType = some .long) (hd : decode c.code pc = .ok (.lreturn, 1)) {fs : List Frame}
    (hl : ∀ (f : JFrame) (acts : List Action), f.method = m → f.locked = none → f.entered = [] → (doReturn e (T.setTop f) acts (some (.long z))).1 = T.setFrames fs) : Steps p.tables e below (T.setTop (mkF m pc Ls (.long z :: rest))) (T.setFrames fs) :=
  retOut X hx hret rfl (Or.inr (Or.inl ⟨rfl, rfl, z, rfl⟩)) hd hl
end New
theorem own_eqv {args : Array Value} {first s : State} {o : Option Outcome} {idx : List Nat} {a b : Term} {v : Value} (h : (Jvm.Cond.eq a b).value args first o s idx = some true) (hb : b.eval args first o idx s = some v) (hk : (match v with | .int _ => true | .ref _ => true | .long _ => true | _ => false) = true := by rfl) : a.eval args first o idx s = some v := by
  simp only [Cond.value, hb] at h
  cases ha : a.eval args first o idx s with
  | none => simp [ha] at h
  | some x => cases x <;> cases v <;> simp_all
theorem own_selP {Z s : State} {a0 args : Array Value} {y : MethodName} {n : Nat} (hZ : Z.Warmed39 s.vm) (wi : (Cond.instantiable y.cls n).before a0 Z = true) (wp : (Cond.privateMethod y).before a0 Z = true) (wm : (Cond.instanceMethod y).before a0 Z = true) (hy : y.cls ≠ "java/lang/invoke/MethodHandle" ∧ y.cls ≠ "java/lang/invoke/VarHandle") : (Cond.selects y.cls y y).before args s = true := by
  have wi' : (Cond.instantiable y.cls n).before args s = true := mvT hZ wi
  have wm' : (Cond.instanceMethod y).before args s = true := mvT hZ wm
  obtain ⟨c, k, h1, h2, -, h4, -⟩ := Cond.instantiable_spec wi'
  simp only [Bool.or_eq_false_iff] at h4
  exact selects_self_of_private h1 h2 h4.1 (Cond.privateMethod_at (mvP hZ wp (args := #[]))) wm' hy
theorem own_selQ {Z s : State} {a0 args : Array Value} {y : MethodName} {y' : MethodName} {n' d' : String} (hZ : Z.Warmed39 s.vm) (wi : (Cond.selects y.cls y' ⟨y.cls, n', d'⟩).before a0 Z = true) (wp : (Cond.privateMethod y).before a0 Z = true) (wm : (Cond.instanceMethod y).before a0 Z = true) (hy : y.cls ≠ "java/lang/invoke/MethodHandle" ∧ y.cls ≠ "java/lang/invoke/VarHandle") : (Cond.selects y.cls y y).before args s = true := by
  have wi' : (Cond.selects y.cls y' ⟨y.cls, n', d'⟩).before args s = true := mvT hZ wi
  have wm' : (Cond.instanceMethod y).before args s = true := mvT hZ wm
  obtain ⟨c2, r2, m2, -, -, q3, -, kP, hkP, hkPi⟩ := Cond.selects_spec wi'
  have hc := findClass_of_methodNamed q3
  exact selects_self_of_private (c := m2.cls) hc hkP hkPi (Cond.privateMethod_at (mvP hZ wp (args := #[]))) wm' hy
theorem own_len {args : Array Value} {s : State} {t : Term} {a : Addr} {cl : Cell} {ty : FieldType} {z : Int32} (ht : t.eval args s none [] s = some (.ref a)) (A : Arr s s.heap a cl ty) (h : (Term.length t).eval args s none [] s = some (.int z)) : cl.slots.size < 2 ^ 31 ∧ cl.slots.size.toInt32 = z := by
  have e := A.fin (Vm.Alike.refl _)
  simp only [Term.eval, ht, e, Option.bind_eq_bind, Option.bind_some] at h
  split at h <;> simp_all
end Jvm.RoadKit
/- laws to paste: Road.backV, Road.lenW, Road.chN, Road.codOf (cut by pick.py; bodies as the Statement names them) -/
namespace Jvm.Pilot.@@N@@
namespace StrChars
open Jvm Sem ClassFile Op Lib Jvm.Stand Jvm.Free.XT Jvm.Free.ALB Jvm.Free.JM Jvm.Free
open Jvm.Lib.Cold (StaticIs)
/-- a char array whose places are chars -/
def Ch (a : Addr) (A : Cell) (U : State) : Prop := Arr .char a A U ∧ Typed .char A
theorem Ch.mv {a : Addr} {A : Cell} {U U' : State} (h : Ch a A U) (hal : U.vm.Alike U'.vm) (hh : U'.heap = U.heap) : Ch a A U' := ⟨h.1.mv hal hh, h.2⟩
theorem Ch.keep {a : Addr} {A : Cell} {U U' : State} (h : Ch a A U) (hal : U.vm.Alike U'.vm) (hk : U'.heap[a]? = some A) : Ch a A U' := ⟨h.1.keep hal hk, h.2⟩
/-- what place i of a char[]'s cell holds -/
def cv (A : Cell) (i : Nat) : Int32 := match A.slots[i]? with | some (.int x) => x | _ => 0
theorem Ch.get {a : Addr} {A : Cell} {U : State} (h : Ch a A U) {i : Nat} (hi : i < A.slots.size) : A.slots[i]? = some (.int (cv A i)) := by
  have e := Array.getElem?_eq_getElem hi
  have f := h.2 i _ e
  unfold cv; rw [e]
  generalize A.slots[i] = v at f
  cases v <;> simp [fits] at f ⊢
/-- the byte that i2b leaves of a char -/
def lo8 (x : Int32) : Int32 := x.toInt8.toInt32
theorem fits_lo8 (y : Int32) : fits .byte (.int (lo8 y)) = true := by
  have h1 := y.toInt8.le_toInt
  have h2 := y.toInt8.toInt_lt
  simp only [lo8, fits, Bool.and_eq_true, decide_eq_true_eq, Int32.le_iff_toInt_le, Int8.toInt_toInt32, show (-128 : Int32).toInt = -128 from by decide, show (127 : Int32).toInt = 127 from by decide]
  omega
/-- A' is A but that each place j of lo .. hi - 1 holds f j -/
def Laid (A A' : Cell) (lo hi : Nat) (f : Nat → Value) : Prop := A'.cls = A.cls ∧ A'.vm = A.vm ∧ A'.slots.size = A.slots.size ∧ ∀ i, A'.slots[i]? = if lo ≤ i ∧ i < hi then some (f i) else A.slots[i]?
theorem Laid.zero (A : Cell) (lo : Nat) (f : Nat → Value) : Laid A A lo (lo + 0) f := ⟨rfl, rfl, rfl, fun i => by rw [if_neg (by omega)]⟩
theorem Laid.step {A Ak : Cell} {lo k : Nat} {f : Nat → Value} {v : Value} (h : Laid A Ak lo k f) (hlo : lo ≤ k) (hk : k < Ak.slots.size) (hv : v = f k) : Laid A (Ak.setSlot k v) lo (k + 1) f := by
  refine ⟨h.1, h.2.1, by simpa [Cell.setSlot] using h.2.2.1, fun i => ?_⟩
  by_cases e : k = i
  · subst e; rw [Cell.slots_setSlot_self v hk, if_pos (by omega), hv]
  · rw [Cell.slots_setSlot_ne v e, h.2.2.2 i]
    by_cases q : lo ≤ i ∧ i < k
    · rw [if_pos q, if_pos (by omega)]
    · rw [if_neg q, if_neg (by omega)]
def U16 : String := "java/lang/StringUTF16"
namespace Cmp5
def yN : MethodName := ⟨"java/lang/StringUTF16", "compress", "([CI[BII)I"⟩
abbrev yB : ByteArray := jdk_52_method_21_code
theorem d0 : decode yB 0 = .ok (.iconst 0, 1) := by decide +kernel
theorem d1 : decode yB 1 = .ok (.istore 5, 2) := by decide +kernel
theorem d3 : decode yB 3 = .ok (.iload 5, 2) := by decide +kernel
theorem d5 : decode yB 5 = .ok (.iload 4, 2) := by decide +kernel
theorem d7 : decode yB 7 = .ok (.if_icmp (.ge) 37, 3) := by decide +kernel
theorem d10 : decode yB 10 = .ok (.aload_n 0, 1) := by decide +kernel
theorem d11 : decode yB 11 = .ok (.iload_n 1, 1) := by decide +kernel
theorem d12 : decode yB 12 = .ok (.caload, 1) := by decide +kernel
theorem d13 : decode yB 13 = .ok (.istore 6, 2) := by decide +kernel
theorem d15 : decode yB 15 = .ok (.iload 6, 2) := by decide +kernel
theorem d17 : decode yB 17 = .ok (.sipush 255, 3) := by decide +kernel
theorem d20 : decode yB 20 = .ok (.if_icmp (.le) 6, 3) := by decide +kernel
theorem d26 : decode yB 26 = .ok (.aload_n 2, 1) := by decide +kernel
theorem d27 : decode yB 27 = .ok (.iload_n 3, 1) := by decide +kernel
theorem d28 : decode yB 28 = .ok (.iload 6, 2) := by decide +kernel
theorem d30 : decode yB 30 = .ok (.i2b, 1) := by decide +kernel
theorem d31 : decode yB 31 = .ok (.bastore, 1) := by decide +kernel
theorem d32 : decode yB 32 = .ok (.iinc 1 1, 3) := by decide +kernel
theorem d35 : decode yB 35 = .ok (.iinc 3 1, 3) := by decide +kernel
theorem d38 : decode yB 38 = .ok (.iinc 5 1, 3) := by decide +kernel
theorem d41 : decode yB 41 = .ok (.goto (-38), 3) := by decide +kernel
theorem d44 : decode yB 44 = .ok (.iload 4, 2) := by decide +kernel
theorem d46 : decode yB 46 = .ok (.ireturn, 1) := by decide +kernel
def site : List Cond := []
def tab : Cond := tabOf yN yB 7 (some .int) site
def P (b : Addr) (A : Cell) (d : Addr) (B : Cell) (o q len : Nat) (args : Array Value) (s : State) : Prop := args = #[.ref b, .int (Int32.ofNat o), .ref d, .int (Int32.ofNat q), .int (Int32.ofNat len)] ∧ Ch b A s ∧ Arr .byte d B s ∧ b ≠ d ∧ o + len ≤ A.slots.size ∧ q + len ≤ B.slots.size ∧ ∀ i, i < len → ¬ 255 < cv A (o + i)
def E (b : Addr) (A : Cell) (d : Addr) (B : Cell) (o q len : Nat) (r : Option Value) (s u : State) : Prop := r = some (.int (Int32.ofNat len)) ∧ ∃ B', Put d B' s u ∧ Laid B B' q (q + len) (fun j => Value.int (lo8 (cv A (o + (j - q)))))
/-- no char of the range above 255: len; the places written hold each char's low byte -/
theorem law (l : Launch) (b : Addr) (A : Cell) (d : Addr) (B : Cell) (o q len : Nat) : Law l yN 5 5 0 0 yB 7 (some .int) site (P b A d B o q len) (E b A d B o q len) (copyLocs d q len) 0 0 := by
  refine Law.of_walk (plainFor_of_name (by decide +kernel)) (by decide +kernel) (by decide +kernel) (by decide) (fun _ _ h => by rw [h.1]; rfl) (fun _ U U' hal hh h => ⟨h.1, h.2.1.mv hal hh, h.2.2.1.mv hal hh, h.2.2.2⟩) (fun r U U' V V' h1 hal h2 h => ⟨h.1, h.2.elim fun B' q => ⟨B', q.1.mv h1 h2, q.2⟩⟩) ?_
  intro p e s m args below meth c s₁ X0 hexec hbytes hml hret hlk hnm hown hh0 W hP
  obtain ⟨rfl, hA, hB, hne, l1, l2, hp⟩ := hP
  have c1 : Steps p.tables e below (s₁.setTop (entryFrame m #[.ref b, .int (Int32.ofNat o), .ref d, .int (Int32.ofNat q), .int (Int32.ofNat len)] 7)) (s₁.setTop (mkF m 0 #[.val (.ref b), .val (.int (Int32.ofNat o)), .val (.ref d), .val (.int (Int32.ofNat q)), .val (.int (Int32.ofNat len)), .unset, .unset] [])) := entry rfl
  have hA0 := hA.1.mv X0.warmed.alike hh0
  have hB0 := hB.mv X0.warmed.alike hh0
  have a31 := hA.1.2.2.2
  have c2 : Steps p.tables e below (s₁.setTop (entryFrame m #[.ref b, .int (Int32.ofNat o), .ref d, .int (Int32.ofNat q), .int (Int32.ofNat len)] 7)) (s₁.setTop (mkF m 3 #[.val (.ref b), .val (.int (Int32.ofNat o)), .val (.ref d), .val (.int (Int32.ofNat q)), .val (.int (Int32.ofNat len)), .val (.int 0), .unset] [])) := c1.trans (by
    refine iconstV X0.here hexec rfl 0 (hb hbytes d0) (by decide) ?_
    refine XS.istore X0.here hexec rfl (hb hbytes d1) rfl rfl ?_
    exact Steps.refl _)
  have loop : ∀ (r i : Nat), i + r = len → ∀ (z : Slot), (z = .unset ∨ ∃ w, z = .val w ∧ w.category = 1) → ∀ (Tl : State) (Bk : Cell), Stand p l e { frames := 0, locals := 0, cells := 0, slots := 0 } s m #[.ref b, .int (Int32.ofNat o), .ref d, .int (Int32.ofNat q), .int (Int32.ofNat len)] below meth c Tl ([] ++ copyLocs d q i) 0 0 → Put d Bk s₁ Tl → Laid B Bk q (q + i) (fun j => Value.int (lo8 (cv A (o + (j - q))))) →
      Steps p.tables e below (s₁.setTop (entryFrame m #[.ref b, .int (Int32.ofNat o), .ref d, .int (Int32.ofNat q), .int (Int32.ofNat len)] 7)) (Tl.setTop (mkF m 3 #[.val (.ref b), .val (.int (Int32.ofNat (o + i))), .val (.ref d), .val (.int (Int32.ofNat (q + i))), .val (.int (Int32.ofNat len)), .val (.int (Int32.ofNat i)), z] [])) → ∃ (T' : State) (B' : Cell) (z' : Slot), Stand p l e { frames := 0, locals := 0, cells := 0, slots := 0 } s m #[.ref b, .int (Int32.ofNat o), .ref d, .int (Int32.ofNat q), .int (Int32.ofNat len)] below meth c T' ([] ++ copyLocs d q len) 0 0 ∧ Put d B' s₁ T' ∧ Laid B B' q (q + len) (fun j => Value.int (lo8 (cv A (o + (j - q))))) ∧
      Steps p.tables e below (s₁.setTop (entryFrame m #[.ref b, .int (Int32.ofNat o), .ref d, .int (Int32.ofNat q), .int (Int32.ofNat len)] 7)) (T'.setTop (mkF m 3 #[.val (.ref b), .val (.int (Int32.ofNat (o + len))), .val (.ref d), .val (.int (Int32.ofNat (q + len))), .val (.int (Int32.ofNat len)), .val (.int (Int32.ofNat len)), z'] [])) := by
    intro r
    induction r with
    | zero =>
      intro i hi z hz Tl Bk Xl pl fl cl
      have hil : i = len := by omega
      rw [hil] at Xl fl cl
      exact ⟨Tl, Bk, z, Xl, pl, fl, cl⟩
    | succ r ih =>
      intro i hi z hz Tl Bk Xl pl fl cl
      have all := X0.warmed.alike.symm.trans Xl.warmed.alike
      have hAl := hA0.keep all (pl.other hne hA0.1)
      have hBk := hB0.like all pl.1 fl.1 fl.2.1 fl.2.2.1
      have hlt : q + i < Bk.slots.size := by rw [fl.2.2.1]; omega
      have c3 : Steps p.tables e below (s₁.setTop (entryFrame m #[.ref b, .int (Int32.ofNat o), .ref d, .int (Int32.ofNat q), .int (Int32.ofNat len)] 7)) (Tl.setTop (mkF m 12 #[.val (.ref b), .val (.int (Int32.ofNat (o + i))), .val (.ref d), .val (.int (Int32.ofNat (q + i))), .val (.int (Int32.ofNat len)), .val (.int (Int32.ofNat i)), z] [.int (Int32.ofNat (o + i)), .ref b])) := cl.trans (by
        refine XS.iload Xl.here hexec rfl (hb hbytes d3) rfl ?_
        refine XS.iload Xl.here hexec rfl (hb hbytes d5) rfl ?_
        refine XS.icmpNo Xl.here hexec rfl (hb hbytes d7) rfl (ii_ge_f (lt32 (by omega) (by omega))) ?_
        refine XS.aloadN Xl.here hexec rfl (hb hbytes d10) rfl rfl ?_
        refine XS.iloadN Xl.here hexec rfl (hb hbytes d11) rfl ?_
        exact Steps.refl _)
      have c4 : Steps p.tables e below (s₁.setTop (entryFrame m #[.ref b, .int (Int32.ofNat o), .ref d, .int (Int32.ofNat q), .int (Int32.ofNat len)] 7)) (Tl.setTop (mkF m 13 #[.val (.ref b), .val (.int (Int32.ofNat (o + i))), .val (.ref d), .val (.int (Int32.ofNat (q + i))), .val (.int (Int32.ofNat len)), .val (.int (Int32.ofNat i)), z] [.int (cv A (o + i))])) := c3.trans (by
        refine Xl.aget hexec hAl rfl (hA.get (i := o + i) (by omega)) rfl rfl (hb hbytes d12) ?_
        exact Steps.refl _)
      have c5 : Steps p.tables e below (s₁.setTop (entryFrame m #[.ref b, .int (Int32.ofNat o), .ref d, .int (Int32.ofNat q), .int (Int32.ofNat len)] 7)) (Tl.setTop (mkF m 15 #[.val (.ref b), .val (.int (Int32.ofNat (o + i))), .val (.ref d), .val (.int (Int32.ofNat (q + i))), .val (.int (Int32.ofNat len)), .val (.int (Int32.ofNat i)), .val (.int (cv A (o + i)))] [])) := c4.trans (by
        refine XS.istoreS Xl.here hexec rfl (hb hbytes d13) rfl rfl hz ?_
        exact Steps.refl _)
      have c6 : Steps p.tables e below (s₁.setTop (entryFrame m #[.ref b, .int (Int32.ofNat o), .ref d, .int (Int32.ofNat q), .int (Int32.ofNat len)] 7)) (Tl.setTop (mkF m 31 #[.val (.ref b), .val (.int (Int32.ofNat (o + i))), .val (.ref d), .val (.int (Int32.ofNat (q + i))), .val (.int (Int32.ofNat len)), .val (.int (Int32.ofNat i)), .val (.int (cv A (o + i)))] [.int (lo8 (cv A (o + i))), .int (Int32.ofNat (q + i)), .ref d])) := c5.trans (by
        refine XS.iload Xl.here hexec rfl (hb hbytes d15) rfl ?_
        refine sipushV Xl.here hexec rfl 255 (hb hbytes d17) (by decide) ?_
        refine XS.icmpYes Xl.here hexec rfl (pc0 := 20) rfl (hb hbytes d20) rfl (ii_le_t (hp i (by omega))) (by decide) rfl ?_
        refine XS.aloadN Xl.here hexec rfl (hb hbytes d26) rfl rfl ?_
        refine XS.iloadN Xl.here hexec rfl (hb hbytes d27) rfl ?_
        refine XS.iload Xl.here hexec rfl (hb hbytes d28) rfl ?_
        refine i2b Xl.here hexec rfl (hb hbytes d30) rfl ?_
        exact Steps.refl _)
      obtain ⟨T7, X7, p7, st7⟩ := Xl.aput hexec hBk rfl hlt rfl (fits_lo8 (cv A (o + i))) (g := (mkF m 31 #[.val (.ref b), .val (.int (Int32.ofNat (o + i))), .val (.ref d), .val (.int (Int32.ofNat (q + i))), .val (.int (Int32.ofNat len)), .val (.int (Int32.ofNat i)), .val (.int (cv A (o + i)))] [.int (lo8 (cv A (o + i))), .int (Int32.ofNat (q + i)), .ref d])) rfl (rest := []) rfl (hb hbytes d31)
      have c8 : Steps p.tables e below (s₁.setTop (entryFrame m #[.ref b, .int (Int32.ofNat o), .ref d, .int (Int32.ofNat q), .int (Int32.ofNat len)] 7)) (T7.setTop (mkF m 32 #[.val (.ref b), .val (.int (Int32.ofNat (o + i))), .val (.ref d), .val (.int (Int32.ofNat (q + i))), .val (.int (Int32.ofNat len)), .val (.int (Int32.ofNat i)), .val (.int (cv A (o + i)))] [])) := c6.trans (st7 _ (Steps.refl _))
      have c9 : Steps p.tables e below (s₁.setTop (entryFrame m #[.ref b, .int (Int32.ofNat o), .ref d, .int (Int32.ofNat q), .int (Int32.ofNat len)] 7)) (T7.setTop (mkF m 3 #[.val (.ref b), .val (.int (Int32.ofNat (o + i) + 1)), .val (.ref d), .val (.int (Int32.ofNat (q + i) + 1)), .val (.int (Int32.ofNat len)), .val (.int (Int32.ofNat i + 1)), .val (.int (cv A (o + i)))] [])) := c8.trans (by
        refine iincV X7.here hexec rfl 1 (hb hbytes d32) (by decide) rfl rfl ?_
        refine iincV X7.here hexec rfl 1 (hb hbytes d35) (by decide) rfl rfl ?_
        refine iincV X7.here hexec rfl 1 (hb hbytes d38) (by decide) rfl rfl ?_
        refine XS.goto X7.here hexec rfl (pc0 := 41) rfl (hb hbytes d41) (by decide) rfl ?_
        exact Steps.refl _)
      have c10 : Steps p.tables e below (s₁.setTop (entryFrame m #[.ref b, .int (Int32.ofNat o), .ref d, .int (Int32.ofNat q), .int (Int32.ofNat len)] 7)) (T7.setTop (mkF m 3 #[.val (.ref b), .val (.int (Int32.ofNat (o + (i + 1)))), .val (.ref d), .val (.int (Int32.ofNat (q + (i + 1)))), .val (.int (Int32.ofNat len)), .val (.int (Int32.ofNat (i + 1))), .val (.int (cv A (o + i)))] [])) := by
        have := c9
        rw [succ32, succ32, succ32] at this
        exact this
      exact ih (i + 1) (by omega) _ (Or.inr ⟨_, rfl, rfl⟩) T7 _ (by rw [copyLocs_step, ← List.append_assoc]; exact X7) (pl.trans p7) (fl.step (by omega) hlt (by simp)) c10
  obtain ⟨T9, B9, z9, X9, p9, f9, g9⟩ := loop len 0 (by omega) .unset (Or.inl rfl) s₁ B (by simpa [copyLocs] using X0) ⟨hB0.1, fun _ _ => rfl, rfl⟩ (Laid.zero _ _ _) c2
  have c11 : Steps p.tables e below (s₁.setTop (entryFrame m #[.ref b, .int (Int32.ofNat o), .ref d, .int (Int32.ofNat q), .int (Int32.ofNat len)] 7)) (T9.setTop (mkF m 46 #[.val (.ref b), .val (.int (Int32.ofNat (o + len))), .val (.ref d), .val (.int (Int32.ofNat (q + len))), .val (.int (Int32.ofNat len)), .val (.int (Int32.ofNat len)), z9] [.int (Int32.ofNat len)])) := g9.trans (by
    refine XS.iload X9.here hexec rfl (hb hbytes d3) rfl ?_
    refine XS.iload X9.here hexec rfl (hb hbytes d5) rfl ?_
    refine XS.icmpYes X9.here hexec rfl (pc0 := 7) rfl (hb hbytes d7) rfl (ii_ge_t (nlt32 (by omega) (Nat.le_refl _))) (by decide) rfl ?_
    refine XS.iload X9.here hexec rfl (hb hbytes d44) rfl ?_
    exact Steps.refl _)
  exact ⟨T9, some (.int (Int32.ofNat len)), _, _, _, X9, by simp, rfl, rfl, (fun h => by cases h), ⟨rfl, B9, p9.from hh0, f9⟩, fun fs hl => c11.trans (X9.ireturnOut hexec hret rfl (Or.inl rfl) (hb hbytes d46) hl)⟩
end Cmp5
namespace Cmp3
def yN : MethodName := ⟨"java/lang/StringUTF16", "compress", "([CII)[B"⟩
abbrev yB : ByteArray := jdk_52_method_16_code
theorem d0 : decode yB 0 = .ok (.iload_n 2, 1) := by decide +kernel
theorem d1 : decode yB 1 = .ok (.newarray .byte, 2) := by decide +kernel
theorem d3 : decode yB 3 = .ok (.astore_n 3, 1) := by decide +kernel
theorem d4 : decode yB 4 = .ok (.aload_n 0, 1) := by decide +kernel
theorem d5 : decode yB 5 = .ok (.iload_n 1, 1) := by decide +kernel
theorem d6 : decode yB 6 = .ok (.aload_n 3, 1) := by decide +kernel
theorem d7 : decode yB 7 = .ok (.iconst 0, 1) := by decide +kernel
theorem d8 : decode yB 8 = .ok (.iload_n 2, 1) := by decide +kernel
theorem d9 : decode yB 9 = .ok (.invokestatic 115, 3) := by decide +kernel
theorem d12 : decode yB 12 = .ok (.istore 4, 2) := by decide +kernel
theorem d14 : decode yB 14 = .ok (.iload 4, 2) := by decide +kernel
theorem d16 : decode yB 16 = .ok (.iload_n 2, 1) := by decide +kernel
theorem d17 : decode yB 17 = .ok (.if_icmp (.eq) 40, 3) := by decide +kernel
theorem d57 : decode yB 57 = .ok (.aload_n 3, 1) := by decide +kernel
theorem d58 : decode yB 58 = .ok (.areturn, 1) := by decide +kernel
def site : List Cond := [.arrayClass .byte, Cmp5.tab] ++ staticW U16 115 Cmp5.yN
def tab : Cond := tabOf yN yB 6 (some (.array .byte)) site
def P (b : Addr) (A : Cell) (o len : Nat) (args : Array Value) (s : State) : Prop := args = #[.ref b, .int (Int32.ofNat o), .int (Int32.ofNat len)] ∧ Ch b A s ∧ o + len ≤ A.slots.size ∧ len ≤ 536870912 ∧ ∀ i, i < len → ¬ 255 < cv A (o + i)
def E (b : Addr) (A : Cell) (o len : Nat) (r : Option Value) (s u : State) : Prop := NewArr .byte "[B" len (fun j => .int (lo8 (cv A (o + j)))) r s u ∧ u.heap.size = s.heap.size + 1
/-- no char of the range above 255: a new byte[] of their low bytes -/
theorem law (l : Launch) (b : Addr) (A : Cell) (o len : Nat) : Law l yN 3 3 1 18 yB 6 (some (.array .byte)) site (P b A o len) (E b A o len) [] 1 len := by
  refine Law.of_walk (plainFor_of_name (by decide +kernel)) (by decide +kernel) (by decide +kernel) (by decide) (fun _ _ h => by rw [h.1]; rfl) (fun _ U U' hal hh h => ⟨h.1, h.2.1.mv hal hh, h.2.2⟩) (fun r U U' V V' h1 hal h2 h => ⟨NewArr.mv r U U' V V' h1 hal h2 h.1, by rw [h1, h2]; exact h.2⟩) ?_
  intro p e s m args below meth c s₁ X0 hexec hbytes hml hret hlk hnm hown hh0 W hP
  obtain ⟨rfl, hA, l1, l2, hp⟩ := hP
  have a31 := hA.1.2.2.2
  have c1 : Steps p.tables e below (s₁.setTop (entryFrame m #[.ref b, .int (Int32.ofNat o), .int (Int32.ofNat len)] 6)) (s₁.setTop (mkF m 0 #[.val (.ref b), .val (.int (Int32.ofNat o)), .val (.int (Int32.ofNat len)), .unset, .unset, .unset] [])) := entry rfl
  have c2 : Steps p.tables e below (s₁.setTop (entryFrame m #[.ref b, .int (Int32.ofNat o), .int (Int32.ofNat len)] 6)) (s₁.setTop (mkF m 1 #[.val (.ref b), .val (.int (Int32.ofNat o)), .val (.int (Int32.ofNat len)), .unset, .unset, .unset] [.int (Int32.ofNat len)])) := c1.trans (by
    refine XS.iloadN X0.here hexec rfl (hb hbytes d0) rfl ?_
    exact Steps.refl _)
  obtain ⟨T3, B3, X3, ba3, bs3, bv3, bh3, bf3, st3⟩ := X0.anew hexec (atype := .byte) (wk W (.arrayClass .byte)) rfl (by show len * 1 ≤ _; omega) (by omega) (g := (mkF m 1 #[.val (.ref b), .val (.int (Int32.ofNat o)), .val (.int (Int32.ofNat len)), .unset, .unset, .unset] [.int (Int32.ofNat len)])) rfl (hb hbytes d1) (rest := []) rfl (Nat.le_refl _) (by show 0 + len ≤ len; omega)
  rw [hh0] at ba3 st3
  have kp3 : XT.Kept s T3 := (XT.Kept.of_eq hh0).push bh3
  have hA3 := hA.keep X3.warmed.alike (kp3 _ _ hA.1.1)
  have hne : b ≠ s.heap.size := hA.1.ne
  have c4 : Steps p.tables e below (s₁.setTop (entryFrame m #[.ref b, .int (Int32.ofNat o), .int (Int32.ofNat len)] 6)) (T3.setTop (mkF m 3 #[.val (.ref b), .val (.int (Int32.ofNat o)), .val (.int (Int32.ofNat len)), .unset, .unset, .unset] [.ref s.heap.size])) := c2.trans (st3 _ (Steps.refl _))
  have c5 : Steps p.tables e below (s₁.setTop (entryFrame m #[.ref b, .int (Int32.ofNat o), .int (Int32.ofNat len)] 6)) (T3.setTop (mkF m 9 #[.val (.ref b), .val (.int (Int32.ofNat o)), .val (.int (Int32.ofNat len)), .val (.ref s.heap.size), .unset, .unset] [.int (Int32.ofNat len), .int 0, .ref s.heap.size, .int (Int32.ofNat o), .ref b])) := c4.trans (by
    refine XS.astoreN X3.here hexec rfl (hb hbytes d3) rfl rfl rfl ?_
    refine XS.aloadN X3.here hexec rfl (hb hbytes d4) rfl rfl ?_
    refine XS.iloadN X3.here hexec rfl (hb hbytes d5) rfl ?_
    refine XS.aloadN X3.here hexec rfl (hb hbytes d6) rfl rfl ?_
    refine iconstV X3.here hexec rfl 0 (hb hbytes d7) (by decide) ?_
    refine XS.iloadN X3.here hexec rfl (hb hbytes d8) rfl ?_
    exact Steps.refl _)
  obtain ⟨v6, T6, X6, E6, g6⟩ := X3.callS hexec (Cmp5.law l b A s.heap.size B3 o 0 len) hown (wks W (staticW U16 115 Cmp5.yN)) (wk W Cmp5.tab) (W := 0) (Nat.le_of_ble_eq_true rfl) (Nat.le_of_ble_eq_true rfl) (Nat.le_refl _) (by show 0 + len + 0 ≤ len; omega) (g := (mkF m 9 #[.val (.ref b), .val (.int (Int32.ofNat o)), .val (.int (Int32.ofNat len)), .val (.ref s.heap.size), .unset, .unset] [.int (Int32.ofNat len), .int (Int32.ofNat 0), .ref s.heap.size, .int (Int32.ofNat o), .ref b])) rfl (by rw [hml]; rfl) c5 (argsL := [.ref b, .int (Int32.ofNat o), .ref s.heap.size, .int (Int32.ofNat 0), .int (Int32.ofNat len)]) (rest := []) rfl rfl (by show 2 * 0 + 0 ≤ _; decide) (hb hbytes d9) (⟨rfl, hA3, ba3, hne, l1, by rw [bs3]; simp, hp⟩)
  obtain ⟨rfl, B6, p6, f6⟩ := E6
  have c7 : Steps p.tables e below (s₁.setTop (entryFrame m #[.ref b, .int (Int32.ofNat o), .int (Int32.ofNat len)] 6)) (T6.setTop (mkF m 12 #[.val (.ref b), .val (.int (Int32.ofNat o)), .val (.int (Int32.ofNat len)), .val (.ref s.heap.size), .unset, .unset] [.int (Int32.ofNat len)])) := g6
  have c8 : Steps p.tables e below (s₁.setTop (entryFrame m #[.ref b, .int (Int32.ofNat o), .int (Int32.ofNat len)] 6)) (T6.setTop (mkF m 58 #[.val (.ref b), .val (.int (Int32.ofNat o)), .val (.int (Int32.ofNat len)), .val (.ref s.heap.size), .val (.int (Int32.ofNat len)), .unset] [.ref s.heap.size])) := c7.trans (by
    refine XS.istore X6.here hexec rfl (hb hbytes d12) rfl rfl ?_
    refine XS.iload X6.here hexec rfl (hb hbytes d14) rfl ?_
    refine XS.iloadN X6.here hexec rfl (hb hbytes d16) rfl ?_
    refine XS.icmpYes X6.here hexec rfl (pc0 := 17) rfl (hb hbytes d17) rfl (ii_eq_t rfl) (by decide) rfl ?_
    refine XS.aloadN X6.here hexec rfl (hb hbytes d57) rfl rfl ?_
    exact Steps.refl _)
  have X8 := X6.wide (L' := []) (cells' := 1) (slots' := len) (fun x hx hlt => by
    simp only [List.nil_append, copyLocs, List.mem_map, List.mem_range] at hx
    obtain ⟨i, -, rfl⟩ := hx
    exact absurd hlt (Nat.lt_irrefl _)) (Nat.le_refl _) (by omega)
  exact ⟨T6, some (.ref s.heap.size), _, _, _, X8, rfl, rfl, rfl, (fun h => by cases h), ⟨⟨rfl, B6, ba3.like (X3.warmed.alike.symm.trans X6.warmed.alike) p6.1 f6.1 f6.2.1 f6.2.2.1, f6.2.1.trans bv3, by rw [X6.warmed.alike.findClass, f6.1]; exact bf3, by rw [f6.2.2.1, bs3]; simp, fun j hj => by rw [f6.2.2.2 j, if_pos (by omega)]; rfl, kp3.put p6 (Nat.le_refl _)⟩, by rw [p6.2.2, bh3, hh0]; simp⟩, fun fs hl => c8.trans (X8.areturnOut hexec rfl hret rfl (hb hbytes d58) hl)⟩
end Cmp3
namespace CodL
def yN : MethodName := ⟨"java/lang/StringUTF16", "coderFromArrayLen", "([BI)B"⟩
abbrev yB : ByteArray := jdk_52_method_15_code
theorem d0 : decode yB 0 = .ok (.iload_n 1, 1) := by decide +kernel
theorem d1 : decode yB 1 = .ok (.aload_n 0, 1) := by decide +kernel
theorem d2 : decode yB 2 = .ok (.arraylength, 1) := by decide +kernel
theorem d3 : decode yB 3 = .ok (.isub, 1) := by decide +kernel
theorem d4 : decode yB 4 = .ok (.bipush 31, 2) := by decide +kernel
theorem d6 : decode yB 6 = .ok (.iushr, 1) := by decide +kernel
theorem d7 : decode yB 7 = .ok (.i2b, 1) := by decide +kernel
theorem d8 : decode yB 8 = .ok (.ireturn, 1) := by decide +kernel
def site : List Cond := []
def tab : Cond := tabOf yN yB 2 (some .byte) site
def P (d : Addr) (B : Cell) (args : Array Value) (s : State) : Prop := args = #[.ref d, .int (Int32.ofNat B.slots.size)] ∧ Arr .byte d B s
def E (r : Option Value) (s u : State) : Prop := XT.PureE (some (.int 0)) r s u
/-- an array as long as the number of chars: LATIN1 -/
theorem law (l : Launch) (d : Addr) (B : Cell) : Law l yN 2 2 0 0 yB 2 (some .byte) site (P d B) E [] 0 0 := by
  refine Law.of_walk (plainFor_of_name (by decide +kernel)) (by decide +kernel) (by decide +kernel) (by decide) (fun _ _ h => by rw [h.1]; rfl) (fun _ U U' hal hh h => ⟨h.1, h.2.mv hal hh⟩) (fun r U U' V V' h1 hal h2 h => XT.PureE.mv r U U' V V' h1 hal h2 h) ?_
  intro p e s m args below meth c s₁ X0 hexec hbytes hml hret hlk hnm hown hh0 W hP
  obtain ⟨rfl, hB⟩ := hP
  have hB0 := hB.mv X0.warmed.alike hh0
  have c1 : Steps p.tables e below (s₁.setTop (entryFrame m #[.ref d, .int (Int32.ofNat B.slots.size)] 2)) (s₁.setTop (mkF m 0 #[.val (.ref d), .val (.int (Int32.ofNat B.slots.size))] [])) := entry rfl
  have c2 : Steps p.tables e below (s₁.setTop (entryFrame m #[.ref d, .int (Int32.ofNat B.slots.size)] 2)) (s₁.setTop (mkF m 2 #[.val (.ref d), .val (.int (Int32.ofNat B.slots.size))] [.ref d, .int (Int32.ofNat B.slots.size)])) := c1.trans (by
    refine XS.iloadN X0.here hexec rfl (hb hbytes d0) rfl ?_
    refine XS.aloadN X0.here hexec rfl (hb hbytes d1) rfl rfl ?_
    exact Steps.refl _)
  have c3 : Steps p.tables e below (s₁.setTop (entryFrame m #[.ref d, .int (Int32.ofNat B.slots.size)] 2)) (s₁.setTop (mkF m 8 #[.val (.ref d), .val (.int (Int32.ofNat B.slots.size))] [.int (lo8 (ushr (Int32.ofNat B.slots.size - Int32.ofNat B.slots.size) 31))])) := c2.trans (by
    refine X0.alen hexec hB0 rfl rfl (hb hbytes d2) ?_
    refine XS.isub X0.here hexec rfl (hb hbytes d3) rfl ?_
    refine bipushV X0.here hexec rfl 31 (hb hbytes d4) (by decide) ?_
    refine iushr X0.here hexec rfl (hb hbytes d6) rfl ?_
    refine i2b X0.here hexec rfl (hb hbytes d7) rfl ?_
    exact Steps.refl _)
  have e0 : lo8 (ushr (Int32.ofNat B.slots.size - Int32.ofNat B.slots.size) 31) = 0 := by rw [Int32.sub_self]; decide
  rw [e0] at c3
  exact ⟨s₁, some (.int 0), _, _, _, X0, rfl, rfl, rfl, (fun h => by cases h), ⟨rfl, hh0⟩, fun fs hl => c3.trans (X0.ireturnOut hexec hret rfl (Or.inr (Or.inr (Or.inl rfl))) (hb hbytes d8) hl)⟩
end CodL
/-- the String at a is Latin-1 over a new byte[] (the heap's one new cell): the low bytes of the len chars of A from o on; every cell but a is kept -/
def Got (a : Addr) (D : Cell) (fV fC : Field) (A : Cell) (o len : Nat) (r : Option Value) (s u : State) : Prop := r = none ∧ ∃ D' V : Cell, Blank "java/lang/String" a D' u ∧ Same D D' [fV.slot, fC.slot] ∧ D'.slots[fV.slot]? = some (.ref s.heap.size) ∧ D'.slots[fC.slot]? = some (.int 0) ∧ Arr .byte s.heap.size V u ∧ V.vm = .none ∧ u.vm.findClass "[B" = some V.cls ∧ V.slots.size = len ∧ (∀ j, j < len → V.slots[j]? = some (.int (lo8 (cv A (o + j))))) ∧ (∀ (y : Addr) (c : Cell), y ≠ a → s.heap[y]? = some c → u.heap[y]? = some c) ∧ u.heap.size = s.heap.size + 1
theorem Got.mv {a : Addr} {D A : Cell} {fV fC : Field} {o len : Nat} : ∀ r (U U' V V' : State), U'.heap = U.heap → V.vm.Alike V'.vm → V'.heap = V.heap → Got a D fV fC A o len r U V → Got a D fV fC A o len r U' V' :=
  fun r U U' V V' h1 hal h2 ⟨e0, D', X, a1, a2, a3, a4, a5, a6, a7, a8, a9, a10, a11⟩ => ⟨e0, D', X, a1.mv hal h2, a2, by rw [h1]; exact a3, a4, by rw [h1]; exact a5.mv hal h2, a6, by rw [hal.findClass]; exact a7, a8, a9, by rw [h1, h2]; exact a10, by rw [h1, h2]; exact a11⟩
namespace New4
def yN : MethodName := ⟨"java/lang/String", "<init>", "([CIILjava/lang/Void;)V"⟩
abbrev yB : ByteArray := jdk_42_method_149_code
theorem d0 : decode yB 0 = .ok (.aload_n 0, 1) := by decide +kernel
theorem d1 : decode yB 1 = .ok (.invokespecial 1, 3) := by decide +kernel
theorem d4 : decode yB 4 = .ok (.iload_n 3, 1) := by decide +kernel
theorem d5 : decode yB 5 = .ok (.ifCond (.ne) 22, 3) := by decide +kernel
theorem d27 : decode yB 27 = .ok (.getstatic 38, 3) := by decide +kernel
theorem d30 : decode yB 30 = .ok (.ifCond (.eq) 28, 3) := by decide +kernel
theorem d33 : decode yB 33 = .ok (.aload_n 1, 1) := by decide +kernel
theorem d34 : decode yB 34 = .ok (.iload_n 2, 1) := by decide +kernel
theorem d35 : decode yB 35 = .ok (.iload_n 3, 1) := by decide +kernel
theorem d36 : decode yB 36 = .ok (.invokestatic 177, 3) := by decide +kernel
theorem d39 : decode yB 39 = .ok (.astore 5, 2) := by decide +kernel
theorem d41 : decode yB 41 = .ok (.aload_n 0, 1) := by decide +kernel
theorem d42 : decode yB 42 = .ok (.aload 5, 2) := by decide +kernel
theorem d44 : decode yB 44 = .ok (.iload_n 3, 1) := by decide +kernel
theorem d45 : decode yB 45 = .ok (.invokestatic 47, 3) := by decide +kernel
theorem d48 : decode yB 48 = .ok (.putfield 15, 3) := by decide +kernel
theorem d51 : decode yB 51 = .ok (.aload_n 0, 1) := by decide +kernel
theorem d52 : decode yB 52 = .ok (.aload 5, 2) := by decide +kernel
theorem d54 : decode yB 54 = .ok (.putfield 9, 3) := by decide +kernel
theorem d57 : decode yB 57 = .ok (.return_, 1) := by decide +kernel
def site : List Cond := [.fieldLink "java/lang/String" 38 "java/lang/String" "COMPACT_STRINGS" "Z", Cmp3.tab, CodL.tab, .laysFinal "java/lang/String" "java/lang/String" "value" "[B", .fieldLink "java/lang/String" 9 "java/lang/String" "value" "[B", .laysFinal "java/lang/String" "java/lang/String" "coder" "B", .fieldLink "java/lang/String" 15 "java/lang/String" "coder" "B"] ++ objW "java/lang/String" 1 ++ staticW "java/lang/String" 177 Cmp3.yN ++ staticW "java/lang/String" 47 CodL.yN
def tab : Cond := tabOf yN yB 6 none site
def P (a : Addr) (D : Cell) (fV fC : Field) (b : Addr) (A : Cell) (z : Int32) (o len : Nat) (args : Array Value) (s : State) : Prop := args = #[.ref a, .ref b, .int (Int32.ofNat o), .int (Int32.ofNat len), .null] ∧ Blank "java/lang/String" a D s ∧ Found "java/lang/String" "value" "[B" fV s ∧ Found "java/lang/String" "coder" "B" fC s ∧ Ch b A s ∧ StaticIs s "java/lang/String" "COMPACT_STRINGS" "Z" (.int z) ∧ ¬ z = 0 ∧ 0 < len ∧ o + len ≤ A.slots.size ∧ len ≤ 536870912 ∧ ∀ i, i < len → ¬ 255 < cv A (o + i)
def E (a : Addr) (D : Cell) (fV fC : Field) (A : Cell) (o len : Nat) (r : Option Value) (s u : State) : Prop := Got a D fV fC A o len r s u
/-- len > 0, no char of the range above 255: a Latin-1 String of their low bytes -/
theorem law (l : Launch) (a : Addr) (D : Cell) (fV fC : Field) (b : Addr) (A : Cell) (z : Int32) (o len : Nat) : Law l yN 5 4 2 35 yB 6 none site (P a D fV fC b A z o len) (E a D fV fC A o len) [⟨a, fC.slot⟩, ⟨a, fV.slot⟩] 1 len := by
  refine Law.of_walk (plainFor_of_name (by decide +kernel)) (by decide +kernel) (by decide +kernel) (by decide) (fun _ _ h => by rw [h.1]; rfl) (fun _ U U' hal hh h => ⟨h.1, h.2.1.mv hal hh, h.2.2.1.al hal, h.2.2.2.1.al hal, h.2.2.2.2.1.mv hal hh, h.2.2.2.2.2.1.there hal hh, h.2.2.2.2.2.2⟩) (fun r U U' V V' h1 hal h2 h => Got.mv r U U' V V' h1 hal h2 h) ?_
  intro p e s m args below meth c s₁ X0 hexec hbytes hml hret hlk hnm hown hh0 W hP
  obtain ⟨rfl, hB, f1, f2, hA, s1, hz, l0, l1, l2, hp⟩ := hP
  have a31 := hA.1.2.2.2
  have c1 : Steps p.tables e below (s₁.setTop (entryFrame m #[.ref a, .ref b, .int (Int32.ofNat o), .int (Int32.ofNat len), .null] 6)) (s₁.setTop (mkF m 0 #[.val (.ref a), .val (.ref b), .val (.int (Int32.ofNat o)), .val (.int (Int32.ofNat len)), .val .null, .unset] [])) := entry rfl
  have c2 : Steps p.tables e below (s₁.setTop (entryFrame m #[.ref a, .ref b, .int (Int32.ofNat o), .int (Int32.ofNat len), .null] 6)) (s₁.setTop (mkF m 1 #[.val (.ref a), .val (.ref b), .val (.int (Int32.ofNat o)), .val (.int (Int32.ofNat len)), .val .null, .unset] [.ref a])) := c1.trans (by
    refine XS.aloadN X0.here hexec rfl (hb hbytes d0) rfl rfl ?_
    exact Steps.refl _)
  obtain ⟨T3, X3, q3, st3⟩ := X0.oinit hexec hown (wks W (objW "java/lang/String" 1)) (g := (mkF m 1 #[.val (.ref a), .val (.ref b), .val (.int (Int32.ofNat o)), .val (.int (Int32.ofNat len)), .val .null, .unset] [.ref a])) rfl (by rw [hml]; rfl) (rest := []) rfl (hb hbytes d1) (W := 0) (by show 2 * 0 + 0 ≤ _; decide) (Nat.le_of_ble_eq_true rfl) (Nat.le_of_ble_eq_true rfl)
  have hh3 := q3.trans hh0
  have c4 : Steps p.tables e below (s₁.setTop (entryFrame m #[.ref a, .ref b, .int (Int32.ofNat o), .int (Int32.ofNat len), .null] 6)) (T3.setTop (mkF m 27 #[.val (.ref a), .val (.ref b), .val (.int (Int32.ofNat o)), .val (.int (Int32.ofNat len)), .val .null, .unset] [])) := (c2.trans (st3 _ (Steps.refl _))).trans (by
    refine XS.iloadN X3.here hexec rfl (hb hbytes d4) rfl ?_
    refine XS.ifYes X3.here hexec rfl (pc0 := 5) rfl (hb hbytes d5) rfl (i0_ne_t (nz32 (by omega) l0)) (by decide) rfl ?_
    exact Steps.refl _)
  obtain ⟨T5, X5, q5, st5⟩ := X3.sget hexec hown (wk W (.fieldLink "java/lang/String" 38 "java/lang/String" "COMPACT_STRINGS" "Z")) s1 (fun _ _ h => by rw [hh3]; exact h) (g := (mkF m 27 #[.val (.ref a), .val (.ref b), .val (.int (Int32.ofNat o)), .val (.int (Int32.ofNat len)), .val .null, .unset] [])) rfl (hb hbytes d27)
  have hh5 := q5.trans hh3
  have c6 : Steps p.tables e below (s₁.setTop (entryFrame m #[.ref a, .ref b, .int (Int32.ofNat o), .int (Int32.ofNat len), .null] 6)) (T5.setTop (mkF m 30 #[.val (.ref a), .val (.ref b), .val (.int (Int32.ofNat o)), .val (.int (Int32.ofNat len)), .val .null, .unset] [.int z])) := c4.trans (st5 _ (Steps.refl _))
  have c7 : Steps p.tables e below (s₁.setTop (entryFrame m #[.ref a, .ref b, .int (Int32.ofNat o), .int (Int32.ofNat len), .null] 6)) (T5.setTop (mkF m 36 #[.val (.ref a), .val (.ref b), .val (.int (Int32.ofNat o)), .val (.int (Int32.ofNat len)), .val .null, .unset] [.int (Int32.ofNat len), .int (Int32.ofNat o), .ref b])) := c6.trans (by
    refine XS.ifNo X5.here hexec rfl (hb hbytes d30) rfl (i0_eq_f hz) ?_
    refine XS.aloadN X5.here hexec rfl (hb hbytes d33) rfl rfl ?_
    refine XS.iloadN X5.here hexec rfl (hb hbytes d34) rfl ?_
    refine XS.iloadN X5.here hexec rfl (hb hbytes d35) rfl ?_
    exact Steps.refl _)
  obtain ⟨v8, T8, X8, E8, g8⟩ := X5.callS hexec (Cmp3.law l b A o len) hown (wks W (staticW "java/lang/String" 177 Cmp3.yN)) (wk W Cmp3.tab) (W := 0) (Nat.le_of_ble_eq_true rfl) (Nat.le_of_ble_eq_true rfl) (Nat.le_refl _) (by show 0 + len ≤ len; omega) (g := (mkF m 36 #[.val (.ref a), .val (.ref b), .val (.int (Int32.ofNat o)), .val (.int (Int32.ofNat len)), .val .null, .unset] [.int (Int32.ofNat len), .int (Int32.ofNat o), .ref b])) rfl (by rw [hml]; rfl) c7 (argsL := [.ref b, .int (Int32.ofNat o), .int (Int32.ofNat len)]) (rest := []) rfl rfl (by show 2 * 0 + 0 ≤ _; decide) (hb hbytes d36) (⟨rfl, hA.mv X5.warmed.alike hh5, l1, l2, hp⟩)
  obtain ⟨e8, z8⟩ := E8
  obtain ⟨rfl, N, n1, n2, n3, n4, n5, n6⟩ := NewArr.mv _ T5 s _ _ hh5.symm (Vm.Alike.refl _) rfl e8
  rw [hh5] at z8
  have hB1 := hB.keep X8.warmed.alike (n6 _ _ hB.1)
  have hne : s.heap.size ≠ a := (Nat.ne_of_lt (Array.getElem?_eq_some_iff.mp hB.1).1).symm
  have c9 : Steps p.tables e below (s₁.setTop (entryFrame m #[.ref a, .ref b, .int (Int32.ofNat o), .int (Int32.ofNat len), .null] 6)) (T8.setTop (mkF m 39 #[.val (.ref a), .val (.ref b), .val (.int (Int32.ofNat o)), .val (.int (Int32.ofNat len)), .val .null, .unset] [.ref s.heap.size])) := g8
  have c10 : Steps p.tables e below (s₁.setTop (entryFrame m #[.ref a, .ref b, .int (Int32.ofNat o), .int (Int32.ofNat len), .null] 6)) (T8.setTop (mkF m 45 #[.val (.ref a), .val (.ref b), .val (.int (Int32.ofNat o)), .val (.int (Int32.ofNat len)), .val .null, .val (.ref s.heap.size)] [.int (Int32.ofNat N.slots.size), .ref s.heap.size, .ref a])) := by
    have hc : Steps p.tables e below (s₁.setTop (entryFrame m #[.ref a, .ref b, .int (Int32.ofNat o), .int (Int32.ofNat len), .null] 6)) (T8.setTop (mkF m 45 #[.val (.ref a), .val (.ref b), .val (.int (Int32.ofNat o)), .val (.int (Int32.ofNat len)), .val .null, .val (.ref s.heap.size)] [.int (Int32.ofNat len), .ref s.heap.size, .ref a])) := c9.trans (by
      refine XS.astore X8.here hexec rfl (hb hbytes d39) rfl rfl rfl ?_
      refine XS.aloadN X8.here hexec rfl (hb hbytes d41) rfl rfl ?_
      refine XS.aload X8.here hexec rfl (hb hbytes d42) rfl rfl ?_
      refine XS.iloadN X8.here hexec rfl (hb hbytes d44) rfl ?_
      exact Steps.refl _)
    rw [n4]; exact hc
  obtain ⟨v11, T11, X11, E11, g11⟩ := X8.callS hexec (CodL.law l s.heap.size N) hown (wks W (staticW "java/lang/String" 47 CodL.yN)) (wk W CodL.tab) (W := 1) (Nat.le_of_ble_eq_true rfl) (Nat.le_of_ble_eq_true rfl) (Nat.le_refl _) (by show 0 + len + 0 ≤ len; omega) (g := (mkF m 45 #[.val (.ref a), .val (.ref b), .val (.int (Int32.ofNat o)), .val (.int (Int32.ofNat len)), .val .null, .val (.ref s.heap.size)] [.int (Int32.ofNat N.slots.size), .ref s.heap.size, .ref a])) rfl (by rw [hml]; rfl) c10 (argsL := [.ref s.heap.size, .int (Int32.ofNat N.slots.size)]) (rest := [.ref a]) rfl rfl (by show 2 * 0 + (1 + 0) ≤ _; decide) (hb hbytes d45) (⟨rfl, n1⟩)
  obtain ⟨rfl, q11⟩ := E11
  have hB11 := hB1.mv (X8.warmed.alike.symm.trans X11.warmed.alike) q11
  have c12 : Steps p.tables e below (s₁.setTop (entryFrame m #[.ref a, .ref b, .int (Int32.ofNat o), .int (Int32.ofNat len), .null] 6)) (T11.setTop (mkF m 48 #[.val (.ref a), .val (.ref b), .val (.int (Int32.ofNat o)), .val (.int (Int32.ofNat len)), .val .null, .val (.ref s.heap.size)] [.int 0, .ref a])) := g11
  obtain ⟨T13, X13, p13, bl13, sl13, st13⟩ := X11.finit hexec hown (wk W (.fieldLink "java/lang/String" 15 "java/lang/String" "coder" "B")) (Or.inr ⟨_, (wk W (.laysFinal "java/lang/String" "java/lang/String" "coder" "B"))⟩) (Or.inl ⟨rfl, hnm⟩) f2 (Or.inl rfl) hB11 (t := .byte) (by decide +kernel) rfl (g := (mkF m 48 #[.val (.ref a), .val (.ref b), .val (.int (Int32.ofNat o)), .val (.int (Int32.ofNat len)), .val .null, .val (.ref s.heap.size)] [.int 0, .ref a])) rfl (rest := []) rfl (hb hbytes d48)
  have c14 : Steps p.tables e below (s₁.setTop (entryFrame m #[.ref a, .ref b, .int (Int32.ofNat o), .int (Int32.ofNat len), .null] 6)) (T13.setTop (mkF m 54 #[.val (.ref a), .val (.ref b), .val (.int (Int32.ofNat o)), .val (.int (Int32.ofNat len)), .val .null, .val (.ref s.heap.size)] [.ref s.heap.size, .ref a])) := (c12.trans (st13 _ (Steps.refl _))).trans (by
    refine XS.aloadN X13.here hexec rfl (hb hbytes d51) rfl rfl ?_
    refine XS.aload X13.here hexec rfl (hb hbytes d52) rfl rfl ?_
    exact Steps.refl _)
  obtain ⟨T15, X15, p15, bl15, sl15, st15⟩ := X13.finit hexec hown (wk W (.fieldLink "java/lang/String" 9 "java/lang/String" "value" "[B")) (Or.inr ⟨_, (wk W (.laysFinal "java/lang/String" "java/lang/String" "value" "[B"))⟩) (Or.inl ⟨rfl, hnm⟩) f1 (Or.inl rfl) bl13 (t := (.array .byte)) (by decide +kernel) rfl (g := (mkF m 54 #[.val (.ref a), .val (.ref b), .val (.int (Int32.ofNat o)), .val (.int (Int32.ofNat len)), .val .null, .val (.ref s.heap.size)] [.ref s.heap.size, .ref a])) rfl (rest := []) rfl (hb hbytes d54)
  have c16 : Steps p.tables e below (s₁.setTop (entryFrame m #[.ref a, .ref b, .int (Int32.ofNat o), .int (Int32.ofNat len), .null] 6)) (T15.setTop (mkF m 57 #[.val (.ref a), .val (.ref b), .val (.int (Int32.ofNat o)), .val (.int (Int32.ofNat len)), .val .null, .val (.ref s.heap.size)] [])) := c14.trans (st15 _ (Steps.refl _))
  have ap := apart (Or.inr ⟨_, (wk W (.laysFinal "java/lang/String" "java/lang/String" "value" "[B"))⟩) (Or.inr ⟨_, (wk W (.laysFinal "java/lang/String" "java/lang/String" "coder" "B"))⟩) f1 f2 (t₁ := .array .byte) (t₂ := .byte) (by decide +kernel) (by decide +kernel) (by decide)
  have al := X8.warmed.alike.symm.trans X15.warmed.alike
  have n7 : T11.heap[s.heap.size]? = some N := by rw [q11]; exact n1.1
  exact ⟨T15, none, _, _, _, X15, by simp, rfl, by omega, (fun _ => rfl), ⟨rfl, _, N, bl15, ((Same.refl D _).set _ (by simp)).set _ (by simp), sl15, (Cell.slots_setSlot_ne _ ap).trans sl13, n1.keep al (p15.other hne (p13.other hne n7)), n2, by rw [al.findClass]; exact n3, n4, n5, fun y c h1 h2 => p15.other h1 (p13.other h1 (by rw [q11]; exact n6 y c h2)), by rw [p15.2.2, p13.2.2, q11]; exact z8⟩, fun fs hl => c16.trans (X15.returnOut hexec hret (hb hbytes d57) hl)⟩
end New4
namespace New1
def yN : MethodName := ⟨"java/lang/String", "<init>", "([C)V"⟩
abbrev yB : ByteArray := jdk_42_method_3_code
theorem d0 : decode yB 0 = .ok (.aload_n 0, 1) := by decide +kernel
theorem d1 : decode yB 1 = .ok (.aload_n 1, 1) := by decide +kernel
theorem d2 : decode yB 2 = .ok (.iconst 0, 1) := by decide +kernel
theorem d3 : decode yB 3 = .ok (.aload_n 1, 1) := by decide +kernel
theorem d4 : decode yB 4 = .ok (.arraylength, 1) := by decide +kernel
theorem d5 : decode yB 5 = .ok (.aconst_null, 1) := by decide +kernel
theorem d6 : decode yB 6 = .ok (.invokespecial 27, 3) := by decide +kernel
theorem d9 : decode yB 9 = .ok (.return_, 1) := by decide +kernel
def site : List Cond := [New4.tab] ++ initW "java/lang/String" 27 New4.yN
def tab : Cond := tabOf yN yB 2 none site
def P (a : Addr) (D : Cell) (fV fC : Field) (b : Addr) (A : Cell) (z : Int32) (args : Array Value) (s : State) : Prop := args = #[.ref a, .ref b] ∧ Blank "java/lang/String" a D s ∧ Found "java/lang/String" "value" "[B" fV s ∧ Found "java/lang/String" "coder" "B" fC s ∧ Ch b A s ∧ StaticIs s "java/lang/String" "COMPACT_STRINGS" "Z" (.int z) ∧ ¬ z = 0 ∧ 0 < A.slots.size ∧ A.slots.size ≤ 536870912 ∧ ∀ i, i < A.slots.size → ¬ 255 < cv A i
def E (a : Addr) (D : Cell) (fV fC : Field) (A : Cell) (r : Option Value) (s u : State) : Prop := Got a D fV fC A 0 A.slots.size r s u
/-- new String(chars), not empty, no char above 255: a Latin-1 String of their low bytes -/
theorem law (l : Launch) (a : Addr) (D : Cell) (fV fC : Field) (b : Addr) (A : Cell) (z : Int32) : Law l yN 2 1 3 52 yB 2 none site (P a D fV fC b A z) (E a D fV fC A) [⟨a, fC.slot⟩, ⟨a, fV.slot⟩] 1 A.slots.size := by
  refine Law.of_walk (plainFor_of_name (by decide +kernel)) (by decide +kernel) (by decide +kernel) (by decide) (fun _ _ h => by rw [h.1]; rfl) (fun _ U U' hal hh h => ⟨h.1, h.2.1.mv hal hh, h.2.2.1.al hal, h.2.2.2.1.al hal, h.2.2.2.2.1.mv hal hh, h.2.2.2.2.2.1.there hal hh, h.2.2.2.2.2.2⟩) (fun r U U' V V' h1 hal h2 h => Got.mv r U U' V V' h1 hal h2 h) ?_
  intro p e s m args below meth c s₁ X0 hexec hbytes hml hret hlk hnm hown hh0 W hP
  obtain ⟨rfl, hB, f1, f2, hA, s1, hz, l0, l2, hp⟩ := hP
  have c1 : Steps p.tables e below (s₁.setTop (entryFrame m #[.ref a, .ref b] 2)) (s₁.setTop (mkF m 0 #[.val (.ref a), .val (.ref b)] [])) := entry rfl
  have c2 : Steps p.tables e below (s₁.setTop (entryFrame m #[.ref a, .ref b] 2)) (s₁.setTop (mkF m 6 #[.val (.ref a), .val (.ref b)] [.null, .int (Int32.ofNat A.slots.size), .int 0, .ref b, .ref a])) := c1.trans (by
    refine XS.aloadN X0.here hexec rfl (hb hbytes d0) rfl rfl ?_
    refine XS.aloadN X0.here hexec rfl (hb hbytes d1) rfl rfl ?_
    refine iconstV X0.here hexec rfl 0 (hb hbytes d2) (by decide) ?_
    refine XS.aloadN X0.here hexec rfl (hb hbytes d3) rfl rfl ?_
    refine X0.alen hexec (hA.1.mv X0.warmed.alike hh0) rfl rfl (hb hbytes d4) ?_
    refine XS.aconstNull X0.here hexec rfl (hb hbytes d5) ?_
    exact Steps.refl _)
  obtain ⟨v3, T3, X3, E3, g3⟩ := X0.callN hexec (New4.law l a D fV fC b A z 0 A.slots.size) rfl hown (wks W (initW "java/lang/String" 27 New4.yN)) (W New4.tab (by simp only [site, List.mem_cons, List.mem_append, true_or, or_true])) (W := 0) (Nat.le_of_ble_eq_true rfl) (Nat.le_of_ble_eq_true rfl) (Nat.le_refl _) (by show 0 + A.slots.size ≤ A.slots.size; omega) (g := (mkF m 6 #[.val (.ref a), .val (.ref b)] [.null, .int (Int32.ofNat A.slots.size), .int (Int32.ofNat 0), .ref b, .ref a])) rfl (by rw [hml]; rfl) c2 (argsL := [.ref b, .int (Int32.ofNat 0), .int (Int32.ofNat A.slots.size), .null]) (rest := []) rfl rfl (by show 2 * 0 + 0 ≤ _; decide) (hb hbytes d6) (⟨rfl, hB.mv X0.warmed.alike hh0, f1.al X0.warmed.alike, f2.al X0.warmed.alike, hA.mv X0.warmed.alike hh0, s1.there X0.warmed.alike hh0, hz, l0, by omega, l2, fun i hi => by rw [Nat.zero_add]; exact hp i hi⟩)
  have e0 := Got.mv _ s₁ s _ _ hh0.symm (Vm.Alike.refl _) rfl E3
  obtain rfl := e0.1
  have c4 : Steps p.tables e below (s₁.setTop (entryFrame m #[.ref a, .ref b] 2)) (T3.setTop (mkF m 9 #[.val (.ref a), .val (.ref b)] [])) := g3
  exact ⟨T3, none, _, _, _, X3, by simp, rfl, by omega, (fun _ => rfl), e0, fun fs hl => c4.trans (X3.returnOut hexec hret (hb hbytes d9) hl)⟩
theorem pays {l : Launch} {R : Room} {p : Program} {e : Env} {below : List Frame} {s : State} {sargs : Array Value} {len W : Nat} (a : Addr) (D : Cell) (fV fC : Field) (b : Addr) (A : Cell) (z : Int32) (htab : tab.before sargs s = true) (hfr : 4 ≤ R.frames) (hlo : W + 65 ≤ R.locals) :
    Back l R p e below s sargs yN len W (fun A₁ a₁ => A₁.cells + 1 ≤ R.cells ∧ A₁.slots + A.slots.size ≤ R.slots ∧ P a D fV fC b A z a₁ A₁.U) (fun A₁ _ v₁ B₁ => E a D fV fC A v₁ A₁.U B₁.U ∧ B₁.locs = A₁.locs ++ [⟨a, fC.slot⟩, ⟨a, fV.slot⟩] ∧ B₁.cells = A₁.cells + 1 ∧ B₁.slots = A₁.slots + A.slots.size) :=
  (law l a D fV fC b A z).pays htab hfr (by omega)
end New1
/-- the byte, read back as charAt reads it, is the char -/
theorem lo8_mask {x : Int32} (h0 : ¬ x < 0) (h1 : ¬ 255 < x) : lo8 x &&& 255 = x := by
  have t : ∀ k : Fin 256, lo8 (Int32.ofNat k.val) &&& 255 = Int32.ofNat k.val := by decide +kernel
  rw [Int32.lt_iff_toInt_lt] at h0 h1
  have e0 : (0 : Int32).toInt = 0 := rfl
  have e1 : (255 : Int32).toInt = 255 := rfl
  obtain ⟨k, hk⟩ : ∃ k : Nat, x.toInt = k := ⟨x.toInt.toNat, by omega⟩
  have hx : x = Int32.ofNat k := Int32.toInt_inj.mp (by rw [hk, Int32.toInt_ofNat_small (by omega)])
  rw [hx]
  exact t ⟨k, by omega⟩
end StrChars
namespace StrChars.Road
open Jvm Sem ClassFile Op Lib Jvm.Stand Jvm.Free Jvm.Free.XT
open Jvm.Lib.Cold (StaticIs)
abbrev ST : String := "java/lang/String"
/-- every table word that New1's law asks, flat -/
abbrev words : List Jvm.Cond := [.code New1.yN New1.yB 2 none, .initialized ST, .methodLink ST 27 New4.yN, .instanceMethod New4.yN,
  .code New4.yN New4.yB 6 none, .fieldLink ST 38 ST "COMPACT_STRINGS" "Z", .laysFinal ST ST "value" "[B", .fieldLink ST 9 ST "value" "[B", .laysFinal ST ST "coder" "B", .fieldLink ST 15 ST "coder" "B",
  .methodLink ST 1 Lib.objectInit, .instanceMethod Lib.objectInit, .code Lib.objectInit ⟨#[0xb1]⟩ 1 none, .methodLink ST 177 Cmp3.yN, .static Cmp3.yN, .methodLink ST 47 CodL.yN, .static CodL.yN,
  .code Cmp3.yN Cmp3.yB 6 (some (.array .byte)), .initialized U16, .arrayClass .byte, .methodLink U16 115 Cmp5.yN, .static Cmp5.yN, .code Cmp5.yN Cmp5.yB 7 (some .int), .code CodL.yN CodL.yB 2 (some .byte)]
theorem tab_of {a : Array Value} {s : State} (h : ∀ w ∈ words, w.before a s = true) : New1.tab.before a s = true := by
  have h5 : Cmp5.tab.before a s = true := unparts (wk h (.code Cmp5.yN Cmp5.yB 7 (some .int))) (wks h (.initialized Cmp5.yN.cls :: Cmp5.site))
  have hc : CodL.tab.before a s = true := unparts (wk h (.code CodL.yN CodL.yB 2 (some .byte))) (wks h (.initialized CodL.yN.cls :: CodL.site))
  have q5 : ∀ w ∈ Cmp5.tab :: words, w.before a s = true := fun w hw => (List.mem_cons.mp hw).elim (fun e => e ▸ h5) (h w)
  have h3 : Cmp3.tab.before a s = true := unparts (wk q5 (.code Cmp3.yN Cmp3.yB 6 (some (.array .byte)))) (wks q5 (.initialized Cmp3.yN.cls :: Cmp3.site))
  have q3 : ∀ w ∈ Cmp3.tab :: CodL.tab :: words, w.before a s = true := fun w hw => (List.mem_cons.mp hw).elim (fun e => e ▸ h3) fun hw => (List.mem_cons.mp hw).elim (fun e => e ▸ hc) (h w)
  have h4 : New4.tab.before a s = true := unparts (wk q3 (.code New4.yN New4.yB 6 none)) (wks q3 (.initialized New4.yN.cls :: New4.site))
  have q4 : ∀ w ∈ New4.tab :: words, w.before a s = true := fun w hw => (List.mem_cons.mp hw).elim (fun e => e ▸ h4) (h w)
  exact unparts (wk q4 (.code New1.yN New1.yB 2 none)) (wks q4 (.initialized New1.yN.cls :: New1.site))
/-- the words ride from the start Z to the walk's own state -/
theorem moved {Z s : State} {a0 args : Array Value} (hZ : Z.Warmed39 s.vm) (hw : ∀ d ∈ words, d.before a0 Z = true) : ∀ d ∈ words, d.before args s = true := fun d hd => by
  have q := hw d hd
  have t : ∀ d ∈ words, d = .arrayClass .byte ∨ (d.onTables && d.keepsFace) = true := by decide +kernel
  rcases t d hd with rfl | t
  · exact RoadKit.mvA hZ q
  · exact RoadKit.mv hZ q t
/-- WHAT COMES BACK, over the tables of the start Z: h the heap at the call, h' behind it -/
def Q (Z : State) (x : Addr) (A : Cell) (h : Heap) (v : Option Value) (h' : Heap) (L : List Loc) : Prop := v = none ∧ (∀ y ∈ L, y.base = x) ∧ RoadKit.Keep h h' [x] ∧ h'.size = h.size + 1 ∧ RoadKit.Exa Z h' x ST ∧ RoadKit.Fld Z h' x ST "value" "[B" (.ref h.size) ∧ RoadKit.Fld Z h' x ST "coder" "B" (.int 0) ∧
  (∃ V : Cell, RoadKit.Arr Z h' h.size V .byte ∧ V.vm = .none ∧ Z.vm.findClass "[B" = some V.cls ∧ V.slots.size = A.slots.size ∧ ∀ j, j < A.slots.size → V.slots[j]? = some (.int (lo8 (cv A j)))) ∧
  ∀ (O n d : String) (w : Value), RoadKit.Fld Z h x O n d w → RoadKit.slotOf Z O n d ≠ RoadKit.slotOf Z ST "value" "[B" → RoadKit.slotOf Z O n d ≠ RoadKit.slotOf Z ST "coder" "B" → RoadKit.Fld Z h' x O n d w
/-- **new String(chars) AT A CALL, IN THE ROAD'S FORM**: for specialBack behind newO: x the fresh String, b the char[] with the cell A -/
theorem back {p : Program} {l : Launch} {e : Env} {R : Room} {s : State} {args : Array Value} {below : List Frame} {len W : Nat} {Z : State} {a0 : Array Value} {h : Heap} (hZ : Z.Warmed39 s.vm) (hw : ∀ d ∈ words, d.before a0 Z = true) {kI : Nat} (wi : (Jvm.Cond.instantiable ST kI).before a0 Z = true)
    {x b : Addr} {A : Cell} {z : Int32} {v0 c0 : Value} (E : RoadKit.Exa Z h x ST) (V : RoadKit.Fld Z h x ST "value" "[B" v0) (C : RoadKit.Fld Z h x ST "coder" "B" c0) (K : RoadKit.Arr Z h b A .char) (hty : Typed .char A) (S : RoadKit.Sta Z h ST "COMPACT_STRINGS" "Z" (.int z)) (hz : ¬ z = 0)
    (l0 : 0 < A.slots.size) (l2 : A.slots.size ≤ 536870912) (hp : ∀ i, i < A.slots.size → ¬ 255 < cv A i) (hfr : 4 ≤ R.frames) (hlo : W + 65 ≤ R.locals) :
    Back l R p e below s args New1.yN len W (fun P a => a = #[.ref x, .ref b] ∧ P.U.heap = h ∧ P.cells + 1 ≤ R.cells ∧ P.slots + A.slots.size ≤ R.slots)
      (fun P _ v B => ∃ L, Q Z x A h v B.U.heap L ∧ B.locs = P.locs ++ L ∧ B.cells = P.cells + 1 ∧ B.slots = P.slots + A.slots.size) := by
  intro m meth c P g ig mk a X hg hsize hdg hW hn hp'
  obtain ⟨rfl, rfl, r1, r2⟩ := hp'
  have al : Z.vm.Alike P.U.vm := hZ.alike.trans X.warmed.alike
  obtain ⟨D, cfV, kV, iV, fV, hD, gV, stV, knV, obV, asV, slV⟩ := id V
  obtain ⟨D', cfC, kC, iC, fC, hD', gC, stC, -, -, asC, slC⟩ := id C
  cases hD.symm.trans hD'
  obtain ⟨D2, kD, e1, e2, e3, e4, e5⟩ := id E
  cases hD.symm.trans e1
  obtain ⟨c2, k2, i1, i2, i3, -⟩ := Cond.instantiable_spec wi
  cases e2.symm.trans i1
  cases e3.symm.trans i2
  obtain ⟨kU, u1, u2⟩ := al.2.2 _ _ e3
  have hB : Blank ST x D P.U := ⟨hD, ⟨knV, fun q hq => by rw [hq] at obV; cases obV⟩, by rw [al.findClass]; exact e2, kU, u1, by rw [u2]; exact i3, by rw [u2]; exact e5 i3⟩
  have F1 : Found ST "value" "[B" fV P.U := ⟨SBG.found_only al ⟨cfV, kV, iV, gV⟩, stV⟩
  have F2 : Found ST "coder" "B" fC P.U := ⟨SBG.found_only al ⟨cfC, kC, iC, gC⟩, stC⟩
  have hA : Ch b A P.U := ⟨⟨K.1, State.isArrayOf_alike al K.2.1, K.2.2, by omega⟩, hty⟩
  have hS : StaticIs P.U ST "COMPACT_STRINGS" "Z" (.int z) := by
    obtain ⟨cfS, iS, kS, fS, st, cS, t1, t2, t3, t4, t5, t6, t7⟩ := S
    exact StaticIs.there (s := { Z with heap := P.U.heap }) ⟨cfS, iS, kS, fS, st, cS, t1, t2, t3, t4, t5, (fun q => by rw [q] at t6; cases t6), t7⟩ al rfl
  obtain ⟨v, B, X', ⟨⟨hv, E', V', q1, q2, q3, q4, q5, q6, q7, q8, q9, q10, q11⟩, hl, hc, hs⟩, st⟩ := New1.pays x D fV fC b A z (tab_of (moved hZ hw)) hfr hlo m meth c P g ig mk _ X hg hsize hdg hW hn ⟨r1, r2, rfl, hB, F1, F2, hA, hS, hz, l0, l2, hp⟩
  have al' : Z.vm.Alike B.U.vm := hZ.alike.trans X'.warmed.alike
  have hsz : E'.slots.size = D.slots.size := by
    obtain ⟨-, -, -, kB, w1, w2, w3⟩ := q1
    obtain ⟨kB', y1, y2⟩ := al'.2.2 _ _ e3
    rw [q2.2.1] at w1
    cases w1.symm.trans y1
    rw [w3, e5 i3, y2]
  refine ⟨v, B, X', ⟨_, ⟨hv, ?_, ⟨by omega, fun y cy hy hn' => q10 y cy (by simpa using hn') hy, fun y cy hy => ?_⟩, q11, ⟨E', _, q1.1, by rw [q2.2.1]; exact e2, by rw [q2.2.1]; exact e3, by rw [q2.1]; exact obV, fun _ => by rw [hsz]; exact e5 i3⟩,
    ⟨E', cfV, kV, iV, fV, q1.1, gV, stV, by rw [q2.1]; exact knV, by rw [q2.1]; exact obV, by rw [q2.2.1]; exact asV, q3⟩, ⟨E', cfC, kC, iC, fC, q1.1, gC, stC, by rw [q2.1]; exact knV, by rw [q2.1]; exact obV, by rw [q2.2.1]; exact asC, q4⟩,
    ⟨V', ⟨q5.1, State.isArrayOf_alike al'.symm q5.2.1, q5.2.2.1⟩, q6, by rw [← al'.findClass]; exact q7, q8, fun j hj => by have := q9 j hj; rwa [Nat.zero_add] at this⟩, fun O n d w F n1 n2 => ?_⟩, hl, hc, hs⟩, st⟩
  · intro y hy
    simp only [List.mem_cons, List.not_mem_nil, or_false] at hy
    rcases hy with rfl | rfl <;> rfl
  · by_cases q : y = x
    · subst q
      cases hD.symm.trans hy
      exact ⟨E', q1.1, q2.2.1, q2.1, hsz⟩
    · exact ⟨cy, q10 y cy q hy, rfl, rfl, rfl⟩
  · obtain ⟨D3, cf, k, i, f, g1, g2, g3, g4, g5, g6, g7⟩ := F
    cases hD.symm.trans g1
    simp only [RoadKit.slotOf, g2, gV, gC, Option.map_some, Option.getD_some] at n1 n2
    exact ⟨E', cf, k, i, f, q1.1, g2, g3, by rw [q2.1]; exact g4, by rw [q2.1]; exact g5, by rw [q2.2.1]; exact g6, by rw [q2.2.2 f.slot (by simp [n1, n2])]; exact g7⟩
end StrChars.Road
namespace StrChars.Road
open Jvm Sem ClassFile Op Lib Jvm.Stand Jvm.Free Jvm.Free.XT
/-- WHAT COMES BACK, the byte[] as a list of values -/
def QA (Z : State) (x : Addr) (zn : Int32) (cs : List Int32) (h : Heap) (v : Option Value) (h' : Heap) (L : List Loc) : Prop := v = none ∧ (∀ y ∈ L, y.base = x) ∧ RoadKit.Keep h h' [x] ∧ h'.size = h.size + 1 ∧ RoadKit.Exa Z h' x ST ∧ RoadKit.Fld Z h' x ST "value" "[B" (.ref h.size) ∧ RoadKit.Fld Z h' x ST "coder" "B" (.int 0) ∧
  (∃ kb, Z.vm.findClass "[B" = some kb ∧ RoadKit.Arv Z h' h.size kb .byte zn (cs.map fun c => .int (lo8 c)) (.int 0)) ∧
  ∀ (O n d : String) (w : Value), RoadKit.Fld Z h x O n d w → RoadKit.slotOf Z O n d ≠ RoadKit.slotOf Z ST "value" "[B" → RoadKit.slotOf Z O n d ≠ RoadKit.slotOf Z ST "coder" "B" → RoadKit.Fld Z h' x O n d w
/-- **new String(chars) AT A CALL, THE ARRAYS AS LISTS**: the char[] at b holds cs, not empty, no char above 255 -/
theorem backArv {p : Program} {l : Launch} {e : Env} {R : Room} {s : State} {args : Array Value} {below : List Frame} {len W : Nat} {Z : State} {a0 : Array Value} {h : Heap} (hZ : Z.Warmed39 s.vm) (hw : ∀ d ∈ words, d.before a0 Z = true) {kI : Nat} (wi : (Jvm.Cond.instantiable ST kI).before a0 Z = true)
    {x b : Addr} {k : ClassId} {zn z : Int32} {cs : List Int32} {dv v0 c0 : Value} (E : RoadKit.Exa Z h x ST) (V : RoadKit.Fld Z h x ST "value" "[B" v0) (C : RoadKit.Fld Z h x ST "coder" "B" c0) (K : RoadKit.Arv Z h b k .char zn (cs.map Value.int) dv) (S : RoadKit.Sta Z h ST "COMPACT_STRINGS" "Z" (.int z)) (hz : ¬ z = 0)
    (hlen : zn.toNatClampNeg = cs.length) (h0 : 0 < cs.length) (hbig : cs.length ≤ 536870912) (hall : ∀ c ∈ cs, ¬ 255 < c) (hfr : 4 ≤ R.frames) (hlo : W + 65 ≤ R.locals) :
    Back l R p e below s args New1.yN len W (fun P a => a = #[.ref x, .ref b] ∧ P.U.heap = h ∧ P.cells + 1 ≤ R.cells ∧ P.slots + cs.length ≤ R.slots)
      (fun P _ v B => ∃ L, QA Z x zn cs h v B.U.heap L ∧ B.locs = P.locs ++ L ∧ B.cells = P.cells + 1 ∧ B.slots = P.slots + cs.length) := by
  obtain ⟨A, K1, K2, K3, K4, K5, K6⟩ := K
  have e : A.slots.size = cs.length := K3.trans hlen
  have hat : ∀ (i : Nat) (hi : i < cs.length), A.slots[i]? = some (.int cs[i]) := fun i hi => by rw [K5 i (by omega)]; simp [List.getD_eq_getElem?_getD, hi]
  have hcv : ∀ (i : Nat) (hi : i < cs.length), cv A i = cs[i] := fun i hi => by unfold cv; rw [hat i hi]
  have hty : Typed .char A := fun i v hv => by
    have hi : i < A.slots.size := (Array.getElem?_eq_some_iff.mp hv).1
    have q := K5 i hi
    rw [hv] at q
    rw [Option.some.inj q]
    exact K6 i hi
  refine Back.mono (back hZ hw wi E V C K1 hty S hz (by omega) (by omega) (fun i hi => by rw [hcv i (by omega)]; exact hall _ (List.getElem_mem _)) hfr hlo) (fun P a hp => ⟨hp.1, hp.2.1, hp.2.2.1, by rw [e]; exact hp.2.2.2⟩) (fun P a v B hp hq => ?_)
  obtain ⟨L, ⟨q1, q2, q3, q4, q5, q6, q7, ⟨V', v1, v2, v3, v4, v5⟩, q9⟩, hl, hc, hs⟩ := hq
  refine ⟨L, ⟨q1, q2, q3, q4, q5, q6, q7, ⟨V'.cls, v3, V', v1, rfl, by rw [v4, e, hlen], K4, fun i hi => ?_, fun i hi => ?_⟩, q9⟩, hl, hc, by rw [hs, e]⟩
  · have hi' : i < cs.length := by omega
    rw [v5 i (by omega), hcv i hi']; simp [List.getD_eq_getElem?_getD, hi']
  · have hi' : i < cs.length := by omega
    simp only [List.getD_eq_getElem?_getD, List.getElem?_map, List.getElem?_eq_getElem hi', Option.map_some, Option.getD_some]
    exact fits_lo8 _
end StrChars.Road
namespace StrChars.Road
open Jvm Sem ClassFile Op Lib Jvm.Stand Jvm.Free Jvm.Free.XT
/-- WHAT COMES BACK, in the writer's own shape -/
def QV (Z : State) (x : Addr) (N : Int32) (bs : List Int32) (h : Heap) (n0 : Nat) (v : Option Value) (h' : Heap) (L : List Loc) : Prop := v = none ∧ RoadKit.Fr n0 L ∧ RoadKit.Keep h h' [x] ∧ RoadKit.Exa Z h' x ST ∧ RoadKit.Fld Z h' x ST "coder" "B" (.int 0) ∧
  ∃ (t : Addr) (kb : ClassId), n0 ≤ t ∧ h.size ≤ t ∧ ¬ t = x ∧ RoadKit.Fld Z h' x ST "value" "[B" (.ref t) ∧ RoadKit.Arv Z h' t kb .byte N (bs.map Value.int) (.int 0)
/-- **new String(chars) AT A CALL, FOR THE WRITER**: a char[] of n known ints, each 0 to 255 -/
theorem backV {p : Program} {l : Launch} {e : Env} {R : Room} {s : State} {args : Array Value} {below : List Frame} {len W : Nat} {Z : State} {a0 : Array Value} {h : Heap} (hZ : Z.Warmed39 s.vm) (hw : ∀ d ∈ words, d.before a0 Z = true) {kI : Nat} (wi : (Jvm.Cond.instantiable ST kI).before a0 Z = true)
    {x b : Addr} {kC : ClassId} {cs bs : List Int32} {d v0 c0 : Value} {z N : Int32} {n n0 : Nat} (hx0 : n0 ≤ x) (hh0 : n0 ≤ h.size) (E : RoadKit.Exa Z h x ST) (V : RoadKit.Fld Z h x ST "value" "[B" v0) (C : RoadKit.Fld Z h x ST "coder" "B" c0) (K : RoadKit.Arv Z h b kC .char N (cs.map Value.int) d) (S : RoadKit.Sta Z h ST "COMPACT_STRINGS" "Z" (.int z)) (hz : ¬ z = 0)
    (hn : cs.length = n) (hN : N = Int32.ofNat n) (l0 : 0 < n) (l2 : n ≤ 4000) (hp : ∀ c ∈ cs, ¬ c < 0 ∧ ¬ (255 : Int32) < c) (hb : bs = cs.map (fun c => c.toInt8.toInt32)) (hfr : 4 ≤ R.frames) (hlo : W + 65 ≤ R.locals) :
    Back l R p e below s args (⟨"java/lang/String", "<init>", "([C)V"⟩ : MethodName) len W (fun P a => a = #[.ref x, .ref b] ∧ P.U.heap = h ∧ P.cells + 1 ≤ R.cells ∧ P.slots + n ≤ R.slots)
      (fun P _ v B => ∃ L, QV Z x N bs h n0 v B.U.heap L ∧ B.locs = P.locs ++ L ∧ B.cells = P.cells + 1 ∧ B.slots = P.slots + n) := by
  subst hn hN hb
  refine Back.mono (backArv hZ hw wi E V C K S hz (n32 (by omega)) l0 (by omega) (fun c hc => (hp c hc).2) hfr hlo) (fun P a hp => hp) (fun P a v B hp hq => ?_)
  obtain ⟨L, ⟨q1, q2, q3, q4, q5, q6, q7, ⟨kb, v1, v2⟩, q9⟩, hl, hc, hs⟩ := hq
  exact ⟨L, ⟨q1, fun y hy => by rw [q2 y hy]; exact hx0, q3, q5, q7, h.size, kb, hh0, Nat.le_refl _, Nat.ne_of_gt E.lt, q6, by rw [List.map_map]; exact v2⟩, hl, hc, hs⟩
end StrChars.Road
namespace StrChars
open Jvm Sem ClassFile Op Lib Jvm.Stand Jvm.Free.XT Jvm.Free.ALB Jvm.Free.JM Jvm.Free
open Jvm.Lib.Cold (StaticIs)
def hi8 (x : Int32) : Int32 := lo8 (x >>> ((8 : Int32) &&& 31))
/-- what StringUTF16.getChar makes of two bytes -/
def pairCh (u v : Int32) : Int32 := (((u &&& 255) <<< ((0 : Int32) &&& 31)) ||| ((v &&& 255) <<< ((8 : Int32) &&& 31))).toUInt32.toUInt16.toUInt32.toInt32
theorem shr0 (c : Int32) : c >>> ((0 : Int32) &&& 31) = c := by
  have e : ((0 : Int32) &&& 31) = 0 := by decide
  rw [e]
  apply Int32.toBitVec_inj.mp
  rw [Int32.toBitVec_shiftRight]
  have e1 : ((0 : Int32).toBitVec.smod 32) = 0#32 := by decide
  rw [e1, BitVec.sshiftRight_eq']
  exact BitVec.sshiftRight_zero
theorem lo8_and (x : Int32) : (lo8 x &&& 255).toBitVec.toNat = x.toBitVec.toNat % 256 := by
  have h : (lo8 x).toBitVec = (x.toBitVec.signExtend 8).signExtend 32 := by rw [lo8, Int8.toBitVec_toInt32, Int32.toBitVec_toInt8]
  rw [Int32.toBitVec_and, BitVec.toNat_and, h]
  have e : ((x.toBitVec.signExtend 8).signExtend 32).toNat % 256 = x.toBitVec.toNat % 256 := by
    rw [BitVec.toNat_signExtend]
    have hlt := x.toBitVec.isLt
    simp only [BitVec.toNat_setWidth, BitVec.toNat_signExtend]
    split <;> split <;> omega
  rw [← e]
  exact Nat.and_two_pow_sub_one_eq_mod _ 8
theorem pair_says {c : Int32} (h0 : ¬ c < 0) (h1 : ¬ 65535 < c) : pairCh (lo8 c) (hi8 c) = c := by
  rw [Int32.lt_iff_toInt_lt] at h0 h1
  have e0 : (0 : Int32).toInt = 0 := rfl
  have e1 : (65535 : Int32).toInt = 65535 := rfl
  have hc : c.toInt = c.toBitVec.toNat := by
    have := c.toBitVec.isLt
    have e : c.toInt = c.toBitVec.toInt := rfl
    rw [e] at h0 h1
    rw [e]
    rw [BitVec.toInt_eq_toNat_cond] at h0 h1 ⊢
    split at h0 <;> split <;> omega
  have hn : c.toBitVec.toNat < 65536 := by omega
  have a1 := lo8_and c
  have a2 : (hi8 c &&& 255).toBitVec.toNat = c.toBitVec.toNat / 256 := by
    rw [hi8, lo8_and]
    have e : ((8 : Int32) &&& 31) = 8 := by decide
    rw [e, Int32.toBitVec_shiftRight]
    have e2 : ((8 : Int32).toBitVec.smod 32) = 8#32 := by decide
    rw [e2, BitVec.sshiftRight_eq', BitVec.toNat_sshiftRight_of_msb_false (by rw [BitVec.msb_eq_false_iff_two_mul_lt]; omega)]
    show c.toBitVec.toNat >>> 8 % 256 = _
    rw [Nat.shiftRight_eq_div_pow]
    omega
  unfold pairCh
  apply Int32.toBitVec_inj.mp
  apply BitVec.eq_of_toNat_eq
  have f0 : ((0 : Int32) &&& 31) = 0 := by decide
  have f8 : ((8 : Int32) &&& 31) = 8 := by decide
  rw [f0, f8]
  have g : (((lo8 c &&& 255) <<< (0 : Int32)) ||| ((hi8 c &&& 255) <<< (8 : Int32))).toBitVec.toNat = c.toBitVec.toNat := by
    rw [Int32.toBitVec_or, Int32.toBitVec_shiftLeft, Int32.toBitVec_shiftLeft]
    have s0 : ((0 : Int32).toBitVec.smod 32) = 0#32 := by decide
    have s8 : ((8 : Int32).toBitVec.smod 32) = 8#32 := by decide
    rw [s0, s8, BitVec.toNat_or]
    simp only [BitVec.shiftLeft_eq', BitVec.toNat_shiftLeft, a1, a2]
    show (c.toBitVec.toNat % 256) <<< 0 % 2 ^ 32 ||| (c.toBitVec.toNat / 256) <<< 8 % 2 ^ 32 = _
    rw [Nat.shiftLeft_zero, Nat.mod_eq_of_lt (show c.toBitVec.toNat % 256 < 2 ^ 32 by omega), Nat.mod_eq_of_lt (show (c.toBitVec.toNat / 256) <<< 8 < 2 ^ 32 by rw [Nat.shiftLeft_eq]; omega), Nat.or_comm, ← Nat.shiftLeft_add_eq_or_of_lt (by omega), Nat.shiftLeft_eq]
    omega
  show BitVec.toNat (((((lo8 c &&& 255) <<< (0 : Int32)) ||| ((hi8 c &&& 255) <<< (8 : Int32))).toBitVec.setWidth 16).setWidth 32) = _
  rw [BitVec.toNat_setWidth, BitVec.toNat_setWidth, g]
  omega
end StrChars
namespace StrChars
open Jvm Sem ClassFile Op Lib Jvm.Stand Jvm.Free.XT Jvm.Free.ALB Jvm.Free.JM Jvm.Free
open Jvm.Lib.Cold (StaticIs)
theorem shr1 {n : Nat} (h : 2 * n < 2 ^ 31) : Int32.ofNat (2 * n) >>> ((1 : Int32) &&& 31) = Int32.ofNat n := by
  have e : ((1 : Int32) &&& 31) = 1 := by decide
  rw [e]
  apply Int32.toBitVec_inj.mp
  rw [Int32.toBitVec_shiftRight]
  have e1 : ((1 : Int32).toBitVec.smod 32) = 1#32 := by decide
  have hm : (BitVec.ofNat 32 (2 * n)).toNat = 2 * n := by rw [BitVec.toNat_ofNat, Nat.mod_eq_of_lt (by omega)]
  rw [e1, BitVec.sshiftRight_eq']
  apply BitVec.eq_of_toNat_eq
  show ((BitVec.ofNat 32 (2 * n)).sshiftRight 1).toNat = (BitVec.ofNat 32 n).toNat
  rw [BitVec.toNat_sshiftRight_of_msb_false (by rw [BitVec.msb_eq_false_iff_two_mul_lt, hm]; omega), hm, BitVec.toNat_ofNat, Nat.shiftRight_eq_div_pow]
  omega
/-- charAt's cast of a byte read back -/
def chr8 (u : Int32) : Int32 := (u &&& 255).toUInt32.toUInt16.toUInt32.toInt32
theorem chr8_lo8 {c : Int32} (h0 : ¬ c < 0) (h1 : ¬ 255 < c) : chr8 (lo8 c) = c := by
  have t : ∀ k : Fin 256, (Int32.ofNat k.val).toUInt32.toUInt16.toUInt32.toInt32 = Int32.ofNat k.val := by decide +kernel
  unfold chr8
  rw [lo8_mask h0 h1]
  rw [Int32.lt_iff_toInt_lt] at h0 h1
  have e0 : (0 : Int32).toInt = 0 := rfl
  have e1 : (255 : Int32).toInt = 255 := rfl
  obtain ⟨k, hk⟩ : ∃ k : Nat, c.toInt = k := ⟨c.toInt.toNat, by omega⟩
  have hx : c = Int32.ofNat k := Int32.toInt_inj.mp (by rw [hk, Int32.toInt_ofNat_small (by omega)])
  rw [hx]
  exact t ⟨k, by omega⟩
theorem narrow_ch {c : Int32} (h0 : ¬ c < 0) (h1 : ¬ 65535 < c) : narrow .char (.int c) = .int c := by
  have q : narrow .char (.int (pairCh (lo8 c) (hi8 c))) = .int (pairCh (lo8 c) (hi8 c)) := narrow_c _
  rwa [pair_says h0 h1] at q
/-- the array's cell V codes the n chars f 0 .. f (n - 1) by the coder cd, as the JDK does: coder 1 just where some char is above 255 -/
def Cod (cd : Int32) (n : Nat) (f : Nat → Int32) (V : Cell) : Prop := (cd = 0 ∧ V.slots.size = n ∧ ∀ j, j < n → V.slots[j]? = some (.int (lo8 (f j))) ∧ ¬ 255 < f j) ∨ (cd = 1 ∧ V.slots.size = 2 * n ∧ (∀ j, j < n → V.slots[2 * j]? = some (.int (lo8 (f j))) ∧ V.slots[2 * j + 1]? = some (.int (hi8 (f j)))) ∧ ∃ j, j < n ∧ 255 < f j)
theorem Cod.cd {cd : Int32} {n : Nat} {f : Nat → Int32} {V : Cell} (h : Cod cd n f V) : cd = 0 ∨ cd = 1 := h.imp (fun q => q.1) fun q => q.1
theorem Cod.len {cd : Int32} {n : Nat} {f : Nat → Int32} {V : Cell} (h : Cod cd n f V) (hs : V.slots.size < 2 ^ 31) : Int32.ofNat V.slots.size >>> (cd &&& 31) = Int32.ofNat n := by
  rcases h with ⟨rfl, h, -⟩ | ⟨rfl, h, -⟩
  · rw [shr0, h]
  · rw [h, shr1 (by omega)]
/-- **x is a String of the n chars f 0 .. f (n - 1)**, Latin-1 or UTF-16; its array at t has the cell V -/
def Txt (x t : Addr) (V : Cell) (cd : Int32) (n : Nat) (f : Nat → Int32) (U : State) : Prop := Exact "java/lang/String" x U ∧ Has x "java/lang/String" "value" "[B" (.ref t) U ∧ Has x "java/lang/String" "coder" "B" (.int cd) U ∧ XT.Arr .byte t V U ∧ Cod cd n f V ∧ ∀ j, j < n → ¬ f j < 0 ∧ ¬ 65535 < f j
theorem Txt.mv {x t : Addr} {V : Cell} {cd : Int32} {n : Nat} {f : Nat → Int32} {U U' : State} (h : Txt x t V cd n f U) (hal : U.vm.Alike U'.vm) (hh : U'.heap = U.heap) : Txt x t V cd n f U' := ⟨h.1.mv hal hh, h.2.1.mv hal hh, h.2.2.1.mv hal hh, h.2.2.2.1.mv hal hh, h.2.2.2.2⟩
namespace Cdr
def yN : MethodName := ⟨"java/lang/String", "coder", "()B"⟩
abbrev yB : ByteArray := jdk_42_method_152_code
theorem d0 : decode yB 0 = .ok (.getstatic 38, 3) := by decide +kernel
theorem d3 : decode yB 3 = .ok (.ifCond (.eq) 10, 3) := by decide +kernel
theorem d6 : decode yB 6 = .ok (.aload_n 0, 1) := by decide +kernel
theorem d7 : decode yB 7 = .ok (.getfield 15, 3) := by decide +kernel
theorem d10 : decode yB 10 = .ok (.goto 4, 3) := by decide +kernel
theorem d14 : decode yB 14 = .ok (.ireturn, 1) := by decide +kernel
def site : List Cond := [.fieldLink "java/lang/String" 38 "java/lang/String" "COMPACT_STRINGS" "Z", .fieldLink "java/lang/String" 15 "java/lang/String" "coder" "B"]
def tab : Cond := tabOf yN yB 1 (some .byte) site
def P (x : Addr) (cd z : Int32) (args : Array Value) (s : State) : Prop := args = #[.ref x] ∧ Has x "java/lang/String" "coder" "B" (.int cd) s ∧ (cd = 0 ∨ cd = 1) ∧ StaticIs s "java/lang/String" "COMPACT_STRINGS" "Z" (.int z) ∧ ¬ z = 0
def E (cd : Int32) (r : Option Value) (s u : State) : Prop := XT.PureE (some (.int cd)) r s u
theorem law (l : Launch) (x : Addr) (cd z : Int32) : Law l yN 1 0 0 0 yB 1 (some .byte) site (P x cd z) (E cd) [] 0 0 := by
  refine Law.of_walk (plainFor_of_name (by decide +kernel)) (by decide +kernel) (by decide +kernel) (by decide) (fun _ _ h => by rw [h.1]; rfl) (fun _ U U' hal hh h => ⟨h.1, h.2.1.mv hal hh, h.2.2.1, h.2.2.2.1.there hal hh, h.2.2.2.2⟩) (fun r U U' V V' h1 hal h2 h => XT.PureE.mv r U U' V V' h1 hal h2 h) ?_
  intro p e s m args below meth c s₁ X0 hexec hbytes hml hret hlk hnm hown hh0 W hP
  obtain ⟨rfl, hx, hc, s1, hz⟩ := hP
  have c1 : Steps p.tables e below (s₁.setTop (entryFrame m #[.ref x] 1)) (s₁.setTop (mkF m 0 #[.val (.ref x)] [])) := entry rfl
  obtain ⟨T2, X2, q2, st2⟩ := X0.sget hexec hown (wk W (.fieldLink "java/lang/String" 38 "java/lang/String" "COMPACT_STRINGS" "Z")) s1 (fun _ _ h => by rw [hh0]; exact h) (g := (mkF m 0 #[.val (.ref x)] [])) rfl (hb hbytes d0)
  have hh2 := q2.trans hh0
  have c3 : Steps p.tables e below (s₁.setTop (entryFrame m #[.ref x] 1)) (T2.setTop (mkF m 7 #[.val (.ref x)] [.ref x])) := (c1.trans (st2 _ (Steps.refl _))).trans (by
    refine XS.ifNo X2.here hexec rfl (hb hbytes d3) rfl (i0_eq_f hz) ?_
    refine XS.aloadN X2.here hexec rfl (hb hbytes d6) rfl rfl ?_
    exact Steps.refl _)
  obtain ⟨T4, X4, q4, st4⟩ := X2.hget hexec hown (wk W (.fieldLink "java/lang/String" 15 "java/lang/String" "coder" "B")) (hx.mv X2.warmed.alike hh2) (g := (mkF m 7 #[.val (.ref x)] [.ref x])) rfl (rest := []) rfl (hb hbytes d7)
  have c5 : Steps p.tables e below (s₁.setTop (entryFrame m #[.ref x] 1)) (T4.setTop (mkF m 14 #[.val (.ref x)] [.int cd])) := (c3.trans (st4 _ (Steps.refl _))).trans (by
    refine XS.goto X4.here hexec rfl (pc0 := 10) rfl (hb hbytes d10) (by decide) rfl ?_
    exact Steps.refl _)
  exact ⟨T4, some (.int cd), _, _, _, X4, rfl, rfl, rfl, (fun h => by cases h), ⟨rfl, q4.trans hh2⟩, fun fs hl => c5.trans (X4.ireturnOut hexec hret (by rcases hc with rfl | rfl <;> rfl) (Or.inr (Or.inr (Or.inl rfl))) (hb hbytes d14) hl)⟩
end Cdr
namespace Len
def yN : MethodName := ⟨"java/lang/String", "length", "()I"⟩
abbrev yB : ByteArray := jdk_42_method_54_code
theorem d0 : decode yB 0 = .ok (.aload_n 0, 1) := by decide +kernel
theorem d1 : decode yB 1 = .ok (.getfield 9, 3) := by decide +kernel
theorem d4 : decode yB 4 = .ok (.arraylength, 1) := by decide +kernel
theorem d5 : decode yB 5 = .ok (.aload_n 0, 1) := by decide +kernel
theorem d6 : decode yB 6 = .ok (.invokevirtual 335, 3) := by decide +kernel
theorem d9 : decode yB 9 = .ok (.ishr, 1) := by decide +kernel
theorem d10 : decode yB 10 = .ok (.ireturn, 1) := by decide +kernel
def site : List Cond := [.fieldLink "java/lang/String" 9 "java/lang/String" "value" "[B", Cdr.tab] ++ virtW "java/lang/String" 335 "java/lang/String" Cdr.yN Cdr.yN
def tab : Cond := tabOf yN yB 1 (some .int) site
def P (x t : Addr) (V : Cell) (cd : Int32) (n : Nat) (f : Nat → Int32) (z : Int32) (args : Array Value) (s : State) : Prop := args = #[.ref x] ∧ Txt x t V cd n f s ∧ StaticIs s "java/lang/String" "COMPACT_STRINGS" "Z" (.int z) ∧ ¬ z = 0
def E (n : Nat) (r : Option Value) (s u : State) : Prop := XT.PureE (some (.int (Int32.ofNat n))) r s u
/-- length() of a String of n chars, in either coding -/
theorem law (l : Launch) (x t : Addr) (V : Cell) (cd : Int32) (n : Nat) (f : Nat → Int32) (z : Int32) : Law l yN 1 0 1 13 yB 1 (some .int) site (P x t V cd n f z) (E n) [] 0 0 := by
  refine Law.of_walk (plainFor_of_name (by decide +kernel)) (by decide +kernel) (by decide +kernel) (by decide) (fun _ _ h => by rw [h.1]; rfl) (fun _ U U' hal hh h => ⟨h.1, h.2.1.mv hal hh, h.2.2.1.there hal hh, h.2.2.2⟩) (fun r U U' V V' h1 hal h2 h => XT.PureE.mv r U U' V V' h1 hal h2 h) ?_
  intro p e s m args below meth c s₁ X0 hexec hbytes hml hret hlk hnm hown hh0 W hP
  obtain ⟨rfl, hx, s1, hz⟩ := hP
  have v31 := hx.2.2.2.1.2.2.2
  have c1 : Steps p.tables e below (s₁.setTop (entryFrame m #[.ref x] 1)) (s₁.setTop (mkF m 1 #[.val (.ref x)] [.ref x])) := Steps.trans (entry rfl) (by
    show Steps p.tables e below (s₁.setTop (mkF m 0 #[.val (.ref x)] [])) _
    refine XS.aloadN X0.here hexec rfl (hb hbytes d0) rfl rfl ?_
    exact Steps.refl _)
  obtain ⟨T2, X2, q2, st2⟩ := X0.hget hexec hown (wk W (.fieldLink "java/lang/String" 9 "java/lang/String" "value" "[B")) (hx.mv X0.warmed.alike hh0).2.1 (g := (mkF m 1 #[.val (.ref x)] [.ref x])) rfl (rest := []) rfl (hb hbytes d1)
  have hh2 := q2.trans hh0
  have hx2 := hx.mv X2.warmed.alike hh2
  have c3 : Steps p.tables e below (s₁.setTop (entryFrame m #[.ref x] 1)) (T2.setTop (mkF m 6 #[.val (.ref x)] [.ref x, .int (Int32.ofNat V.slots.size)])) := (c1.trans (st2 _ (Steps.refl _))).trans (by
    refine X2.alen hexec hx2.2.2.2.1 rfl rfl (hb hbytes d4) ?_
    refine XS.aloadN X2.here hexec rfl (hb hbytes d5) rfl rfl ?_
    exact Steps.refl _)
  obtain ⟨v4, T4, X4, E4, g4⟩ := X2.callV hexec (Cdr.law l x cd z) hown (wks W (virtW "java/lang/String" 335 "java/lang/String" Cdr.yN Cdr.yN)) rfl (by decide) (wk W Cdr.tab) (W := 1) (Nat.le_of_ble_eq_true rfl) (Nat.le_of_ble_eq_true rfl) (Nat.le_refl _) (Nat.le_refl _) (hx2.1.fc X2.warmed.alike) hx2.1.is (g := (mkF m 6 #[.val (.ref x)] [.ref x, .int (Int32.ofNat V.slots.size)])) rfl (by rw [hml]; rfl) c3 (argsL := []) (rest := [.int (Int32.ofNat V.slots.size)]) rfl rfl (by show 2 * 0 + (1 + 0) ≤ _; decide) (hb hbytes d6) (⟨rfl, hx2.2.2.1, hx.2.2.2.2.1.cd, s1.there X2.warmed.alike hh2, hz⟩)
  obtain ⟨rfl, q4⟩ := E4
  have c5 : Steps p.tables e below (s₁.setTop (entryFrame m #[.ref x] 1)) (T4.setTop (mkF m 10 #[.val (.ref x)] [.int (Int32.ofNat V.slots.size >>> (cd &&& 31))])) := Steps.trans g4 (by
    refine ishr X4.here hexec rfl (hb hbytes d9) rfl ?_
    exact Steps.refl _)
  rw [hx.2.2.2.2.1.len v31] at c5
  exact ⟨T4, some (.int (Int32.ofNat n)), _, _, _, X4, rfl, rfl, rfl, (fun h => by cases h), ⟨rfl, q4.trans hh2⟩, fun fs hl => c5.trans (X4.ireturnOut hexec hret rfl (Or.inl rfl) (hb hbytes d10) hl)⟩
theorem pays {l : Launch} {R : Room} {p : Program} {e : Env} {below : List Frame} {s : State} {sargs : Array Value} {len W : Nat} (x t : Addr) (V : Cell) (cd : Int32) (n : Nat) (f : Nat → Int32) (z : Int32) (htab : tab.before sargs s = true) (hfr : 2 ≤ R.frames) (hlo : W + 25 ≤ R.locals) :
    Back l R p e below s sargs yN len W (fun A₁ a₁ => A₁.cells + 0 ≤ R.cells ∧ A₁.slots + 0 ≤ R.slots ∧ P x t V cd n f z a₁ A₁.U) (fun A₁ _ v₁ B₁ => E n v₁ A₁.U B₁.U ∧ B₁.locs = A₁.locs ++ [] ∧ B₁.cells = A₁.cells + 0 ∧ B₁.slots = A₁.slots + 0) :=
  (law l x t V cd n f z).pays htab hfr (by omega)
end Len
namespace IsL
def yN : MethodName := ⟨"java/lang/String", "isLatin1", "()Z"⟩
abbrev yB : ByteArray := jdk_42_method_154_code
theorem d0 : decode yB 0 = .ok (.getstatic 38, 3) := by decide +kernel
theorem d3 : decode yB 3 = .ok (.ifCond (.eq) 14, 3) := by decide +kernel
theorem d6 : decode yB 6 = .ok (.aload_n 0, 1) := by decide +kernel
theorem d7 : decode yB 7 = .ok (.getfield 15, 3) := by decide +kernel
theorem d10 : decode yB 10 = .ok (.ifCond (.ne) 7, 3) := by decide +kernel
theorem d13 : decode yB 13 = .ok (.iconst 1, 1) := by decide +kernel
theorem d14 : decode yB 14 = .ok (.goto 4, 3) := by decide +kernel
theorem d17 : decode yB 17 = .ok (.iconst 0, 1) := by decide +kernel
theorem d18 : decode yB 18 = .ok (.ireturn, 1) := by decide +kernel
def site : List Cond := [.fieldLink "java/lang/String" 38 "java/lang/String" "COMPACT_STRINGS" "Z", .fieldLink "java/lang/String" 15 "java/lang/String" "coder" "B"]
def tab : Cond := tabOf yN yB 1 (some .boolean) site
def P (x : Addr) (cd z : Int32) (args : Array Value) (s : State) : Prop := args = #[.ref x] ∧ Has x "java/lang/String" "coder" "B" (.int cd) s ∧ (cd = 0 ∨ cd = 1) ∧ StaticIs s "java/lang/String" "COMPACT_STRINGS" "Z" (.int z) ∧ ¬ z = 0
def E (cd : Int32) (r : Option Value) (s u : State) : Prop := XT.PureE (some (.int (1 - cd))) r s u
theorem law (l : Launch) (x : Addr) (cd z : Int32) : Law l yN 1 0 0 0 yB 1 (some .boolean) site (P x cd z) (E cd) [] 0 0 := by
  refine Law.of_walk (plainFor_of_name (by decide +kernel)) (by decide +kernel) (by decide +kernel) (by decide) (fun _ _ h => by rw [h.1]; rfl) (fun _ U U' hal hh h => ⟨h.1, h.2.1.mv hal hh, h.2.2.1, h.2.2.2.1.there hal hh, h.2.2.2.2⟩) (fun r U U' V V' h1 hal h2 h => XT.PureE.mv r U U' V V' h1 hal h2 h) ?_
  intro p e s m args below meth c s₁ X0 hexec hbytes hml hret hlk hnm hown hh0 W hP
  obtain ⟨rfl, hx, hc, s1, hz⟩ := hP
  have c1 : Steps p.tables e below (s₁.setTop (entryFrame m #[.ref x] 1)) (s₁.setTop (mkF m 0 #[.val (.ref x)] [])) := entry rfl
  obtain ⟨T2, X2, q2, st2⟩ := X0.sget hexec hown (wk W (.fieldLink "java/lang/String" 38 "java/lang/String" "COMPACT_STRINGS" "Z")) s1 (fun _ _ h => by rw [hh0]; exact h) (g := (mkF m 0 #[.val (.ref x)] [])) rfl (hb hbytes d0)
  have hh2 := q2.trans hh0
  have c3 : Steps p.tables e below (s₁.setTop (entryFrame m #[.ref x] 1)) (T2.setTop (mkF m 7 #[.val (.ref x)] [.ref x])) := (c1.trans (st2 _ (Steps.refl _))).trans (by
    refine XS.ifNo X2.here hexec rfl (hb hbytes d3) rfl (i0_eq_f hz) ?_
    refine XS.aloadN X2.here hexec rfl (hb hbytes d6) rfl rfl ?_
    exact Steps.refl _)
  obtain ⟨T4, X4, q4, st4⟩ := X2.hget hexec hown (wk W (.fieldLink "java/lang/String" 15 "java/lang/String" "coder" "B")) (hx.mv X2.warmed.alike hh2) (g := (mkF m 7 #[.val (.ref x)] [.ref x])) rfl (rest := []) rfl (hb hbytes d7)
  have c5 : Steps p.tables e below (s₁.setTop (entryFrame m #[.ref x] 1)) (T4.setTop (mkF m 10 #[.val (.ref x)] [.int cd])) := c3.trans (st4 _ (Steps.refl _))
  have c6 : Steps p.tables e below (s₁.setTop (entryFrame m #[.ref x] 1)) (T4.setTop (mkF m 18 #[.val (.ref x)] [.int (1 - cd)])) := by
    rcases hc with rfl | rfl
    · exact c5.trans (by
        refine XS.ifNo X4.here hexec rfl (hb hbytes d10) rfl (i0_ne_f rfl) ?_
        refine iconstV X4.here hexec rfl 1 (hb hbytes d13) (by decide) ?_
        refine XS.goto X4.here hexec rfl (pc0 := 14) rfl (hb hbytes d14) (by decide) rfl ?_
        exact Steps.refl _)
    · exact c5.trans (by
        refine XS.ifYes X4.here hexec rfl (pc0 := 10) rfl (hb hbytes d10) rfl (i0_ne_t (by decide)) (by decide) rfl ?_
        refine iconstV X4.here hexec rfl 0 (hb hbytes d17) (by decide) ?_
        exact Steps.refl _)
  exact ⟨T4, some (.int (1 - cd)), _, _, _, X4, rfl, rfl, rfl, (fun h => by cases h), ⟨rfl, q4.trans hh2⟩, fun fs hl => c6.trans (X4.ireturnOut hexec hret (by rcases hc with rfl | rfl <;> rfl) (Or.inr (Or.inl rfl)) (hb hbytes d18) hl)⟩
end IsL
namespace LChA
def yN : MethodName := ⟨"java/lang/StringLatin1", "charAt", "([BI)C"⟩
abbrev yB : ByteArray := jdk_43_method_2_code
theorem d0 : decode yB 0 = .ok (.iload_n 1, 1) := by decide +kernel
theorem d1 : decode yB 1 = .ok (.aload_n 0, 1) := by decide +kernel
theorem d2 : decode yB 2 = .ok (.arraylength, 1) := by decide +kernel
theorem d3 : decode yB 3 = .ok (.invokestatic 9, 3) := by decide +kernel
theorem d6 : decode yB 6 = .ok (.aload_n 0, 1) := by decide +kernel
theorem d7 : decode yB 7 = .ok (.iload_n 1, 1) := by decide +kernel
theorem d8 : decode yB 8 = .ok (.baload, 1) := by decide +kernel
theorem d9 : decode yB 9 = .ok (.sipush 255, 3) := by decide +kernel
theorem d12 : decode yB 12 = .ok (.iand, 1) := by decide +kernel
theorem d13 : decode yB 13 = .ok (.i2c, 1) := by decide +kernel
theorem d14 : decode yB 14 = .ok (.ireturn, 1) := by decide +kernel
def site : List Cond := [JO.Str_checkIndex.tab] ++ staticW "java/lang/StringLatin1" 9 JO.Str_checkIndex.yN
def tab : Cond := tabOf yN yB 2 (some .char) site
def P (t : Addr) (V : Cell) (i : Nat) (u : Int32) (fm : Value) (args : Array Value) (s : State) : Prop := args = #[.ref t, .int (Int32.ofNat i)] ∧ XT.Arr .byte t V s ∧ V.slots[i]? = some (.int u) ∧ (StaticIs s "jdk/internal/util/Preconditions" "SIOOBE_FORMATTER" "Ljava/util/function/BiFunction;" fm ∧ fm.isRef = true)
def E (u : Int32) (r : Option Value) (s w : State) : Prop := XT.PureE (some (.int (chr8 u))) r s w
theorem law (l : Launch) (t : Addr) (V : Cell) (i : Nat) (u : Int32) (fm : Value) : Law l yN 2 2 2 27 yB 2 (some .char) site (P t V i u fm) (E u) [] 0 0 := by
  refine Law.of_walk (plainFor_of_name (by decide +kernel)) (by decide +kernel) (by decide +kernel) (by decide) (fun _ _ h => by rw [h.1]; rfl) (fun _ U U' hal hh h => ⟨h.1, h.2.1.mv hal hh, h.2.2.1, h.2.2.2.1.there hal hh, h.2.2.2.2⟩) (fun r U U' V V' h1 hal h2 h => XT.PureE.mv r U U' V V' h1 hal h2 h) ?_
  intro p e s m args below meth c s₁ X0 hexec hbytes hml hret hlk hnm hown hh0 W hP
  obtain ⟨rfl, hV, hu, s1, rf⟩ := hP
  have v31 := hV.2.2.2
  have hi : i < V.slots.size := (Array.getElem?_eq_some_iff.mp hu).1
  have c1 : Steps p.tables e below (s₁.setTop (entryFrame m #[.ref t, .int (Int32.ofNat i)] 2)) (s₁.setTop (mkF m 0 #[.val (.ref t), .val (.int (Int32.ofNat i))] [])) := entry rfl
  have c2 : Steps p.tables e below (s₁.setTop (entryFrame m #[.ref t, .int (Int32.ofNat i)] 2)) (s₁.setTop (mkF m 3 #[.val (.ref t), .val (.int (Int32.ofNat i))] [.int (Int32.ofNat V.slots.size), .int (Int32.ofNat i)])) := c1.trans (by
    refine XS.iloadN X0.here hexec rfl (hb hbytes d0) rfl ?_
    refine XS.aloadN X0.here hexec rfl (hb hbytes d1) rfl rfl ?_
    refine X0.alen hexec (hV.mv X0.warmed.alike hh0) rfl rfl (hb hbytes d2) ?_
    exact Steps.refl _)
  obtain ⟨v3, T3, X3, E3, g3⟩ := X0.callS hexec (JO.Str_checkIndex.law l (Int32.ofNat i) (Int32.ofNat V.slots.size) fm) hown (wks W (staticW "java/lang/StringLatin1" 9 JO.Str_checkIndex.yN)) (wk W JO.Str_checkIndex.tab) (W := 0) (Nat.le_of_ble_eq_true rfl) (Nat.le_of_ble_eq_true rfl) (Nat.le_refl _) (Nat.le_refl _) (g := (mkF m 3 #[.val (.ref t), .val (.int (Int32.ofNat i))] [.int (Int32.ofNat V.slots.size), .int (Int32.ofNat i)])) rfl (by rw [hml]; rfl) c2 (argsL := [.int (Int32.ofNat i), .int (Int32.ofNat V.slots.size)]) (rest := []) rfl rfl (by show 2 * 0 + 0 ≤ _; decide) (hb hbytes d3) (⟨rfl, rf, s1.there X0.warmed.alike hh0, Int32.ofNat_not_neg (by omega), lt32 v31 hi⟩)
  obtain ⟨rfl, q3⟩ := E3
  have hh3 := q3.trans hh0
  have c4 : Steps p.tables e below (s₁.setTop (entryFrame m #[.ref t, .int (Int32.ofNat i)] 2)) (T3.setTop (mkF m 14 #[.val (.ref t), .val (.int (Int32.ofNat i))] [.int (chr8 u)])) := Steps.trans g3 (by
    refine XS.aloadN X3.here hexec rfl (hb hbytes d6) rfl rfl ?_
    refine XS.iloadN X3.here hexec rfl (hb hbytes d7) rfl ?_
    refine X3.aget hexec (hV.mv X3.warmed.alike hh3) rfl hu rfl rfl (hb hbytes d8) ?_
    refine sipushV X3.here hexec rfl 255 (hb hbytes d9) (by decide) ?_
    refine XS.iand X3.here hexec rfl (hb hbytes d12) rfl ?_
    refine i2c X3.here hexec rfl (hb hbytes d13) rfl ?_
    exact Steps.refl _)
  exact ⟨T3, some (.int (chr8 u)), _, _, _, X3, rfl, rfl, rfl, (fun h => by cases h), ⟨rfl, hh3⟩, fun fs hl => c4.trans (X3.ireturnOut hexec hret (narrow_c _) (Or.inr (Or.inr (Or.inr (Or.inl rfl)))) (hb hbytes d14) hl)⟩
end LChA
end StrChars
namespace StrChars.Road
open Jvm Sem ClassFile Op Lib Jvm.Stand Jvm.Free Jvm.Free.XT
open Jvm.Lib.Cold (StaticIs)
theorem consq {a : Array Value} {s : State} {c : Jvm.Cond} {L : List Jvm.Cond} (h0 : c.before a s = true) (h : ∀ w ∈ L, w.before a s = true) : ∀ w ∈ c :: L, w.before a s = true := fun w hw => (List.mem_cons.mp hw).elim (fun e => e ▸ h0) (h w)
/-- the words of String.length(), either coding -/
abbrev wordsLen : List Jvm.Cond := [.code Len.yN Len.yB 1 (some .int), .initialized ST, .fieldLink ST 9 ST "value" "[B", .fieldLink ST 38 ST "COMPACT_STRINGS" "Z", .fieldLink ST 15 ST "coder" "B", .code Cdr.yN Cdr.yB 1 (some .byte), .methodLink ST 335 Cdr.yN, .declares Cdr.yN, .selects ST Cdr.yN Cdr.yN, .instanceMethod Cdr.yN]
theorem tabLen_of {a : Array Value} {s : State} (h : ∀ w ∈ wordsLen, w.before a s = true) : Len.tab.before a s = true := by
  have hc : Cdr.tab.before a s = true := unparts (wk h (.code Cdr.yN Cdr.yB 1 (some .byte))) (wks h (.initialized Cdr.yN.cls :: Cdr.site))
  have q := consq hc h
  exact unparts (wk q (.code Len.yN Len.yB 1 (some .int))) (wks q (.initialized Len.yN.cls :: Len.site))
theorem movedLen {Z s : State} {a0 args : Array Value} (hZ : Z.Warmed39 s.vm) (hw : ∀ d ∈ wordsLen, d.before a0 Z = true) : ∀ d ∈ wordsLen, d.before args s = true := fun d hd => by
  have q := hw d hd
  have t : ∀ d ∈ wordsLen, d = .arrayClass .byte ∨ (d.onTables && d.keepsFace) = true := by decide +kernel
  rcases t d hd with rfl | t
  · exact RoadKit.mvA hZ q
  · exact RoadKit.mv hZ q t
/-- the bytes of the chars cs, low before high -/
def wideBytes : List Int32 → List Value
  | [] => []
  | c :: cs => .int (lo8 c) :: .int (hi8 c) :: wideBytes cs
theorem wide_lo (d : Value) : ∀ (cs : List Int32) (j : Nat), j < cs.length → (wideBytes cs).getD (2 * j) d = .int (lo8 (cs.getD j 0))
  | [], j, h => absurd h (Nat.not_lt_zero j)
  | c :: cs, 0, _ => rfl
  | c :: cs, j + 1, h => by
    have q := wide_lo d cs j (by simpa using h)
    rw [show 2 * (j + 1) = 2 * j + 1 + 1 from by omega]
    simpa [wideBytes] using q
theorem wide_hi (d : Value) : ∀ (cs : List Int32) (j : Nat), j < cs.length → (wideBytes cs).getD (2 * j + 1) d = .int (hi8 (cs.getD j 0))
  | [], j, h => absurd h (Nat.not_lt_zero j)
  | c :: cs, 0, _ => rfl
  | c :: cs, j + 1, h => by
    have q := wide_hi d cs j (by simpa using h)
    rw [show 2 * (j + 1) + 1 = 2 * j + 1 + 1 + 1 from by omega]
    simpa [wideBytes] using q
theorem low_at (d : Value) (cs : List Int32) (j : Nat) (h : j < cs.length) : (cs.map fun c => Value.int (lo8 c)).getD j d = .int (lo8 (cs.getD j 0)) := by
  simp [List.getD_eq_getElem?_getD, h]
/-- an array of N2 bytes vs codes the chars cs by the coder cd -/
def CodA (cs : List Int32) (cd N2 : Int32) (vs : List Value) : Prop := (cd = 0 ∧ N2 = Int32.ofNat cs.length ∧ vs = (cs.map fun c => Value.int (lo8 c)) ∧ ∀ c ∈ cs, ¬ 255 < c) ∨ (cd = 1 ∧ N2 = Int32.ofNat (2 * cs.length) ∧ vs = wideBytes cs ∧ ∃ c ∈ cs, 255 < c)
theorem CodA.cod {cs : List Int32} {cd N2 : Int32} {vs : List Value} {V : Cell} (h : CodA cs cd N2 vs) (hn : 2 * cs.length < 2 ^ 31) (hs : V.slots.size = N2.toNatClampNeg) (hv : RoadKit.Has V vs (.int 0)) : Cod cd cs.length (fun j => cs.getD j 0) V := by
  rcases h with ⟨rfl, rfl, rfl, h⟩ | ⟨rfl, rfl, rfl, c, hc, hw⟩
  · rw [n32 (by omega)] at hs
    exact Or.inl ⟨rfl, hs, fun j hj => ⟨by rw [hv j (by omega), low_at _ _ _ hj], by
      have e : cs.getD j 0 = cs[j] := by simp [List.getD_eq_getElem?_getD, hj]
      show ¬ 255 < cs.getD j 0
      rw [e]; exact h _ (List.getElem_mem _)⟩⟩
  · rw [n32 (by omega)] at hs
    obtain ⟨j, hj, rfl⟩ := List.getElem_of_mem hc
    exact Or.inr ⟨rfl, hs, fun j hj => ⟨by rw [hv _ (by omega), wide_lo _ _ _ hj], by rw [hv _ (by omega), wide_hi _ _ _ hj]⟩, j, hj, by
      have e : cs.getD j 0 = cs[j] := by simp [List.getD_eq_getElem?_getD, hj]
      show 255 < cs.getD j 0
      rw [e]; exact hw⟩
/-- an object of exactly java/lang/String, its two fields found: as the laws ask it -/
theorem strObj {Z U : State} {a0 : Array Value} {kI : Nat} (wi : (Jvm.Cond.instantiable ST kI).before a0 Z = true) (al : Z.vm.Alike U.vm) {x : Addr} {v0 c0 : Value} (E : RoadKit.Exa Z U.heap x ST) (V : RoadKit.Fld Z U.heap x ST "value" "[B" v0) (C : RoadKit.Fld Z U.heap x ST "coder" "B" c0) :
    ∃ (D : Cell) (fV fC : Field), Blank ST x D U ∧ Found ST "value" "[B" fV U ∧ Found ST "coder" "B" fC U ∧ D.slots[fV.slot]? = some v0 ∧ D.slots[fC.slot]? = some c0 ∧ RoadKit.slotOf Z ST "value" "[B" = fV.slot ∧ RoadKit.slotOf Z ST "coder" "B" = fC.slot := by
  obtain ⟨D, cfV, kV, iV, fV, hD, gV, stV, knV, obV, asV, slV⟩ := V
  obtain ⟨D', cfC, kC, iC, fC, hD', gC, stC, -, -, asC, slC⟩ := C
  cases hD.symm.trans hD'
  obtain ⟨D2, kD, e1, e2, e3, e4, e5⟩ := E
  cases hD.symm.trans e1
  obtain ⟨c2, k2, i1, i2, i3, -⟩ := Cond.instantiable_spec wi
  cases e2.symm.trans i1
  cases e3.symm.trans i2
  obtain ⟨kU, u1, u2⟩ := al.2.2 _ _ e3
  exact ⟨D, fV, fC, ⟨hD, ⟨knV, fun q hq => by rw [hq] at obV; cases obV⟩, by rw [al.findClass]; exact e2, kU, u1, by rw [u2]; exact i3, by rw [u2]; exact e5 i3⟩, ⟨SBG.found_only al ⟨cfV, kV, iV, gV⟩, stV⟩, ⟨SBG.found_only al ⟨cfC, kC, iC, gC⟩, stC⟩, slV, slC, by simp [RoadKit.slotOf, gV], by simp [RoadKit.slotOf, gC]⟩
theorem sta_is {Z U : State} (al : Z.vm.Alike U.vm) {C n d : String} {v : Value} (S : RoadKit.Sta Z U.heap C n d v) : StaticIs U C n d v := by
  obtain ⟨cfS, iS, kS, fS, st, cS, t1, t2, t3, t4, t5, t6, t7⟩ := S
  exact StaticIs.there (s := { Z with heap := U.heap }) ⟨cfS, iS, kS, fS, st, cS, t1, t2, t3, t4, t5, (fun q => by rw [q] at t6; cases t6), t7⟩ al rfl
/-- **length() OF SUCH A STRING** -/
theorem lenW {p : Program} {l : Launch} {e : Env} {R : Room} {s : State} {args : Array Value} {below : List Frame} {len W : Nat} {Z : State} {a0 : Array Value} {h : Heap} (hZ : Z.Warmed39 s.vm) (hw : ∀ d ∈ wordsLen, d.before a0 Z = true) {kI : Nat} (wi : (Jvm.Cond.instantiable ST kI).before a0 Z = true)
    {x t : Addr} {kb : ClassId} {cs : List Int32} {cd N2 z : Int32} {vs : List Value} (E : RoadKit.Exa Z h x ST) (V : RoadKit.Fld Z h x ST "value" "[B" (.ref t)) (C : RoadKit.Fld Z h x ST "coder" "B" (.int cd)) (K : RoadKit.Arv Z h t kb .byte N2 vs (.int 0)) (hc : CodA cs cd N2 vs) (hb : ∀ c ∈ cs, ¬ c < 0 ∧ ¬ (65535 : Int32) < c)
    (S : RoadKit.Sta Z h ST "COMPACT_STRINGS" "Z" (.int z)) (hz : ¬ z = 0) (l2 : cs.length ≤ 4000) (hfr : 2 ≤ R.frames) (hlo : W + 25 ≤ R.locals) :
    Back l R p e below s args (⟨"java/lang/String", "length", "()I"⟩ : MethodName) len W (fun P a => a = #[.ref x] ∧ P.U.heap = h ∧ P.cells + 0 ≤ R.cells ∧ P.slots + 0 ≤ R.slots)
      (fun P _ v B => ∃ L, (v = some (.int (Int32.ofNat cs.length)) ∧ L = [] ∧ B.U.heap = h) ∧ B.locs = P.locs ++ L ∧ B.cells = P.cells + 0 ∧ B.slots = P.slots + 0) := by
  obtain ⟨A, K1, K2, K3, K4, K5, K6⟩ := K
  have hcod := hc.cod (by omega) K3 K5
  intro m meth c P g ig mk a X hg hsize hdg hW hn hp'
  obtain ⟨rfl, rfl, r1, r2⟩ := hp'
  have al : Z.vm.Alike P.U.vm := hZ.alike.trans X.warmed.alike
  obtain ⟨D, fV, fC, hB, F1, F2, g1, g2, -, -⟩ := strObj wi al E V C
  have hx : Txt x t A cd cs.length (fun j => cs.getD j 0) P.U := ⟨⟨_, hB.2.2.1, D, hB.1, rfl, by cases q : D.vm <;> first | rfl | exact absurd q (hB.2.1.2 _)⟩, Has.of hB F1 g1, Has.of hB F2 g2, ⟨K1.1, State.isArrayOf_alike al K1.2.1, K1.2.2, by rcases hcod with ⟨-, q, -⟩ | ⟨-, q, -⟩ <;> omega⟩, hcod, fun j hj => by
    have e : cs.getD j 0 = cs[j] := by simp [List.getD_eq_getElem?_getD, hj]
    show ¬ cs.getD j 0 < 0 ∧ ¬ 65535 < cs.getD j 0
    rw [e]; exact hb _ (List.getElem_mem _)⟩
  obtain ⟨v, B, X', ⟨⟨hv, hh⟩, hl, hk, hs⟩, st⟩ := Len.pays x t A cd cs.length (fun j => cs.getD j 0) z (tabLen_of (movedLen hZ hw)) hfr hlo m meth c P g ig mk _ X hg hsize hdg hW hn ⟨r1, r2, rfl, hx, sta_is al S, hz⟩
  exact ⟨v, B, X', ⟨[], ⟨hv, rfl, hh⟩, hl, hk, hs⟩, st⟩
end StrChars.Road
namespace StrChars.Road
open Jvm Sem ClassFile Op Lib Jvm.Stand Jvm.Free Jvm.Free.XT
open Jvm.Lib.Cold (StaticIs)
/-- the road's facts of a String, as the laws ask it -/
theorem txt_of {Z U : State} {a0 : Array Value} {kI : Nat} (wi : (Jvm.Cond.instantiable ST kI).before a0 Z = true) (al : Z.vm.Alike U.vm) {x t : Addr} {kb : ClassId} {cs : List Int32} {cd N2 : Int32} {vs : List Value} (E : RoadKit.Exa Z U.heap x ST) (V : RoadKit.Fld Z U.heap x ST "value" "[B" (.ref t)) (C : RoadKit.Fld Z U.heap x ST "coder" "B" (.int cd)) (K : RoadKit.Arv Z U.heap t kb .byte N2 vs (.int 0)) (hc : CodA cs cd N2 vs) (hb : ∀ c ∈ cs, ¬ c < 0 ∧ ¬ (65535 : Int32) < c) (l2 : cs.length ≤ 4000) :
    ∃ A, Txt x t A cd cs.length (fun j => cs.getD j 0) U := by
  obtain ⟨A, K1, K2, K3, K4, K5, K6⟩ := K
  have hcod := hc.cod (by omega) K3 K5
  obtain ⟨D, fV, fC, hB, F1, F2, g1, g2, -, -⟩ := strObj wi al E V C
  exact ⟨A, ⟨_, hB.2.2.1, D, hB.1, rfl, by cases q : D.vm <;> first | rfl | exact absurd q (hB.2.1.2 _)⟩, Has.of hB F1 g1, Has.of hB F2 g2, ⟨K1.1, State.isArrayOf_alike al K1.2.1, K1.2.2, by rcases hcod with ⟨-, q, -⟩ | ⟨-, q, -⟩ <;> omega⟩, hcod, fun j hj => by
    have e : cs.getD j 0 = cs[j] := by simp [List.getD_eq_getElem?_getD, hj]
    show ¬ cs.getD j 0 < 0 ∧ ¬ 65535 < cs.getD j 0
    rw [e]; exact hb _ (List.getElem_mem _)⟩
end StrChars.Road
namespace StrChars
open Jvm Sem ClassFile Op Lib Jvm.Stand Jvm.Free.XT Jvm.Free.ALB Jvm.Free.JM Jvm.Free
open Jvm.Lib.Cold (StaticIs)
namespace ChN
def yN : MethodName := ⟨"java/lang/String", "charAt", "(I)C"⟩
abbrev yB : ByteArray := jdk_42_method_56_code
theorem d0 : decode yB 0 = .ok (.aload_n 0, 1) := by decide +kernel
theorem d1 : decode yB 1 = .ok (.invokevirtual 492, 3) := by decide +kernel
theorem d4 : decode yB 4 = .ok (.ifCond (.eq) 12, 3) := by decide +kernel
theorem d7 : decode yB 7 = .ok (.aload_n 0, 1) := by decide +kernel
theorem d8 : decode yB 8 = .ok (.getfield 9, 3) := by decide +kernel
theorem d11 : decode yB 11 = .ok (.iload_n 1, 1) := by decide +kernel
theorem d12 : decode yB 12 = .ok (.invokestatic 495, 3) := by decide +kernel
theorem d15 : decode yB 15 = .ok (.ireturn, 1) := by decide +kernel
def site : List Cond := [.fieldLink "java/lang/String" 9 "java/lang/String" "value" "[B", IsL.tab, LChA.tab] ++ virtW "java/lang/String" 492 "java/lang/String" IsL.yN IsL.yN ++ staticW "java/lang/String" 495 LChA.yN
def tab : Cond := tabOf yN yB 2 (some .char) site
def P (x t : Addr) (V : Cell) (n : Nat) (f : Nat → Int32) (z : Int32) (fm : Value) (i : Nat) (args : Array Value) (s : State) : Prop := args = #[.ref x, .int (Int32.ofNat i)] ∧ Txt x t V 0 n f s ∧ i < n ∧ StaticIs s "java/lang/String" "COMPACT_STRINGS" "Z" (.int z) ∧ ¬ z = 0 ∧ StaticIs s "jdk/internal/util/Preconditions" "SIOOBE_FORMATTER" "Ljava/util/function/BiFunction;" fm ∧ fm.isRef = true
def E (f : Nat → Int32) (i : Nat) (r : Option Value) (s u : State) : Prop := XT.PureE (some (.int (f i))) r s u
/-- charAt(i) of a Latin-1 String of n chars, i < n: f i -/
theorem law (l : Launch) (x t : Addr) (V : Cell) (n : Nat) (f : Nat → Int32) (z : Int32) (fm : Value) (i : Nat) : Law l yN 2 1 3 40 yB 2 (some .char) site (P x t V n f z fm i) (E f i) [] 0 0 := by
  refine Law.of_walk (plainFor_of_name (by decide +kernel)) (by decide +kernel) (by decide +kernel) (by decide) (fun _ _ h => by rw [h.1]; rfl) (fun _ U U' hal hh h => ⟨h.1, h.2.1.mv hal hh, h.2.2.1, h.2.2.2.1.there hal hh, h.2.2.2.2.1, h.2.2.2.2.2.1.there hal hh, h.2.2.2.2.2.2⟩) (fun r U U' V V' h1 hal h2 h => XT.PureE.mv r U U' V V' h1 hal h2 h) ?_
  intro p e s m args below meth c s₁ X0 hexec hbytes hml hret hlk hnm hown hh0 W hP
  obtain ⟨rfl, hx, hi, s1, hz, s3, rf⟩ := hP
  have v31 := hx.2.2.2.1.2.2.2
  have hr := hx.2.2.2.2.2 i hi
  have hx0 := hx.mv X0.warmed.alike hh0
  have c1 : Steps p.tables e below (s₁.setTop (entryFrame m #[.ref x, .int (Int32.ofNat i)] 2)) (s₁.setTop (mkF m 1 #[.val (.ref x), .val (.int (Int32.ofNat i))] [.ref x])) := Steps.trans (entry rfl) (by
    show Steps p.tables e below (s₁.setTop (mkF m 0 #[.val (.ref x), .val (.int (Int32.ofNat i))] [])) _
    refine XS.aloadN X0.here hexec rfl (hb hbytes d0) rfl rfl ?_
    exact Steps.refl _)
  obtain ⟨v2, T2, X2, E2, g2⟩ := X0.callV hexec (IsL.law l x 0 z) hown (wks W (virtW "java/lang/String" 492 "java/lang/String" IsL.yN IsL.yN)) rfl (by decide) (wk W IsL.tab) (W := 0) (Nat.le_of_ble_eq_true rfl) (Nat.le_of_ble_eq_true rfl) (Nat.le_refl _) (Nat.le_refl _) (hx0.1.fc X0.warmed.alike) hx0.1.is (g := (mkF m 1 #[.val (.ref x), .val (.int (Int32.ofNat i))] [.ref x])) rfl (by rw [hml]; rfl) c1 (argsL := []) (rest := []) rfl rfl (by show 2 * 0 + 0 ≤ _; decide) (hb hbytes d1) (⟨rfl, hx0.2.2.1, hx.2.2.2.2.1.cd, s1.there X0.warmed.alike hh0, hz⟩)
  obtain ⟨rfl, q2⟩ := E2
  have hh2 := q2.trans hh0
  have hx2 := hx.mv X2.warmed.alike hh2
  obtain ⟨-, k1, k2⟩ | ⟨k0, -⟩ := hx.2.2.2.2.1
  · have c3 : Steps p.tables e below (s₁.setTop (entryFrame m #[.ref x, .int (Int32.ofNat i)] 2)) (T2.setTop (mkF m 8 #[.val (.ref x), .val (.int (Int32.ofNat i))] [.ref x])) := Steps.trans g2 (by
      refine XS.ifNo X2.here hexec rfl (hb hbytes d4) rfl (i0_eq_f (by decide)) ?_
      refine XS.aloadN X2.here hexec rfl (hb hbytes d7) rfl rfl ?_
      exact Steps.refl _)
    obtain ⟨T4, X4, q4, st4⟩ := X2.hget hexec hown (wk W (.fieldLink "java/lang/String" 9 "java/lang/String" "value" "[B")) hx2.2.1 (g := (mkF m 8 #[.val (.ref x), .val (.int (Int32.ofNat i))] [.ref x])) rfl (rest := []) rfl (hb hbytes d8)
    have hh4 := q4.trans hh2
    have c5 : Steps p.tables e below (s₁.setTop (entryFrame m #[.ref x, .int (Int32.ofNat i)] 2)) (T4.setTop (mkF m 12 #[.val (.ref x), .val (.int (Int32.ofNat i))] [.int (Int32.ofNat i), .ref t])) := (c3.trans (st4 _ (Steps.refl _))).trans (by
      refine XS.iloadN X4.here hexec rfl (hb hbytes d11) rfl ?_
      exact Steps.refl _)
    obtain ⟨v6, T6, X6, E6, g6⟩ := X4.callS hexec (LChA.law l t V i (lo8 (f i)) fm) hown (wks W (staticW "java/lang/String" 495 LChA.yN)) (wk W LChA.tab) (W := 0) (Nat.le_of_ble_eq_true rfl) (Nat.le_of_ble_eq_true rfl) (Nat.le_refl _) (Nat.le_refl _) (g := (mkF m 12 #[.val (.ref x), .val (.int (Int32.ofNat i))] [.int (Int32.ofNat i), .ref t])) rfl (by rw [hml]; rfl) c5 (argsL := [.ref t, .int (Int32.ofNat i)]) (rest := []) rfl rfl (by show 2 * 0 + 0 ≤ _; decide) (hb hbytes d12) (⟨rfl, hx.2.2.2.1.mv X4.warmed.alike hh4, (k2 i hi).1, s3.there X4.warmed.alike hh4, rf⟩)
    obtain ⟨rfl, q6⟩ := E6
    rw [chr8_lo8 hr.1 (k2 i hi).2] at g6
    exact ⟨T6, some (.int (f i)), _, _, _, X6, rfl, rfl, rfl, (fun h => by cases h), ⟨rfl, q6.trans hh4⟩, fun fs hl => Steps.trans g6 (X6.ireturnOut hexec hret (narrow_ch hr.1 hr.2) (Or.inr (Or.inr (Or.inr (Or.inl rfl)))) (hb hbytes d15) hl)⟩
  · exact absurd k0 (by decide)
theorem pays {l : Launch} {R : Room} {p : Program} {e : Env} {below : List Frame} {s : State} {sargs : Array Value} {len W : Nat} (x t : Addr) (V : Cell) (n : Nat) (f : Nat → Int32) (z : Int32) (fm : Value) (i : Nat) (htab : tab.before sargs s = true) (hfr : 4 ≤ R.frames) (hlo : W + 53 ≤ R.locals) :
    Back l R p e below s sargs yN len W (fun A₁ a₁ => A₁.cells + 0 ≤ R.cells ∧ A₁.slots + 0 ≤ R.slots ∧ P x t V n f z fm i a₁ A₁.U) (fun A₁ _ v₁ B₁ => E f i v₁ A₁.U B₁.U ∧ B₁.locs = A₁.locs ++ [] ∧ B₁.cells = A₁.cells + 0 ∧ B₁.slots = A₁.slots + 0) :=
  (law l x t V n f z fm i).pays htab hfr (by omega)
end ChN
end StrChars
namespace StrChars.Road
open Jvm Sem ClassFile Op Lib Jvm.Stand Jvm.Free Jvm.Free.XT
open Jvm.Lib.Cold (StaticIs)
/-- the words of String.charAt(int), the Latin-1 road alone -/
abbrev wordsChN : List Jvm.Cond := [.code ChN.yN ChN.yB 2 (some .char), .initialized ST, .fieldLink ST 9 ST "value" "[B", .fieldLink ST 38 ST "COMPACT_STRINGS" "Z", .fieldLink ST 15 ST "coder" "B", .code IsL.yN IsL.yB 1 (some .boolean), .methodLink ST 492 IsL.yN, .declares IsL.yN, .selects ST IsL.yN IsL.yN, .instanceMethod IsL.yN,
  .methodLink ST 495 LChA.yN, .static LChA.yN, .code LChA.yN LChA.yB 2 (some .char), .initialized "java/lang/StringLatin1", .methodLink "java/lang/StringLatin1" 9 JO.Str_checkIndex.yN, .static JO.Str_checkIndex.yN, .code JO.Str_checkIndex.yN JO.Str_checkIndex.yB 2 none,
  .fieldLink ST 1053 "jdk/internal/util/Preconditions" "SIOOBE_FORMATTER" "Ljava/util/function/BiFunction;", .methodLink ST 1059 JC.PreCheck.yN, .static JC.PreCheck.yN, .code JC.PreCheck.yN JC.PreCheck.yB 3 (some .int), .initialized "jdk/internal/util/Preconditions"]
theorem tabChN_of {a : Array Value} {s : State} (h : ∀ w ∈ wordsChN, w.before a s = true) : ChN.tab.before a s = true := by
  have hp : JC.PreCheck.tab.before a s = true := unparts (wk h (.code JC.PreCheck.yN JC.PreCheck.yB 3 (some .int))) (wks h (.initialized JC.PreCheck.yN.cls :: JC.PreCheck.site))
  have qk := consq hp h
  have hk : JO.Str_checkIndex.tab.before a s = true := unparts (wk qk (.code JO.Str_checkIndex.yN JO.Str_checkIndex.yB 2 none)) (wks qk (.initialized JO.Str_checkIndex.yN.cls :: JO.Str_checkIndex.site))
  have ql := consq hk h
  have hl : LChA.tab.before a s = true := unparts (wk ql (.code LChA.yN LChA.yB 2 (some .char))) (wks ql (.initialized LChA.yN.cls :: LChA.site))
  have hi : IsL.tab.before a s = true := unparts (wk h (.code IsL.yN IsL.yB 1 (some .boolean))) (wks h (.initialized IsL.yN.cls :: IsL.site))
  have q := consq hi (consq hl h)
  exact unparts (wk q (.code ChN.yN ChN.yB 2 (some .char))) (wks q (.initialized ChN.yN.cls :: ChN.site))
theorem movedChN {Z s : State} {a0 args : Array Value} (hZ : Z.Warmed39 s.vm) (hw : ∀ d ∈ wordsChN, d.before a0 Z = true) : ∀ d ∈ wordsChN, d.before args s = true := fun d hd => by
  have t : ∀ d ∈ wordsChN, (d.onTables && d.keepsFace) = true := by decide +kernel
  exact RoadKit.mv hZ (hw d hd) (t d hd)
/-- **charAt(i) OF A LATIN-1 STRING**, i < n: the char -/
theorem chN {p : Program} {l : Launch} {e : Env} {R : Room} {s : State} {args : Array Value} {below : List Frame} {len W : Nat} {Z : State} {a0 : Array Value} {h : Heap} (hZ : Z.Warmed39 s.vm) (hw : ∀ d ∈ wordsChN, d.before a0 Z = true) {kI : Nat} (wi : (Jvm.Cond.instantiable ST kI).before a0 Z = true)
    {x t : Addr} {kb : ClassId} {cs : List Int32} {N2 z : Int32} {vs : List Value} {fm : Value} {i : Nat} {j : Int32} (E : RoadKit.Exa Z h x ST) (V : RoadKit.Fld Z h x ST "value" "[B" (.ref t)) (C : RoadKit.Fld Z h x ST "coder" "B" (.int 0)) (K : RoadKit.Arv Z h t kb .byte N2 vs (.int 0)) (hc : CodA cs 0 N2 vs) (hb : ∀ c ∈ cs, ¬ c < 0 ∧ ¬ (65535 : Int32) < c)
    (S : RoadKit.Sta Z h ST "COMPACT_STRINGS" "Z" (.int z)) (hz : ¬ z = 0) (F : RoadKit.Sta Z h "jdk/internal/util/Preconditions" "SIOOBE_FORMATTER" "Ljava/util/function/BiFunction;" fm) (rf : fm.isRef = true) (l2 : cs.length ≤ 4000) (hi : i < cs.length) (hj : j = Int32.ofNat i) (hfr : 4 ≤ R.frames) (hlo : W + 53 ≤ R.locals) :
    Back l R p e below s args (⟨"java/lang/String", "charAt", "(I)C"⟩ : MethodName) len W (fun P a => a = #[.ref x, .int j] ∧ P.U.heap = h ∧ P.cells + 0 ≤ R.cells ∧ P.slots + 0 ≤ R.slots)
      (fun P _ v B => ∃ L, (v = some (.int (cs.getD i 0)) ∧ L = [] ∧ B.U.heap = h) ∧ B.locs = P.locs ++ L ∧ B.cells = P.cells + 0 ∧ B.slots = P.slots + 0) := by
  subst hj
  intro m meth c P g ig mk a X hg hsize hdg hW hn hp'
  obtain ⟨rfl, rfl, r1, r2⟩ := hp'
  have al : Z.vm.Alike P.U.vm := hZ.alike.trans X.warmed.alike
  obtain ⟨A, hx⟩ := txt_of wi al E V C K hc hb l2
  obtain ⟨v, B, X', ⟨⟨hv, hh⟩, hl, hk, hs⟩, st⟩ := ChN.pays x t A cs.length (fun j => cs.getD j 0) z fm i (tabChN_of (movedChN hZ hw)) hfr hlo m meth c P g ig mk _ X hg hsize hdg hW hn ⟨r1, r2, rfl, hx, hi, sta_is al S, hz, sta_is al F, rf⟩
  exact ⟨v, B, X', ⟨[], ⟨hv, rfl, hh⟩, hl, hk, hs⟩, st⟩
/-- what backV says of its String, as the contracts of this text ask it: cs's low bytes, coder 0 -/
theorem codOf {cs : List Int32} {n : Nat} (hn : cs.length = n) (hb : ∀ c ∈ cs, ¬ 255 < c) : CodA cs 0 (Int32.ofNat n) ((cs.map lo8).map Value.int) := Or.inl ⟨rfl, by rw [hn], by simp [List.map_map, Function.comp_def], hb⟩
end StrChars.Road
end Jvm.Pilot.@@N@@
namespace Jvm.Pilot.@@N@@
open Jvm Jvm.ClassFile Sem Op Lib Jvm.Free Jvm.Stand Jvm.LawKit Jvm.RoadKit Bundle Jvm.Pilot.@@N@@.Jvm.D
theorem tw {Z : State} {a0 : Array Value} (hw : ∀ d ∈ tables_1, d.before a0 Z = true) (i : Nat) {d : Jvm.Cond} (h : tables_1[i]? = some d) : d.before a0 Z = true := hw d (List.mem_of_getElem? h)
abbrev MF (l : Launch) (Z : State) (y : MethodName) (cd : Jvm.Cond) (ws : List Jvm.Cond) (rm : Room) (A : Array Value) (h0 : Heap) (Q : Option Value → Heap → List Loc → Prop) : Prop := MetFree l y (head1 (cd :: ws) rm) (fun a U => a = A ∧ Z.Warmed39 U.vm ∧ U.heap = h0) (fun _ _ _ _ _ => True) (fun _ U o U' => ∃ v L, o = .returned v ∧ Q v U'.heap L ∧ FrameEnd U o U' L rm.cells rm.slots)
def Fine (p : Program) (e : Env) (below : List Frame) (s : State) (n0 : Nat) (S0 : State) : Prop := ∃ s₂ o, Steps p.tables e below S0 s₂ ∧ s₂.status = .running ∧ Ended s₂ below o ∧ ∃ v L, o = .returned v ∧ (v = some (.int (1 : Int32)) ∧ Fr n0 L) ∧ FrameEnd s o s₂ L room_1.cells room_1.slots
theorem Fine.pre {p : Program} {e : Env} {below : List Frame} {s S0 S1 : State} {n0 : Nat} (k : ∀ t, Steps p.tables e below S1 t → Steps p.tables e below S0 t) (h : Fine p e below s n0 S1) : Fine p e below s n0 S0 := by
  obtain ⟨u, o, h1, h2⟩ := h; exact ⟨u, o, k _ h1, h2⟩
def FineW (p : Program) (e : Env) (below : List Frame) (s : State) (n0 : Nat) (S0 : State) : Prop := ∃ s₂ o, Steps p.tables e below S0 s₂ ∧ s₂.status = .running ∧ Ended s₂ below o ∧ ∃ v L, o = .returned v ∧ (v = some (.int (1 : Int32)) ∧ Fr n0 L) ∧ ReturnedEndW s o s₂ L room_1.cells room_1.slots
theorem FineW.pre {p : Program} {e : Env} {below : List Frame} {s S0 S1 : State} {n0 : Nat} (k : ∀ t, Steps p.tables e below S1 t → Steps p.tables e below S0 t) (h : FineW p e below s n0 S1) : FineW p e below s n0 S0 := by
  obtain ⟨u, o, h1, h2⟩ := h; exact ⟨u, o, k _ h1, h2⟩
abbrev MFW (l : Launch) (Z : State) (y : MethodName) (cd : Jvm.Cond) (ws : List Jvm.Cond) (rm : Room) (A : Array Value) (h0 : Heap) (Q : Option Value → Heap → List Loc → Prop) : Prop := MetFree l y (head1 (cd :: ws) rm) (fun a U => a = A ∧ Z.Warmed39 U.vm ∧ U.heap = h0) (fun _ _ _ _ _ => True) (fun _ U o U' => ∃ v L, o = .returned v ∧ Q v U'.heap L ∧ ReturnedEndW U o U' L rm.cells rm.slots)
theorem own_enter {l : Launch} {Z : State} {y : MethodName} {bytes : ByteArray} {maxL : Nat} {rt : Option FieldType} {ws : List Jvm.Cond} {rm : Room} {A : Array Value} {h0 : Heap} {Q : Option Value → Heap → List Loc → Prop} (hp : plainFor y = true)
    (k : ∀ (p : Program) (e : Env) (s : State) (m : MethodId) (below : List Frame) (meth : Method) (c : Code) (s₁ : State), Stand p l e rm s m A below meth c s₁ [] 0 0 → p.tables.exec = Jvm.exec → c.code = bytes → c.maxLocals = maxL → s.vm.findClass y.cls = some m.cls → meth.name = y.name → Z.Warmed39 s.vm → s₁.heap = h0 → meth.sig.returnType = rt → meth.locks = false →
      ∃ s₂ o, Steps p.tables e below (s₁.setTop (entryFrame m A maxL)) s₂ ∧ s₂.status = .running ∧ Ended s₂ below o ∧ ∃ v L, o = .returned v ∧ Q v s₂.heap L ∧ FrameEnd s o s₂ L rm.cells rm.slots) : MF l Z y (Jvm.Cond.code y bytes maxL rt) ws rm A h0 Q := by
  refine MetFree.of_bodySF hp hisR ?_
  intro p e s m args below meth c s₁ Bd hml0 hP hK
  obtain ⟨rfl, hZ, hh⟩ := hP
  exact k p e s m below meth c s₁ (Stand.of_body Bd) Bd.exec Bd.bytes hml0 (findClass_of_methodNamed Bd.named) (name_of_methodNamed Bd.named Bd.method).1 hZ (by rw [← hh, Bd.state]; rfl) Bd.returns (by first | assumption | exact BodyLoose.notSynchronized Bd | exact Body.notSynchronized Bd)
theorem own_enterW {l : Launch} {Z : State} {y : MethodName} {bytes : ByteArray} {maxL : Nat} {rt : Option FieldType} {ws : List Jvm.Cond} {rm : Room} {A : Array Value} {h0 : Heap} {Q : Option Value → Heap → List Loc → Prop} (hp : plainFor y = true)
    (k : ∀ (p : Program) (e : Env) (s : State) (m : MethodId) (below : List Frame) (meth : Method) (c : Code) (s₁ : State), Stand p l e rm s m A below meth c s₁ [] 0 0 → p.tables.exec = Jvm.exec → c.code = bytes → c.maxLocals = maxL → s.vm.findClass y.cls = some m.cls → meth.name = y.name → Z.Warmed39 s.vm → s₁.heap = h0 → meth.sig.returnType = rt → meth.locks = false →
      ∃ s₂ o, Steps p.tables e below (s₁.setTop (entryFrame m A maxL)) s₂ ∧ s₂.status = .running ∧ Ended s₂ below o ∧ ∃ v L, o = .returned v ∧ Q v s₂.heap L ∧ ReturnedEndW s o s₂ L rm.cells rm.slots) : MFW l Z y (Jvm.Cond.code y bytes maxL rt) ws rm A h0 Q := by
  refine MetFree.of_bodySF hp hisR ?_
  intro p e s m args below meth c s₁ Bd hml0 hP hK
  obtain ⟨rfl, hZ, hh⟩ := hP
  exact k p e s m below meth c s₁ (Stand.of_body Bd) Bd.exec Bd.bytes hml0 (findClass_of_methodNamed Bd.named) (name_of_methodNamed Bd.named Bd.method).1 hZ (by rw [← hh, Bd.state]; rfl) Bd.returns (by first | assumption | exact BodyLoose.notSynchronized Bd | exact Body.notSynchronized Bd)
abbrev SF (p : Program) (e : Env) (below : List Frame) (T : State) (g : JFrame) (t : State) : Prop := Steps p.tables e below (T.setTop g) t
abbrev HW (Z : State) (a0 : Array Value) : Prop := ∀ d ∈ tables_1, d.before a0 Z = true
abbrev zs0 : String := "()Ljava/lang/String;"
abbrev zs1 : String := "(I)Lcom/example/umask/umask/Rights;"
abbrev zs2 : String := "(Lcom/example/umask/umask/Rights;)Z"
abbrev zs3 : String := "(Lcom/example/umask/umask/Rights;C)C"
abbrev zs4 : String := "Lcom/example/umask/umask/Rights;"
abbrev zs5 : String := "Ljava/util/function/BiFunction;"
abbrev zs6 : String := "[Lcom/example/umask/umask/Rights;"
abbrev zs7 : String := "com/example/umask/umask/Rights"
abbrev zs8 : String := "com/example/umask/umask/RightsOfPinLaw"
abbrev zs9 : String := "jdk/internal/util/Preconditions"
theorem own_and7 (a : Int32) : (a &&& (7 : Int32)) = (0 : Int32) ∨ (a &&& (7 : Int32)) = (1 : Int32) ∨ (a &&& (7 : Int32)) = (2 : Int32) ∨ (a &&& (7 : Int32)) = (3 : Int32) ∨ (a &&& (7 : Int32)) = (4 : Int32) ∨ (a &&& (7 : Int32)) = (5 : Int32) ∨ (a &&& (7 : Int32)) = (6 : Int32) ∨ (a &&& (7 : Int32)) = (7 : Int32) := by
  have h1 := (c_and a (7 : Int32)) (by decide)
  have e : (7 : Int32).toInt = 7 := rfl
  rw [e] at h1
  simp only [← Int32.toInt_inj]
  show _ = (0 : Int) ∨ _ = (1 : Int) ∨ _ = (2 : Int) ∨ _ = (3 : Int) ∨ _ = (4 : Int) ∨ _ = (5 : Int) ∨ _ = (6 : Int) ∨ _ = (7 : Int)
  omega
theorem own_chars (x : Int32) : ¬ nar .char ((x &&& (255 : Int32)).toUInt32.toUInt16.toUInt32.toInt32) < 0 ∧ ¬ (255 : Int32) < nar .char ((x &&& (255 : Int32)).toUInt32.toUInt16.toUInt32.toInt32) := by
  have t : ∀ k : Fin 256, ¬ nar .char ((Int32.ofNat k.val).toUInt32.toUInt16.toUInt32.toInt32) < 0 ∧ ¬ (255 : Int32) < nar .char ((Int32.ofNat k.val).toUInt32.toUInt16.toUInt32.toInt32) := by decide +kernel
  have h : (x &&& 255).toBitVec.toNat < 256 := by
    simp only [Int32.toBitVec_and, BitVec.toNat_and]
    exact Nat.lt_succ_of_le Nat.and_le_right
  have e : (x &&& 255) = Int32.ofNat (x &&& 255).toBitVec.toNat := by
    apply Int32.toBitVec_inj.mp
    show _ = BitVec.ofNat 32 _
    rw [BitVec.ofNat_toNat]; simp
  rw [e]
  exact t ⟨_, h⟩
theorem own_up (cs : List Int32) (h : ∀ c ∈ cs, ¬ c < 0 ∧ ¬ (255 : Int32) < c) : ∀ c ∈ cs, ¬ c < 0 ∧ ¬ (65535 : Int32) < c := fun c hc => ⟨(h c hc).1, fun q => (h c hc).2 (by rw [Int32.lt_iff_toInt_lt] at q ⊢; have e1 : (65535 : Int32).toInt = 65535 := rfl; have e2 : (255 : Int32).toInt = 255 := rfl; omega)⟩
theorem d1_0 : decode prog_35_method_2_code 0 = .ok (.iload_n 0, 1) := by decide +kernel
theorem d1_1 : decode prog_35_method_2_code 1 = .ok (.ifCond .lt 9, 3) := by decide +kernel
theorem d1_4 : decode prog_35_method_2_code 4 = .ok (.iload_n 0, 1) := by decide +kernel
theorem d1_5 : decode prog_35_method_2_code 5 = .ok (.bipush 7, 2) := by decide +kernel
theorem d1_7 : decode prog_35_method_2_code 7 = .ok (.if_icmp .le 17, 3) := by decide +kernel
theorem d1_24 : decode prog_35_method_2_code 24 = .ok (.getstatic 22, 3) := by decide +kernel
theorem d1_27 : decode prog_35_method_2_code 27 = .ok (.iload_n 0, 1) := by decide +kernel
theorem d1_28 : decode prog_35_method_2_code 28 = .ok (.aaload, 1) := by decide +kernel
theorem d1_29 : decode prog_35_method_2_code 29 = .ok (.areturn, 1) := by decide +kernel
theorem pn_0 : plainName zs7 = true := by first | (simp [plainName, overriddenIn]; done) | decide +kernel
theorem ef_0 (m : MethodId) (x0 : Int32) : entryFrame m #[(.int x0)] 1 = mkF m 0 #[.val (.int x0)] [] := by first | (simp [entryFrame, mkF, argsToLocals, Value.category]; done) | rfl
-- Rights.of 
def Q1_1 (Z : State) (w1 : Addr) (kw1 : ClassId) (w2 : Addr) (w6 : Addr) (w5 : Addr) (w3 : Addr) (w4 : Addr) (w8 : Addr) (w7 : Addr) (w9 : Addr) (h0 : Heap) (n0 : Nat) (v : Option Value) (h : Heap) (L : List Loc) : Prop := v = some (.ref w2) ∧ Fr n0 L ∧ h = h0
set_option maxRecDepth 65536 in
set_option maxHeartbeats 40000000 in
theorem rm1_1 (l : Launch) (Z : State) (a0 : Array Value) (hw : HW Z a0) (ws : List Jvm.Cond) (w1 : Addr) (kw1 : ClassId) (w2 : Addr) (w6 : Addr) (w5 : Addr) (w3 : Addr) (w4 : Addr) (w8 : Addr) (w7 : Addr) (w9 : Addr) (h0 : Heap) (n0 : Nat) (Z0 : n0 ≤ h0.size) (Sg4 : Sta Z Z.heap zs7 "SETS" zs6 (.ref w1)) (P2 : Old Z n0 h0) (V_w1 : Arv Z Z.heap w1 kw1 (.object zs7) (8 : Int32) [(.ref w2), (.ref w6), (.ref w5), (.ref w3), (.ref w4), (.ref w8), (.ref w7), (.ref w9)] .null) :
    MF l Z (⟨zs7, "of", zs1⟩ : MethodName) (Jvm.Cond.code (⟨zs7, "of", zs1⟩ : MethodName) prog_35_method_2_code 1 (some (.object zs7))) ws ({ frames := 0, cells := 0, slots := 0, locals := 0 } : Room) #[(.int 0)] h0 (Q1_1 Z w1 kw1 w2 w6 w5 w3 w4 w8 w7 w9 h0 n0) := by
  refine own_enter (plainFor_of_name pn_0) fun p e s m below meth c s₁ X0 hx hby hml hown hnm hZ e0 hre hlk => ?_
  have N0 := Fr.nil n0
  have pre0 : ∀ t, SF p e below s₁ (mkF m 0 #[iv 0] []) t → SF p e below s₁ (entryFrame m #[(.int 0)] 1) t := fun t k => castTop (ef_0 m (0 : Int32)) k
  obtain ⟨T1, X1, e1, st1⟩ := getS2 X0 hx hZ hown (host := "") (Or.inl (tw hw 4 rfl)) Via.refl e0 (Sg4.ext P2.2) (g := (mkF m 24 #[iv 0] [])) rfl (hb hby d1_24)
  obtain ⟨cl2, Ar2, q2, S2, N2z, H2, G2⟩ := id (V_w1.ext P2.2)
  have hin2 : ¬ ((0 : Int32) < 0 ∨ cl2.slots.size ≤ ((0 : Int32)).toNatClampNeg) := inb_of S2 ⟨by decide, by decide⟩
  have hat2 : cl2.slots[((0 : Int32)).toNatClampNeg]? = some (.ref w2) := Has.at H2 hin2 rfl
  obtain ⟨fs, hr, hrun, hended, hW, hsame⟩ := X1.leave (v := some (.ref w2)) (fun h => by rw [hre] at h; cases h)
  refine ⟨_, _, pre0 _ ?_, hrun, hended, _, _, rfl, ?_, ⟨_, rfl⟩, hW, hsame.mono (by decide) (by decide)⟩
  · show SF p e below s₁ (mkF m 0 #[iv 0] []) _
    refine XS.iloadN X0.here hx rfl (hb hby d1_0) rfl ?_
    show SF p e below s₁ (mkF m 1 #[iv 0] [(.int 0)]) _
    refine XS.ifNo X0.here hx rfl (hb hby d1_1) rfl ((if0 _ _).trans (flt (by decide : ¬ ((0 : Int32) < (0 : Int32)))).1) ?_
    show SF p e below s₁ (mkF m 4 #[iv 0] []) _
    refine XS.iloadN X0.here hx rfl (hb hby d1_4) rfl ?_
    refine XS.bipush X0.here hx rfl (hb hby d1_5) ?_
    show SF p e below s₁ (mkF m 7 #[iv 0] [(.int 7), (.int 0)]) _
    refine XS.icmpYes X0.here hx rfl (pc0 := 7) (pc' := 24) rfl (hb hby d1_7) rfl (flt (by decide : ¬ ((7 : Int32) < (0 : Int32)))).2.2.2 (by decide) (by decide) ?_
    show SF p e below s₁ (mkF m 24 #[iv 0] []) _
    refine st1 _ ?_
    show SF p e below T1 (mkF m 27 #[iv 0] [(.ref w1)]) _
    refine XS.iloadN X1.here hx rfl (hb hby d1_27) rfl ?_
    show SF p e below T1 (mkF m 28 #[iv 0] [(.int 0), (.ref w1)]) _
    refine X1.aaload hx (j := (0 : Int32)) (v := (.ref w2)) (by rw [e1]; exact Ar2.1) (State.isArrayOf_alike hZ.alike Ar2.2.1) rfl Ar2.2.2 hin2 hat2 (g := (mkF m 28 #[iv 0] [(.int 0), (.ref w1)])) rfl rfl (hb hby d1_28) _ ?_
    show SF p e below T1 (mkF m 29 #[iv 0] [(.ref w2)]) _
    exact own_retR X1 hx hre rfl rfl (hb hby d1_29) hr
  · show Q1_1 Z w1 kw1 w2 w6 w5 w3 w4 w8 w7 w9 h0 n0 _ T1.heap _
    rw [e1]
    exact ⟨rfl, N0, rfl⟩
theorem pd_0 : parseMethodDescriptor zs1 = some ⟨[.int], some (.object zs7)⟩ := by decide +kernel
theorem d2_0 : decode prog_35_method_3_code 0 = .ok (.aload_n 0, 1) := by decide +kernel
theorem d2_1 : decode prog_35_method_3_code 1 = .ok (.getfield 7, 3) := by decide +kernel
theorem d2_4 : decode prog_35_method_3_code 4 = .ok (.ireturn, 1) := by decide +kernel
theorem ef_1 (m : MethodId) (x0 : Addr) : entryFrame m #[(.ref x0)] 1 = mkF m 0 #[.val (.ref x0)] [] := by first | (simp [entryFrame, mkF, argsToLocals, Value.category]; done) | rfl
-- Rights.bits 
def Q2_2 (Z : State) (w2 : Addr) (h0 : Heap) (n0 : Nat) (v : Option Value) (h : Heap) (L : List Loc) : Prop := v = some (.int 0) ∧ Fr n0 L ∧ h = h0
set_option maxRecDepth 65536 in
set_option maxHeartbeats 40000000 in
theorem rm2_2 (l : Launch) (Z : State) (a0 : Array Value) (hw : HW Z a0) (ws : List Jvm.Cond) (w2 : Addr) (h0 : Heap) (n0 : Nat) (Z0 : n0 ≤ h0.size) (F_w2_bits : Fld Z Z.heap w2 zs7 "bits" "I" (.int 0)) (P2 : Old Z n0 h0) :
    MF l Z (⟨zs7, "bits", "()I"⟩ : MethodName) (Jvm.Cond.code (⟨zs7, "bits", "()I"⟩ : MethodName) prog_35_method_3_code 1 (some .int)) ws ({ frames := 0, cells := 0, slots := 0, locals := 0 } : Room) #[(.ref w2)] h0 (Q2_2 Z w2 h0 n0) := by
  refine own_enter (plainFor_of_name pn_0) fun p e s m below meth c s₁ X0 hx hby hml hown hnm hZ e0 hre hlk => ?_
  have N0 := Fr.nil n0
  have pre0 : ∀ t, SF p e below s₁ (mkF m 0 #[rv w2] []) t → SF p e below s₁ (entryFrame m #[(.ref w2)] 1) t := fun t k => castTop (ef_1 m w2) k
  obtain ⟨T1, X1, e1, st1⟩ := getF X0 hx hZ hown (host := "") (Or.inl (tw hw 11 rfl)) Via.refl e0 (F_w2_bits.ext P2.2) (g := (mkF m 1 #[rv w2] [(.ref w2)])) rfl rfl (hb hby d2_1)
  obtain ⟨fs, hr, hrun, hended, hW, hsame⟩ := X1.leave (v := some (.int 0)) (fun h => by rw [hre] at h; cases h)
  refine ⟨_, _, pre0 _ ?_, hrun, hended, _, _, rfl, ?_, ⟨_, rfl⟩, hW, hsame.mono (by decide) (by decide)⟩
  · show SF p e below s₁ (mkF m 0 #[rv w2] []) _
    refine XS.aloadN X0.here hx rfl (hb hby d2_0) rfl rfl ?_
    show SF p e below s₁ (mkF m 1 #[rv w2] [(.ref w2)]) _
    refine st1 _ ?_
    show SF p e below T1 (mkF m 4 #[rv w2] [(.int 0)]) _
    exact retI X1 hx hre (hb hby d2_4) hr
  · show Q2_2 Z w2 h0 n0 _ T1.heap _
    rw [e1]
    exact ⟨rfl, N0, rfl⟩
theorem pd_1 : parseMethodDescriptor "()I" = some ⟨[], some .int⟩ := by decide +kernel
theorem d3_0 : decode prog_35_method_5_code 0 = .ok (.new 26, 3) := by decide +kernel
theorem d3_3 : decode prog_35_method_5_code 3 = .ok (.dup, 1) := by decide +kernel
theorem d3_4 : decode prog_35_method_5_code 4 = .ok (.iconst 3, 1) := by decide +kernel
theorem d3_5 : decode prog_35_method_5_code 5 = .ok (.newarray .char, 2) := by decide +kernel
theorem d3_7 : decode prog_35_method_5_code 7 = .ok (.dup, 1) := by decide +kernel
theorem d3_8 : decode prog_35_method_5_code 8 = .ok (.iconst 0, 1) := by decide +kernel
theorem d3_9 : decode prog_35_method_5_code 9 = .ok (.aload_n 0, 1) := by decide +kernel
theorem d3_10 : decode prog_35_method_5_code 10 = .ok (.getstatic 28, 3) := by decide +kernel
theorem d3_13 : decode prog_35_method_5_code 13 = .ok (.bipush 114, 2) := by decide +kernel
theorem d3_15 : decode prog_35_method_5_code 15 = .ok (.invokevirtual 32, 3) := by decide +kernel
theorem d4_0 : decode prog_35_method_6_code 0 = .ok (.aload_n 0, 1) := by decide +kernel
theorem d4_1 : decode prog_35_method_6_code 1 = .ok (.aload_n 1, 1) := by decide +kernel
theorem d4_2 : decode prog_35_method_6_code 2 = .ok (.invokevirtual 45, 3) := by decide +kernel
theorem d5_0 : decode prog_35_method_4_code 0 = .ok (.aload_n 1, 1) := by decide +kernel
theorem d5_1 : decode prog_35_method_4_code 1 = .ok (.getfield 7, 3) := by decide +kernel
theorem d5_4 : decode prog_35_method_4_code 4 = .ok (.aload_n 0, 1) := by decide +kernel
theorem d5_5 : decode prog_35_method_4_code 5 = .ok (.getfield 7, 3) := by decide +kernel
theorem d5_8 : decode prog_35_method_4_code 8 = .ok (.iconst (-1), 1) := by decide +kernel
theorem d5_9 : decode prog_35_method_4_code 9 = .ok (.ixor, 1) := by decide +kernel
theorem d5_10 : decode prog_35_method_4_code 10 = .ok (.iand, 1) := by decide +kernel
theorem d5_11 : decode prog_35_method_4_code 11 = .ok (.ifCond .ne 7, 3) := by decide +kernel
theorem d5_18 : decode prog_35_method_4_code 18 = .ok (.iconst 0, 1) := by decide +kernel
theorem d5_19 : decode prog_35_method_4_code 19 = .ok (.ireturn, 1) := by decide +kernel
theorem ef_2 (m : MethodId) (x0 : Addr) (x1 : Addr) : entryFrame m #[(.ref x0), (.ref x1)] 2 = mkF m 0 #[.val (.ref x0), .val (.ref x1)] [] := by first | (simp [entryFrame, mkF, argsToLocals, Value.category]; done) | rfl
-- Rights.containsAll 
def Q5_3 (Z : State) (w2 : Addr) (w4 : Addr) (h0 : Heap) (n0 : Nat) (v : Option Value) (h : Heap) (L : List Loc) : Prop := v = some (.int 0) ∧ Fr n0 L ∧ h = h0
set_option maxRecDepth 65536 in
set_option maxHeartbeats 40000000 in
theorem rm5_3 (l : Launch) (Z : State) (a0 : Array Value) (hw : HW Z a0) (ws : List Jvm.Cond) (w2 : Addr) (w4 : Addr) (h0 : Heap) (n0 : Nat) (Z0 : n0 ≤ h0.size) (F_w4_bits : Fld Z Z.heap w4 zs7 "bits" "I" (.int 4)) (P2 : Old Z n0 h0) (F_w2_bits : Fld Z Z.heap w2 zs7 "bits" "I" (.int 0)) :
    MF l Z (⟨zs7, "containsAll", zs2⟩ : MethodName) (Jvm.Cond.code (⟨zs7, "containsAll", zs2⟩ : MethodName) prog_35_method_4_code 2 (some .boolean)) ws ({ frames := 0, cells := 0, slots := 0, locals := 0 } : Room) #[(.ref w2), (.ref w4)] h0 (Q5_3 Z w2 w4 h0 n0) := by
  refine own_enter (plainFor_of_name pn_0) fun p e s m below meth c s₁ X0 hx hby hml hown hnm hZ e0 hre hlk => ?_
  have N0 := Fr.nil n0
  have pre0 : ∀ t, SF p e below s₁ (mkF m 0 #[rv w2, rv w4] []) t → SF p e below s₁ (entryFrame m #[(.ref w2), (.ref w4)] 2) t := fun t k => castTop (ef_2 m w2 w4) k
  obtain ⟨T1, X1, e1, st1⟩ := getF X0 hx hZ hown (host := "") (Or.inl (tw hw 11 rfl)) Via.refl e0 (F_w4_bits.ext P2.2) (g := (mkF m 1 #[rv w2, rv w4] [(.ref w4)])) rfl rfl (hb hby d5_1)
  obtain ⟨T2, X2, e2, st2⟩ := getF X1 hx hZ hown (host := "") (Or.inl (tw hw 11 rfl)) Via.refl e1 (F_w2_bits.ext P2.2) (g := (mkF m 5 #[rv w2, rv w4] [(.ref w2), (.int 4)])) rfl rfl (hb hby d5_5)
  obtain ⟨fs, hr, hrun, hended, hW, hsame⟩ := X2.leave (v := some (.int 0)) (fun h => by rw [hre] at h; cases h)
  refine ⟨_, _, pre0 _ ?_, hrun, hended, _, _, rfl, ?_, ⟨_, rfl⟩, hW, hsame.mono (by decide) (by decide)⟩
  · show SF p e below s₁ (mkF m 0 #[rv w2, rv w4] []) _
    refine XS.aloadN X0.here hx rfl (hb hby d5_0) rfl rfl ?_
    show SF p e below s₁ (mkF m 1 #[rv w2, rv w4] [(.ref w4)]) _
    refine st1 _ ?_
    show SF p e below T1 (mkF m 4 #[rv w2, rv w4] [(.int 4)]) _
    refine XS.aloadN X1.here hx rfl (hb hby d5_4) rfl rfl ?_
    show SF p e below T1 (mkF m 5 #[rv w2, rv w4] [(.ref w2), (.int 4)]) _
    refine st2 _ ?_
    show SF p e below T2 (mkF m 8 #[rv w2, rv w4] [(.int 0), (.int 4)]) _
    refine XS.iconst X2.here hx rfl (hb hby d5_8) ?_
    show SF p e below T2 (mkF m 9 #[rv w2, rv w4] [(.int (-1)), (.int 0), (.int 4)]) _
    refine XS.ixor X2.here hx rfl (hb hby d5_9) rfl ?_
    show SF p e below T2 (mkF m 10 #[rv w2, rv w4] [(.int ((0 : Int32) ^^^ (-1 : Int32))), (.int 4)]) _
    rw [show ((0 : Int32) ^^^ (-1 : Int32)) = (-1 : Int32) from by decide]
    show SF p e below T2 (mkF m 10 #[rv w2, rv w4] [(.int (-1)), (.int 4)]) _
    refine XS.iand X2.here hx rfl (hb hby d5_10) rfl ?_
    show SF p e below T2 (mkF m 11 #[rv w2, rv w4] [(.int ((4 : Int32) &&& (-1 : Int32)))]) _
    rw [show ((4 : Int32) &&& (-1 : Int32)) = (4 : Int32) from by decide]
    show SF p e below T2 (mkF m 11 #[rv w2, rv w4] [(.int 4)]) _
    refine XS.ifYes X2.here hx rfl (pc0 := 11) (pc' := 18) rfl (hb hby d5_11) rfl ((if0 _ _).trans (feq (by decide : ¬ ((4 : Int32) = (0 : Int32)))).2) (by decide) (by decide) ?_
    show SF p e below T2 (mkF m 18 #[rv w2, rv w4] []) _
    refine XS.iconst X2.here hx rfl (hb hby d5_18) ?_
    show SF p e below T2 (mkF m 19 #[rv w2, rv w4] [(.int 0)]) _
    exact retN X2 hx (t := .boolean) hre (by simp) (hb hby d5_19) hr
  · show Q5_3 Z w2 w4 h0 n0 _ T2.heap _
    rw [e2]
    exact ⟨rfl, N0, rfl⟩
theorem pd_2 : parseMethodDescriptor zs2 = some ⟨[(.object zs7)], some .boolean⟩ := by decide +kernel
theorem d4_5 : decode prog_35_method_6_code 5 = .ok (.ifCond .eq 7, 3) := by decide +kernel
theorem d4_12 : decode prog_35_method_6_code 12 = .ok (.bipush 45, 2) := by decide +kernel
theorem d4_14 : decode prog_35_method_6_code 14 = .ok (.ireturn, 1) := by decide +kernel
theorem ef_3 (m : MethodId) (x0 : Addr) (x1 : Addr) (x2 : Int32) : entryFrame m #[(.ref x0), (.ref x1), (.int x2)] 3 = mkF m 0 #[.val (.ref x0), .val (.ref x1), .val (.int x2)] [] := by first | (simp [entryFrame, mkF, argsToLocals, Value.category]; done) | rfl
-- Rights.letter 
def Q4_4 (Z : State) (w2 : Addr) (w4 : Addr) (h0 : Heap) (n0 : Nat) (v : Option Value) (h : Heap) (L : List Loc) : Prop := v = some (.int 45) ∧ Fr n0 L ∧ h = h0
set_option maxRecDepth 65536 in
set_option maxHeartbeats 40000000 in
theorem rm4_4 (l : Launch) (Z : State) (a0 : Array Value) (hw : HW Z a0) (ws : List Jvm.Cond) (w2 : Addr) (w4 : Addr) (h0 : Heap) (n0 : Nat) (Z0 : n0 ≤ h0.size) (E_w2 : Exa Z Z.heap w2 zs7) (P2 : Old Z n0 h0) (F_w4_bits : Fld Z Z.heap w4 zs7 "bits" "I" (.int 4)) (F_w2_bits : Fld Z Z.heap w2 zs7 "bits" "I" (.int 0)) :
    MF l Z (⟨zs7, "letter", zs3⟩ : MethodName) (Jvm.Cond.code (⟨zs7, "letter", zs3⟩ : MethodName) prog_35_method_6_code 3 (some .char)) ws ({ frames := 1, cells := 0, slots := 0, locals := 13 } : Room) #[(.ref w2), (.ref w4), (.int 114)] h0 (Q4_4 Z w2 w4 h0 n0) := by
  refine own_enter (plainFor_of_name pn_0) fun p e s m below meth c s₁ X0 hx hby hml hown hnm hZ e0 hre hlk => ?_
  have N0 := Fr.nil n0
  have pre0 : ∀ t, SF p e below s₁ (mkF m 0 #[rv w2, rv w4, iv 114] []) t → SF p e below s₁ (entryFrame m #[(.ref w2), (.ref w4), (.int 114)] 3) t := fun t k => castTop (ef_3 m w2 w4 (114 : Int32)) k
  obtain ⟨cq1, kq1, q1a, q1b, q1c⟩ := isOf hZ e0 (E_w2.ext P2.2)
  obtain ⟨_, _, ⟨T1, L1, k1x, n1⟩, -, X1, ⟨Lc1, hQ1, l1, y1, z1⟩, st1⟩ := X0.virtualBack hx (y := (⟨zs7, "containsAll", zs2⟩ : MethodName)) (z := (⟨zs7, "containsAll", zs2⟩ : MethodName)) hown (mvT hZ (tw hw 30 rfl)) (mvT hZ (tw hw 31 rfl)) (notFace_of_selects (args := #[]) (mvT hZ (tw hw 33 rfl))) (mvT hZ (tw hw 33 rfl)) (mvT hZ (tw hw 32 rfl)) (by decide) (backOf (W := 0) (rm5_3 l Z a0 hw [] w2 w4 h0 n0 Z0 F_w4_bits P2 F_w2_bits) hZ (tw hw 34 rfl) (tw hw 2 rfl) (by decide) (by decide)) q1a q1c (g := (mkF m 2 #[rv w2, rv w4, iv 114] [(.ref w4), (.ref w2)])) rfl (by rw [hml]; rfl) (Steps.refl _) (argsL := [(.ref w4)]) (rest := []) (lenOf pd_2 rfl) rfl (Nat.le_of_eq rfl) (hb hby d4_2) (fun _ _ => ⟨rfl, e0, (by decide : 0 + 0 ≤ _), (by decide : 0 + 0 ≤ _)⟩)
  dsimp only [Pt.U, Pt.locs, Pt.cells, Pt.slots] at X1 l1 y1 z1 st1 hQ1
  subst l1 y1 z1
  obtain ⟨rfl, N1q, e1⟩ := hQ1
  have N1 := Fr.app N0 N1q
  obtain ⟨fs, hr, hrun, hended, hW, hsame⟩ := X1.leave (v := some (.int 45)) (fun h => by rw [hre] at h; cases h)
  refine ⟨_, _, pre0 _ ?_, hrun, hended, _, _, rfl, ?_, ⟨_, rfl⟩, hW, hsame.mono (by decide) (by decide)⟩
  · show SF p e below s₁ (mkF m 0 #[rv w2, rv w4, iv 114] []) _
    refine XS.aloadN X0.here hx rfl (hb hby d4_0) rfl rfl ?_
    refine XS.aloadN X0.here hx rfl (hb hby d4_1) rfl rfl ?_
    show SF p e below s₁ (mkF m 2 #[rv w2, rv w4, iv 114] [(.ref w4), (.ref w2)]) _
    refine st1.trans ?_
    show SF p e below T1 (mkF m 5 #[rv w2, rv w4, iv 114] [(.int 0)]) _
    refine XS.ifYes X1.here hx rfl (pc0 := 5) (pc' := 12) rfl (hb hby d4_5) rfl ((if0 _ _).trans (teq (by decide : (0 : Int32) = (0 : Int32))).1) (by decide) (by decide) ?_
    show SF p e below T1 (mkF m 12 #[rv w2, rv w4, iv 114] []) _
    refine XS.bipush X1.here hx rfl (hb hby d4_12) ?_
    show SF p e below T1 (mkF m 14 #[rv w2, rv w4, iv 114] [(.int 45)]) _
    exact retN X1 hx (t := .char) hre (by simp) (hb hby d4_14) hr
  · show Q4_4 Z w2 w4 h0 n0 _ T1.heap _
    rw [e1]
    exact ⟨rfl, N1, rfl⟩
theorem pd_3 : parseMethodDescriptor zs3 = some ⟨[(.object zs7), .char], some .char⟩ := by decide +kernel
theorem d3_18 : decode prog_35_method_5_code 18 = .ok (.castore, 1) := by decide +kernel
theorem d3_19 : decode prog_35_method_5_code 19 = .ok (.dup, 1) := by decide +kernel
theorem d3_20 : decode prog_35_method_5_code 20 = .ok (.iconst 1, 1) := by decide +kernel
theorem d3_21 : decode prog_35_method_5_code 21 = .ok (.aload_n 0, 1) := by decide +kernel
theorem d3_22 : decode prog_35_method_5_code 22 = .ok (.getstatic 36, 3) := by decide +kernel
theorem d3_25 : decode prog_35_method_5_code 25 = .ok (.bipush 119, 2) := by decide +kernel
theorem d3_27 : decode prog_35_method_5_code 27 = .ok (.invokevirtual 32, 3) := by decide +kernel
-- Rights.containsAll 
def Q5_5 (Z : State) (w2 : Addr) (w5 : Addr) (h0 : Heap) (n0 : Nat) (v : Option Value) (h : Heap) (L : List Loc) : Prop := v = some (.int 0) ∧ Fr n0 L ∧ h = h0
set_option maxRecDepth 65536 in
set_option maxHeartbeats 40000000 in
theorem rm5_5 (l : Launch) (Z : State) (a0 : Array Value) (hw : HW Z a0) (ws : List Jvm.Cond) (w2 : Addr) (w5 : Addr) (h0 : Heap) (n0 : Nat) (Z0 : n0 ≤ h0.size) (F_w5_bits : Fld Z Z.heap w5 zs7 "bits" "I" (.int 2)) (P2 : Old Z n0 h0) (F_w2_bits : Fld Z Z.heap w2 zs7 "bits" "I" (.int 0)) :
    MF l Z (⟨zs7, "containsAll", zs2⟩ : MethodName) (Jvm.Cond.code (⟨zs7, "containsAll", zs2⟩ : MethodName) prog_35_method_4_code 2 (some .boolean)) ws ({ frames := 0, cells := 0, slots := 0, locals := 0 } : Room) #[(.ref w2), (.ref w5)] h0 (Q5_5 Z w2 w5 h0 n0) := by
  refine own_enter (plainFor_of_name pn_0) fun p e s m below meth c s₁ X0 hx hby hml hown hnm hZ e0 hre hlk => ?_
  have N0 := Fr.nil n0
  have pre0 : ∀ t, SF p e below s₁ (mkF m 0 #[rv w2, rv w5] []) t → SF p e below s₁ (entryFrame m #[(.ref w2), (.ref w5)] 2) t := fun t k => castTop (ef_2 m w2 w5) k
  obtain ⟨T1, X1, e1, st1⟩ := getF X0 hx hZ hown (host := "") (Or.inl (tw hw 11 rfl)) Via.refl e0 (F_w5_bits.ext P2.2) (g := (mkF m 1 #[rv w2, rv w5] [(.ref w5)])) rfl rfl (hb hby d5_1)
  obtain ⟨T2, X2, e2, st2⟩ := getF X1 hx hZ hown (host := "") (Or.inl (tw hw 11 rfl)) Via.refl e1 (F_w2_bits.ext P2.2) (g := (mkF m 5 #[rv w2, rv w5] [(.ref w2), (.int 2)])) rfl rfl (hb hby d5_5)
  obtain ⟨fs, hr, hrun, hended, hW, hsame⟩ := X2.leave (v := some (.int 0)) (fun h => by rw [hre] at h; cases h)
  refine ⟨_, _, pre0 _ ?_, hrun, hended, _, _, rfl, ?_, ⟨_, rfl⟩, hW, hsame.mono (by decide) (by decide)⟩
  · show SF p e below s₁ (mkF m 0 #[rv w2, rv w5] []) _
    refine XS.aloadN X0.here hx rfl (hb hby d5_0) rfl rfl ?_
    show SF p e below s₁ (mkF m 1 #[rv w2, rv w5] [(.ref w5)]) _
    refine st1 _ ?_
    show SF p e below T1 (mkF m 4 #[rv w2, rv w5] [(.int 2)]) _
    refine XS.aloadN X1.here hx rfl (hb hby d5_4) rfl rfl ?_
    show SF p e below T1 (mkF m 5 #[rv w2, rv w5] [(.ref w2), (.int 2)]) _
    refine st2 _ ?_
    show SF p e below T2 (mkF m 8 #[rv w2, rv w5] [(.int 0), (.int 2)]) _
    refine XS.iconst X2.here hx rfl (hb hby d5_8) ?_
    show SF p e below T2 (mkF m 9 #[rv w2, rv w5] [(.int (-1)), (.int 0), (.int 2)]) _
    refine XS.ixor X2.here hx rfl (hb hby d5_9) rfl ?_
    show SF p e below T2 (mkF m 10 #[rv w2, rv w5] [(.int ((0 : Int32) ^^^ (-1 : Int32))), (.int 2)]) _
    rw [show ((0 : Int32) ^^^ (-1 : Int32)) = (-1 : Int32) from by decide]
    show SF p e below T2 (mkF m 10 #[rv w2, rv w5] [(.int (-1)), (.int 2)]) _
    refine XS.iand X2.here hx rfl (hb hby d5_10) rfl ?_
    show SF p e below T2 (mkF m 11 #[rv w2, rv w5] [(.int ((2 : Int32) &&& (-1 : Int32)))]) _
    rw [show ((2 : Int32) &&& (-1 : Int32)) = (2 : Int32) from by decide]
    show SF p e below T2 (mkF m 11 #[rv w2, rv w5] [(.int 2)]) _
    refine XS.ifYes X2.here hx rfl (pc0 := 11) (pc' := 18) rfl (hb hby d5_11) rfl ((if0 _ _).trans (feq (by decide : ¬ ((2 : Int32) = (0 : Int32)))).2) (by decide) (by decide) ?_
    show SF p e below T2 (mkF m 18 #[rv w2, rv w5] []) _
    refine XS.iconst X2.here hx rfl (hb hby d5_18) ?_
    show SF p e below T2 (mkF m 19 #[rv w2, rv w5] [(.int 0)]) _
    exact retN X2 hx (t := .boolean) hre (by simp) (hb hby d5_19) hr
  · show Q5_5 Z w2 w5 h0 n0 _ T2.heap _
    rw [e2]
    exact ⟨rfl, N0, rfl⟩
-- Rights.letter 
def Q4_6 (Z : State) (w2 : Addr) (w5 : Addr) (h0 : Heap) (n0 : Nat) (v : Option Value) (h : Heap) (L : List Loc) : Prop := v = some (.int 45) ∧ Fr n0 L ∧ h = h0
set_option maxRecDepth 65536 in
set_option maxHeartbeats 40000000 in
theorem rm4_6 (l : Launch) (Z : State) (a0 : Array Value) (hw : HW Z a0) (ws : List Jvm.Cond) (w2 : Addr) (w5 : Addr) (h0 : Heap) (n0 : Nat) (Z0 : n0 ≤ h0.size) (E_w2 : Exa Z Z.heap w2 zs7) (P2 : Old Z n0 h0) (F_w5_bits : Fld Z Z.heap w5 zs7 "bits" "I" (.int 2)) (F_w2_bits : Fld Z Z.heap w2 zs7 "bits" "I" (.int 0)) :
    MF l Z (⟨zs7, "letter", zs3⟩ : MethodName) (Jvm.Cond.code (⟨zs7, "letter", zs3⟩ : MethodName) prog_35_method_6_code 3 (some .char)) ws ({ frames := 1, cells := 0, slots := 0, locals := 13 } : Room) #[(.ref w2), (.ref w5), (.int 119)] h0 (Q4_6 Z w2 w5 h0 n0) := by
  refine own_enter (plainFor_of_name pn_0) fun p e s m below meth c s₁ X0 hx hby hml hown hnm hZ e0 hre hlk => ?_
  have N0 := Fr.nil n0
  have pre0 : ∀ t, SF p e below s₁ (mkF m 0 #[rv w2, rv w5, iv 119] []) t → SF p e below s₁ (entryFrame m #[(.ref w2), (.ref w5), (.int 119)] 3) t := fun t k => castTop (ef_3 m w2 w5 (119 : Int32)) k
  obtain ⟨cq1, kq1, q1a, q1b, q1c⟩ := isOf hZ e0 (E_w2.ext P2.2)
  obtain ⟨_, _, ⟨T1, L1, k1x, n1⟩, -, X1, ⟨Lc1, hQ1, l1, y1, z1⟩, st1⟩ := X0.virtualBack hx (y := (⟨zs7, "containsAll", zs2⟩ : MethodName)) (z := (⟨zs7, "containsAll", zs2⟩ : MethodName)) hown (mvT hZ (tw hw 30 rfl)) (mvT hZ (tw hw 31 rfl)) (notFace_of_selects (args := #[]) (mvT hZ (tw hw 33 rfl))) (mvT hZ (tw hw 33 rfl)) (mvT hZ (tw hw 32 rfl)) (by decide) (backOf (W := 0) (rm5_5 l Z a0 hw [] w2 w5 h0 n0 Z0 F_w5_bits P2 F_w2_bits) hZ (tw hw 34 rfl) (tw hw 2 rfl) (by decide) (by decide)) q1a q1c (g := (mkF m 2 #[rv w2, rv w5, iv 119] [(.ref w5), (.ref w2)])) rfl (by rw [hml]; rfl) (Steps.refl _) (argsL := [(.ref w5)]) (rest := []) (lenOf pd_2 rfl) rfl (Nat.le_of_eq rfl) (hb hby d4_2) (fun _ _ => ⟨rfl, e0, (by decide : 0 + 0 ≤ _), (by decide : 0 + 0 ≤ _)⟩)
  dsimp only [Pt.U, Pt.locs, Pt.cells, Pt.slots] at X1 l1 y1 z1 st1 hQ1
  subst l1 y1 z1
  obtain ⟨rfl, N1q, e1⟩ := hQ1
  have N1 := Fr.app N0 N1q
  obtain ⟨fs, hr, hrun, hended, hW, hsame⟩ := X1.leave (v := some (.int 45)) (fun h => by rw [hre] at h; cases h)
  refine ⟨_, _, pre0 _ ?_, hrun, hended, _, _, rfl, ?_, ⟨_, rfl⟩, hW, hsame.mono (by decide) (by decide)⟩
  · show SF p e below s₁ (mkF m 0 #[rv w2, rv w5, iv 119] []) _
    refine XS.aloadN X0.here hx rfl (hb hby d4_0) rfl rfl ?_
    refine XS.aloadN X0.here hx rfl (hb hby d4_1) rfl rfl ?_
    show SF p e below s₁ (mkF m 2 #[rv w2, rv w5, iv 119] [(.ref w5), (.ref w2)]) _
    refine st1.trans ?_
    show SF p e below T1 (mkF m 5 #[rv w2, rv w5, iv 119] [(.int 0)]) _
    refine XS.ifYes X1.here hx rfl (pc0 := 5) (pc' := 12) rfl (hb hby d4_5) rfl ((if0 _ _).trans (teq (by decide : (0 : Int32) = (0 : Int32))).1) (by decide) (by decide) ?_
    show SF p e below T1 (mkF m 12 #[rv w2, rv w5, iv 119] []) _
    refine XS.bipush X1.here hx rfl (hb hby d4_12) ?_
    show SF p e below T1 (mkF m 14 #[rv w2, rv w5, iv 119] [(.int 45)]) _
    exact retN X1 hx (t := .char) hre (by simp) (hb hby d4_14) hr
  · show Q4_6 Z w2 w5 h0 n0 _ T1.heap _
    rw [e1]
    exact ⟨rfl, N1, rfl⟩
theorem d3_30 : decode prog_35_method_5_code 30 = .ok (.castore, 1) := by decide +kernel
theorem d3_31 : decode prog_35_method_5_code 31 = .ok (.dup, 1) := by decide +kernel
theorem d3_32 : decode prog_35_method_5_code 32 = .ok (.iconst 2, 1) := by decide +kernel
theorem d3_33 : decode prog_35_method_5_code 33 = .ok (.aload_n 0, 1) := by decide +kernel
theorem d3_34 : decode prog_35_method_5_code 34 = .ok (.getstatic 39, 3) := by decide +kernel
theorem d3_37 : decode prog_35_method_5_code 37 = .ok (.bipush 120, 2) := by decide +kernel
theorem d3_39 : decode prog_35_method_5_code 39 = .ok (.invokevirtual 32, 3) := by decide +kernel
-- Rights.containsAll 
def Q5_7 (Z : State) (w2 : Addr) (w6 : Addr) (h0 : Heap) (n0 : Nat) (v : Option Value) (h : Heap) (L : List Loc) : Prop := v = some (.int 0) ∧ Fr n0 L ∧ h = h0
set_option maxRecDepth 65536 in
set_option maxHeartbeats 40000000 in
theorem rm5_7 (l : Launch) (Z : State) (a0 : Array Value) (hw : HW Z a0) (ws : List Jvm.Cond) (w2 : Addr) (w6 : Addr) (h0 : Heap) (n0 : Nat) (Z0 : n0 ≤ h0.size) (F_w6_bits : Fld Z Z.heap w6 zs7 "bits" "I" (.int 1)) (P2 : Old Z n0 h0) (F_w2_bits : Fld Z Z.heap w2 zs7 "bits" "I" (.int 0)) :
    MF l Z (⟨zs7, "containsAll", zs2⟩ : MethodName) (Jvm.Cond.code (⟨zs7, "containsAll", zs2⟩ : MethodName) prog_35_method_4_code 2 (some .boolean)) ws ({ frames := 0, cells := 0, slots := 0, locals := 0 } : Room) #[(.ref w2), (.ref w6)] h0 (Q5_7 Z w2 w6 h0 n0) := by
  refine own_enter (plainFor_of_name pn_0) fun p e s m below meth c s₁ X0 hx hby hml hown hnm hZ e0 hre hlk => ?_
  have N0 := Fr.nil n0
  have pre0 : ∀ t, SF p e below s₁ (mkF m 0 #[rv w2, rv w6] []) t → SF p e below s₁ (entryFrame m #[(.ref w2), (.ref w6)] 2) t := fun t k => castTop (ef_2 m w2 w6) k
  obtain ⟨T1, X1, e1, st1⟩ := getF X0 hx hZ hown (host := "") (Or.inl (tw hw 11 rfl)) Via.refl e0 (F_w6_bits.ext P2.2) (g := (mkF m 1 #[rv w2, rv w6] [(.ref w6)])) rfl rfl (hb hby d5_1)
  obtain ⟨T2, X2, e2, st2⟩ := getF X1 hx hZ hown (host := "") (Or.inl (tw hw 11 rfl)) Via.refl e1 (F_w2_bits.ext P2.2) (g := (mkF m 5 #[rv w2, rv w6] [(.ref w2), (.int 1)])) rfl rfl (hb hby d5_5)
  obtain ⟨fs, hr, hrun, hended, hW, hsame⟩ := X2.leave (v := some (.int 0)) (fun h => by rw [hre] at h; cases h)
  refine ⟨_, _, pre0 _ ?_, hrun, hended, _, _, rfl, ?_, ⟨_, rfl⟩, hW, hsame.mono (by decide) (by decide)⟩
  · show SF p e below s₁ (mkF m 0 #[rv w2, rv w6] []) _
    refine XS.aloadN X0.here hx rfl (hb hby d5_0) rfl rfl ?_
    show SF p e below s₁ (mkF m 1 #[rv w2, rv w6] [(.ref w6)]) _
    refine st1 _ ?_
    show SF p e below T1 (mkF m 4 #[rv w2, rv w6] [(.int 1)]) _
    refine XS.aloadN X1.here hx rfl (hb hby d5_4) rfl rfl ?_
    show SF p e below T1 (mkF m 5 #[rv w2, rv w6] [(.ref w2), (.int 1)]) _
    refine st2 _ ?_
    show SF p e below T2 (mkF m 8 #[rv w2, rv w6] [(.int 0), (.int 1)]) _
    refine XS.iconst X2.here hx rfl (hb hby d5_8) ?_
    show SF p e below T2 (mkF m 9 #[rv w2, rv w6] [(.int (-1)), (.int 0), (.int 1)]) _
    refine XS.ixor X2.here hx rfl (hb hby d5_9) rfl ?_
    show SF p e below T2 (mkF m 10 #[rv w2, rv w6] [(.int ((0 : Int32) ^^^ (-1 : Int32))), (.int 1)]) _
    rw [show ((0 : Int32) ^^^ (-1 : Int32)) = (-1 : Int32) from by decide]
    show SF p e below T2 (mkF m 10 #[rv w2, rv w6] [(.int (-1)), (.int 1)]) _
    refine XS.iand X2.here hx rfl (hb hby d5_10) rfl ?_
    show SF p e below T2 (mkF m 11 #[rv w2, rv w6] [(.int ((1 : Int32) &&& (-1 : Int32)))]) _
    rw [show ((1 : Int32) &&& (-1 : Int32)) = (1 : Int32) from by decide]
    show SF p e below T2 (mkF m 11 #[rv w2, rv w6] [(.int 1)]) _
    refine XS.ifYes X2.here hx rfl (pc0 := 11) (pc' := 18) rfl (hb hby d5_11) rfl ((if0 _ _).trans (feq (by decide : ¬ ((1 : Int32) = (0 : Int32)))).2) (by decide) (by decide) ?_
    show SF p e below T2 (mkF m 18 #[rv w2, rv w6] []) _
    refine XS.iconst X2.here hx rfl (hb hby d5_18) ?_
    show SF p e below T2 (mkF m 19 #[rv w2, rv w6] [(.int 0)]) _
    exact retN X2 hx (t := .boolean) hre (by simp) (hb hby d5_19) hr
  · show Q5_7 Z w2 w6 h0 n0 _ T2.heap _
    rw [e2]
    exact ⟨rfl, N0, rfl⟩
-- Rights.letter 
def Q4_8 (Z : State) (w2 : Addr) (w6 : Addr) (h0 : Heap) (n0 : Nat) (v : Option Value) (h : Heap) (L : List Loc) : Prop := v = some (.int 45) ∧ Fr n0 L ∧ h = h0
set_option maxRecDepth 65536 in
set_option maxHeartbeats 40000000 in
theorem rm4_8 (l : Launch) (Z : State) (a0 : Array Value) (hw : HW Z a0) (ws : List Jvm.Cond) (w2 : Addr) (w6 : Addr) (h0 : Heap) (n0 : Nat) (Z0 : n0 ≤ h0.size) (E_w2 : Exa Z Z.heap w2 zs7) (P2 : Old Z n0 h0) (F_w6_bits : Fld Z Z.heap w6 zs7 "bits" "I" (.int 1)) (F_w2_bits : Fld Z Z.heap w2 zs7 "bits" "I" (.int 0)) :
    MF l Z (⟨zs7, "letter", zs3⟩ : MethodName) (Jvm.Cond.code (⟨zs7, "letter", zs3⟩ : MethodName) prog_35_method_6_code 3 (some .char)) ws ({ frames := 1, cells := 0, slots := 0, locals := 13 } : Room) #[(.ref w2), (.ref w6), (.int 120)] h0 (Q4_8 Z w2 w6 h0 n0) := by
  refine own_enter (plainFor_of_name pn_0) fun p e s m below meth c s₁ X0 hx hby hml hown hnm hZ e0 hre hlk => ?_
  have N0 := Fr.nil n0
  have pre0 : ∀ t, SF p e below s₁ (mkF m 0 #[rv w2, rv w6, iv 120] []) t → SF p e below s₁ (entryFrame m #[(.ref w2), (.ref w6), (.int 120)] 3) t := fun t k => castTop (ef_3 m w2 w6 (120 : Int32)) k
  obtain ⟨cq1, kq1, q1a, q1b, q1c⟩ := isOf hZ e0 (E_w2.ext P2.2)
  obtain ⟨_, _, ⟨T1, L1, k1x, n1⟩, -, X1, ⟨Lc1, hQ1, l1, y1, z1⟩, st1⟩ := X0.virtualBack hx (y := (⟨zs7, "containsAll", zs2⟩ : MethodName)) (z := (⟨zs7, "containsAll", zs2⟩ : MethodName)) hown (mvT hZ (tw hw 30 rfl)) (mvT hZ (tw hw 31 rfl)) (notFace_of_selects (args := #[]) (mvT hZ (tw hw 33 rfl))) (mvT hZ (tw hw 33 rfl)) (mvT hZ (tw hw 32 rfl)) (by decide) (backOf (W := 0) (rm5_7 l Z a0 hw [] w2 w6 h0 n0 Z0 F_w6_bits P2 F_w2_bits) hZ (tw hw 34 rfl) (tw hw 2 rfl) (by decide) (by decide)) q1a q1c (g := (mkF m 2 #[rv w2, rv w6, iv 120] [(.ref w6), (.ref w2)])) rfl (by rw [hml]; rfl) (Steps.refl _) (argsL := [(.ref w6)]) (rest := []) (lenOf pd_2 rfl) rfl (Nat.le_of_eq rfl) (hb hby d4_2) (fun _ _ => ⟨rfl, e0, (by decide : 0 + 0 ≤ _), (by decide : 0 + 0 ≤ _)⟩)
  dsimp only [Pt.U, Pt.locs, Pt.cells, Pt.slots] at X1 l1 y1 z1 st1 hQ1
  subst l1 y1 z1
  obtain ⟨rfl, N1q, e1⟩ := hQ1
  have N1 := Fr.app N0 N1q
  obtain ⟨fs, hr, hrun, hended, hW, hsame⟩ := X1.leave (v := some (.int 45)) (fun h => by rw [hre] at h; cases h)
  refine ⟨_, _, pre0 _ ?_, hrun, hended, _, _, rfl, ?_, ⟨_, rfl⟩, hW, hsame.mono (by decide) (by decide)⟩
  · show SF p e below s₁ (mkF m 0 #[rv w2, rv w6, iv 120] []) _
    refine XS.aloadN X0.here hx rfl (hb hby d4_0) rfl rfl ?_
    refine XS.aloadN X0.here hx rfl (hb hby d4_1) rfl rfl ?_
    show SF p e below s₁ (mkF m 2 #[rv w2, rv w6, iv 120] [(.ref w6), (.ref w2)]) _
    refine st1.trans ?_
    show SF p e below T1 (mkF m 5 #[rv w2, rv w6, iv 120] [(.int 0)]) _
    refine XS.ifYes X1.here hx rfl (pc0 := 5) (pc' := 12) rfl (hb hby d4_5) rfl ((if0 _ _).trans (teq (by decide : (0 : Int32) = (0 : Int32))).1) (by decide) (by decide) ?_
    show SF p e below T1 (mkF m 12 #[rv w2, rv w6, iv 120] []) _
    refine XS.bipush X1.here hx rfl (hb hby d4_12) ?_
    show SF p e below T1 (mkF m 14 #[rv w2, rv w6, iv 120] [(.int 45)]) _
    exact retN X1 hx (t := .char) hre (by simp) (hb hby d4_14) hr
  · show Q4_8 Z w2 w6 h0 n0 _ T1.heap _
    rw [e1]
    exact ⟨rfl, N1, rfl⟩
theorem d3_42 : decode prog_35_method_5_code 42 = .ok (.castore, 1) := by decide +kernel
theorem d3_43 : decode prog_35_method_5_code 43 = .ok (.invokespecial 42, 3) := by decide +kernel
theorem own_words : ∀ d ∈ StrChars.Road.words, d ∈ tables_1 := by decide +kernel
theorem pd_4 : parseMethodDescriptor "([C)V" = some ⟨[(.array .char)], none⟩ := by decide +kernel
theorem d3_46 : decode prog_35_method_5_code 46 = .ok (.areturn, 1) := by decide +kernel
theorem ef_4 (m : MethodId) (x0 : Addr) : entryFrame m #[(.ref x0)] 1 = mkF m 0 #[.val (.ref x0)] [] := by first | (simp [entryFrame, mkF, argsToLocals, Value.category]; done) | rfl
-- Rights.toString 
def Q3_9 (Z : State) (w2 : Addr) (w4 : Addr) (w5 : Addr) (w6 : Addr) (GC : Int32) (h0 : Heap) (n0 : Nat) (v : Option Value) (h : Heap) (L : List Loc) : Prop := ∃ e1x : Addr, ∃ e2x : Addr, ∃ e3x : ClassId, h0.size ≤ e1x ∧ h0.size ≤ e2x ∧ e1x ≠ e2x ∧ v = some (.ref e1x) ∧ Fr n0 L ∧ Keep h0 h [] ∧ Exa Z h e1x "java/lang/String" ∧ Fld Z h e1x "java/lang/String" "coder" "B" (.int 0) ∧ Fld Z h e1x "java/lang/String" "value" "[B" (.ref e2x) ∧ Arv Z h e2x e3x .byte (3 : Int32) (((([(45 : Int32), (45 : Int32), (45 : Int32)] : List Int32)).map (fun c => c.toInt8.toInt32)).map Value.int) (.int (0 : Int32))
set_option maxRecDepth 65536 in
set_option maxHeartbeats 40000000 in
theorem rm3_9 (l : Launch) (Z : State) (a0 : Array Value) (hw : HW Z a0) (ws : List Jvm.Cond) (w2 : Addr) (w4 : Addr) (w5 : Addr) (w6 : Addr) (GC : Int32) (h0 : Heap) (n0 : Nat) (Z0 : n0 ≤ h0.size) (Sg7 : Sta Z Z.heap zs7 "READ" zs4 (.ref w4)) (P2 : Old Z n0 h0) (E_w2 : Exa Z Z.heap w2 zs7) (F_w4_bits : Fld Z Z.heap w4 zs7 "bits" "I" (.int 4)) (F_w2_bits : Fld Z Z.heap w2 zs7 "bits" "I" (.int 0)) (Sg9 : Sta Z Z.heap zs7 "WRITE" zs4 (.ref w5)) (F_w5_bits : Fld Z Z.heap w5 zs7 "bits" "I" (.int 2)) (Sg11 : Sta Z Z.heap zs7 "EXECUTE" zs4 (.ref w6)) (F_w6_bits : Fld Z Z.heap w6 zs7 "bits" "I" (.int 1)) (Sg0 : Sta Z Z.heap "java/lang/String" "COMPACT_STRINGS" "Z" (.int GC)) (nzGC : ¬ (GC = (0 : Int32))) :
    MF l Z (⟨zs7, "toString", zs0⟩ : MethodName) (Jvm.Cond.code (⟨zs7, "toString", zs0⟩ : MethodName) prog_35_method_5_code 1 (some (.object "java/lang/String"))) ws ({ frames := 4, cells := 3, slots := 10, locals := 66 } : Room) #[(.ref w2)] h0 (Q3_9 Z w2 w4 w5 w6 GC h0 n0) := by
  refine own_enter (plainFor_of_name pn_0) fun p e s m below meth c s₁ X0 hx hby hml hown hnm hZ e0 hre hlk => ?_
  have N0 := Fr.nil n0
  have pre0 : ∀ t, SF p e below s₁ (mkF m 0 #[rv w2] []) t → SF p e below s₁ (entryFrame m #[(.ref w2)] 1) t := fun t k => castTop (ef_4 m w2) k
  obtain ⟨T1, h1, X1, e1, E1, A1, D1, -, st1⟩ := newO X0 hx hZ hown (tw hw 20 rfl) (tw hw 21 rfl) (tw hw 22 rfl) e0 (g := (mkF m 0 #[rv w2] [])) rfl (hb hby d3_0) (by decide) (by decide)
  obtain ⟨e1x, g1⟩ : ∃ z, z = h0.size := ⟨_, rfl⟩
  rw [← g1] at A1 D1 st1
  have K1 : Keep h0 h1 [] := (Keep.refl h0 []).ext E1
  have Fn2 : Fld Z h1 e1x "java/lang/String" "coder" "B" (.int 0) := D1 (Or.inr (tw hw 62 rfl)) (ty := .byte) (by decide)
  have Fn3 : Fld Z h1 e1x "java/lang/String" "value" "[B" .null := D1 (Or.inr (tw hw 64 rfl)) (ty := (.array .byte)) (by decide)
  obtain ⟨T4, h4, w5x, X4, e4, E4, A4, st4⟩ := newP X1 hx hZ (tw hw 23 rfl) e1 (g := (mkF m 5 #[rv w2] [(.int 3), (.ref e1x), (.ref e1x)])) rfl (hb hby d3_5) rfl (by decide) (cap := 3) (by decide) (by decide) (by decide) (by decide)
  obtain ⟨w4x, g4⟩ : ∃ z, z = h1.size := ⟨_, rfl⟩
  rw [← g4] at A4 st4
  have K4 : Keep h0 h4 [] := K1.ext E4
  have V4 : Arv Z h4 w4x w5x .char (3 : Int32) [(.int 0), (.int 0), (.int 0)] (.int (0 : Int32)) := (Arv.new A4 (by decide)).pad (pad_rep [] (.int (0 : Int32)) 3)
  have O1 : Old Z n0 h1 := P2.ext E1
  have O4 : Old Z n0 h4 := O1.ext E4
  obtain ⟨T5, X5, e5, st5⟩ := getS2 X4 hx hZ hown (host := "") (Or.inl (tw hw 24 rfl)) Via.refl e4 (Sg7.ext O4.2) (g := (mkF m 10 #[rv w2] [(.ref w2), (.int 0), (.ref w4x), (.ref w4x), (.ref e1x), (.ref e1x)])) rfl (hb hby d3_10)
  have Z1 : n0 ≤ h1.size := Nat.le_trans Z0 E1.1
  have Z4 : n0 ≤ h4.size := Nat.le_trans Z1 E4.1
  obtain ⟨cq6, q6, q6'⟩ := (E_w2.ext O4.2).cell
  obtain ⟨_, _, ⟨T6, L6, k6x, n6⟩, -, X6, ⟨Lc6, hQ6, l6, y6, z6⟩, st6⟩ := X5.privateBack hx (y := (⟨zs7, "letter", zs3⟩ : MethodName)) hown (mvT hZ (tw hw 26 rfl)) (mvT hZ (tw hw 27 rfl)) (own_selQ hZ (tw hw 9 rfl) (tw hw 28 rfl) (tw hw 27 rfl) (by decide)) (Cond.privateMethod_at (mvP hZ (tw hw 28 rfl) (args := #[]))) (mvT hZ (tw hw 29 rfl)) (by decide) (backOf (W := 5) (rm4_4 l Z a0 hw [] w2 w4 h4 n0 Z4 E_w2 O4 F_w4_bits F_w2_bits) hZ (tw hw 29 rfl) (tw hw 2 rfl) (by decide) (by decide)) (g := (mkF m 15 #[rv w2] [(.int 114), (.ref w4), (.ref w2), (.int 0), (.ref w4x), (.ref w4x), (.ref e1x), (.ref e1x)])) rfl (by rw [hml]; rfl) (Steps.refl _) (a := w2) (by rw [e5]; exact q6) q6' (argsL := [(.ref w4), (.int 114)]) (rest := [(.int 0), (.ref w4x), (.ref w4x), (.ref e1x), (.ref e1x)]) (lenOf pd_3 rfl) rfl (Nat.le_of_eq rfl) (hb hby d3_15) (fun _ _ => ⟨rfl, e5, (by decide : 2 + 0 ≤ _), (by decide : 7 + 0 ≤ _)⟩)
  dsimp only [Pt.U, Pt.locs, Pt.cells, Pt.slots] at X6 l6 y6 z6 st6 hQ6
  subst l6 y6 z6
  obtain ⟨rfl, N6q, e6⟩ := hQ6
  have N6 := Fr.app N0 N6q
  obtain ⟨cl7, Ar7, q7, S7, N7z, H7, G7⟩ := id V4
  have hin7 : ¬ ((0 : Int32) < 0 ∨ cl7.slots.size ≤ ((0 : Int32)).toNatClampNeg) := inb_of S7 ⟨by decide, by decide⟩
  obtain ⟨T8, h8, X8, e8, W8, st8⟩ := stC X6 hx hZ e6 Ar7 (j := (0 : Int32)) hin7 (g := (mkF m 18 #[rv w2] [(.int 45), (.int 0), (.ref w4x), (.ref w4x), (.ref e1x), (.ref e1x)])) rfl rfl (hb hby d3_18)
  have g_b3 : n0 ≤ w4x := Nat.le_trans Z1 (Nat.le_of_eq g4.symm)
  have sz0_b3 : h0.size ≤ w4x := Nat.le_trans K1.1 (Nat.le_of_eq g4.symm)
  have K8 : Keep h0 h8 [] := K4.wr W8 (Or.inr sz0_b3)
  have N8 := Fr.snoc X8 N6 g_b3
  have V8 : Arv Z h8 w4x w5x .char (3 : Int32) [(.int 45), (.int 0), (.int 0)] (.int (0 : Int32)) := Arv.set Ar7 q7 S7 N7z H7 G7 (by decide) W8 0 rfl (Nat.le_of_ble_eq_true rfl)
  have O8 : Old Z n0 h8 := O4.wr W8 g_b3
  obtain ⟨T9, X9, e9, st9⟩ := getS2 X8 hx hZ hown (host := "") (Or.inl (tw hw 35 rfl)) Via.refl e8 (Sg9.ext O8.2) (g := (mkF m 22 #[rv w2] [(.ref w2), (.int 1), (.ref w4x), (.ref w4x), (.ref e1x), (.ref e1x)])) rfl (hb hby d3_22)
  have Z8 : n0 ≤ h8.size := Nat.le_trans Z4 (Keep.of_wr W8).1
  obtain ⟨cq10, q10, q10'⟩ := (E_w2.ext O8.2).cell
  obtain ⟨_, _, ⟨T10, L10, k10x, n10⟩, -, X10, ⟨Lc10, hQ10, l10, y10, z10⟩, st10⟩ := X9.privateBack hx (y := (⟨zs7, "letter", zs3⟩ : MethodName)) hown (mvT hZ (tw hw 26 rfl)) (mvT hZ (tw hw 27 rfl)) (own_selQ hZ (tw hw 9 rfl) (tw hw 28 rfl) (tw hw 27 rfl) (by decide)) (Cond.privateMethod_at (mvP hZ (tw hw 28 rfl) (args := #[]))) (mvT hZ (tw hw 29 rfl)) (by decide) (backOf (W := 5) (rm4_6 l Z a0 hw [] w2 w5 h8 n0 Z8 E_w2 O8 F_w5_bits F_w2_bits) hZ (tw hw 29 rfl) (tw hw 2 rfl) (by decide) (by decide)) (g := (mkF m 27 #[rv w2] [(.int 119), (.ref w5), (.ref w2), (.int 1), (.ref w4x), (.ref w4x), (.ref e1x), (.ref e1x)])) rfl (by rw [hml]; rfl) (Steps.refl _) (a := w2) (by rw [e9]; exact q10) q10' (argsL := [(.ref w5), (.int 119)]) (rest := [(.int 1), (.ref w4x), (.ref w4x), (.ref e1x), (.ref e1x)]) (lenOf pd_3 rfl) rfl (Nat.le_of_eq rfl) (hb hby d3_27) (fun _ _ => ⟨rfl, e9, (by decide : 2 + 0 ≤ _), (by decide : 7 + 0 ≤ _)⟩)
  dsimp only [Pt.U, Pt.locs, Pt.cells, Pt.slots] at X10 l10 y10 z10 st10 hQ10
  subst l10 y10 z10
  obtain ⟨rfl, N10q, e10⟩ := hQ10
  have N10 := Fr.app N8 N10q
  obtain ⟨cl11, Ar11, q11, S11, N11z, H11, G11⟩ := id V8
  have hin11 : ¬ ((1 : Int32) < 0 ∨ cl11.slots.size ≤ ((1 : Int32)).toNatClampNeg) := inb_of S11 ⟨by decide, by decide⟩
  obtain ⟨T12, h12, X12, e12, W12, st12⟩ := stC X10 hx hZ e10 Ar11 (j := (1 : Int32)) hin11 (g := (mkF m 30 #[rv w2] [(.int 45), (.int 1), (.ref w4x), (.ref w4x), (.ref e1x), (.ref e1x)])) rfl rfl (hb hby d3_30)
  have K12 : Keep h0 h12 [] := K8.wr W12 (Or.inr sz0_b3)
  have N12 := Fr.snoc X12 N10 g_b3
  have V12 : Arv Z h12 w4x w5x .char (3 : Int32) [(.int 45), (.int 45), (.int 0)] (.int (0 : Int32)) := Arv.set Ar11 q11 S11 N11z H11 G11 (by decide) W12 1 rfl (Nat.le_of_ble_eq_true rfl)
  have O12 : Old Z n0 h12 := O8.wr W12 g_b3
  obtain ⟨T13, X13, e13, st13⟩ := getS2 X12 hx hZ hown (host := "") (Or.inl (tw hw 37 rfl)) Via.refl e12 (Sg11.ext O12.2) (g := (mkF m 34 #[rv w2] [(.ref w2), (.int 2), (.ref w4x), (.ref w4x), (.ref e1x), (.ref e1x)])) rfl (hb hby d3_34)
  have Z12 : n0 ≤ h12.size := Nat.le_trans Z8 (Keep.of_wr W12).1
  obtain ⟨cq14, q14, q14'⟩ := (E_w2.ext O12.2).cell
  obtain ⟨_, _, ⟨T14, L14, k14x, n14⟩, -, X14, ⟨Lc14, hQ14, l14, y14, z14⟩, st14⟩ := X13.privateBack hx (y := (⟨zs7, "letter", zs3⟩ : MethodName)) hown (mvT hZ (tw hw 26 rfl)) (mvT hZ (tw hw 27 rfl)) (own_selQ hZ (tw hw 9 rfl) (tw hw 28 rfl) (tw hw 27 rfl) (by decide)) (Cond.privateMethod_at (mvP hZ (tw hw 28 rfl) (args := #[]))) (mvT hZ (tw hw 29 rfl)) (by decide) (backOf (W := 5) (rm4_8 l Z a0 hw [] w2 w6 h12 n0 Z12 E_w2 O12 F_w6_bits F_w2_bits) hZ (tw hw 29 rfl) (tw hw 2 rfl) (by decide) (by decide)) (g := (mkF m 39 #[rv w2] [(.int 120), (.ref w6), (.ref w2), (.int 2), (.ref w4x), (.ref w4x), (.ref e1x), (.ref e1x)])) rfl (by rw [hml]; rfl) (Steps.refl _) (a := w2) (by rw [e13]; exact q14) q14' (argsL := [(.ref w6), (.int 120)]) (rest := [(.int 2), (.ref w4x), (.ref w4x), (.ref e1x), (.ref e1x)]) (lenOf pd_3 rfl) rfl (Nat.le_of_eq rfl) (hb hby d3_39) (fun _ _ => ⟨rfl, e13, (by decide : 2 + 0 ≤ _), (by decide : 7 + 0 ≤ _)⟩)
  dsimp only [Pt.U, Pt.locs, Pt.cells, Pt.slots] at X14 l14 y14 z14 st14 hQ14
  subst l14 y14 z14
  obtain ⟨rfl, N14q, e14⟩ := hQ14
  have N14 := Fr.app N12 N14q
  obtain ⟨cl15, Ar15, q15, S15, N15z, H15, G15⟩ := id V12
  have hin15 : ¬ ((2 : Int32) < 0 ∨ cl15.slots.size ≤ ((2 : Int32)).toNatClampNeg) := inb_of S15 ⟨by decide, by decide⟩
  obtain ⟨T16, h16, X16, e16, W16, st16⟩ := stC X14 hx hZ e14 Ar15 (j := (2 : Int32)) hin15 (g := (mkF m 42 #[rv w2] [(.int 45), (.int 2), (.ref w4x), (.ref w4x), (.ref e1x), (.ref e1x)])) rfl rfl (hb hby d3_42)
  have K16 : Keep h0 h16 [] := K12.wr W16 (Or.inr sz0_b3)
  have N16 := Fr.snoc X16 N14 g_b3
  have V16 : Arv Z h16 w4x w5x .char (3 : Int32) [(.int 45), (.int 45), (.int 45)] (.int (0 : Int32)) := Arv.set Ar15 q15 S15 N15z H15 G15 (by decide) W16 2 rfl (Nat.le_of_ble_eq_true rfl)
  have F2_17 : Exa Z h4 e1x "java/lang/String" := A1.ext E4
  have F3_18 : Exa Z h8 e1x "java/lang/String" := F2_17.wr W8
  have F4_19 : Exa Z h12 e1x "java/lang/String" := F3_18.wr W12
  have F5_20 : Exa Z h16 e1x "java/lang/String" := F4_19.wr W16
  have F2_21 : Fld Z h4 e1x "java/lang/String" "value" "[B" .null := Fn3.ext E4
  have F3_22 : Fld Z h8 e1x "java/lang/String" "value" "[B" .null := F2_21.other W8 (Or.inl (Nat.ne_of_lt (Nat.lt_of_lt_of_le A1.lt (Nat.le_of_eq g4.symm))))
  have F4_23 : Fld Z h12 e1x "java/lang/String" "value" "[B" .null := F3_22.other W12 (Or.inl (Nat.ne_of_lt (Nat.lt_of_lt_of_le A1.lt (Nat.le_of_eq g4.symm))))
  have F5_24 : Fld Z h16 e1x "java/lang/String" "value" "[B" .null := F4_23.other W16 (Or.inl (Nat.ne_of_lt (Nat.lt_of_lt_of_le A1.lt (Nat.le_of_eq g4.symm))))
  have F2_25 : Fld Z h4 e1x "java/lang/String" "coder" "B" (.int 0) := Fn2.ext E4
  have F3_26 : Fld Z h8 e1x "java/lang/String" "coder" "B" (.int 0) := F2_25.other W8 (Or.inl (Nat.ne_of_lt (Nat.lt_of_lt_of_le A1.lt (Nat.le_of_eq g4.symm))))
  have F4_27 : Fld Z h12 e1x "java/lang/String" "coder" "B" (.int 0) := F3_26.other W12 (Or.inl (Nat.ne_of_lt (Nat.lt_of_lt_of_le A1.lt (Nat.le_of_eq g4.symm))))
  have F5_28 : Fld Z h16 e1x "java/lang/String" "coder" "B" (.int 0) := F4_27.other W16 (Or.inl (Nat.ne_of_lt (Nat.lt_of_lt_of_le A1.lt (Nat.le_of_eq g4.symm))))
  have hwwords : ∀ d ∈ StrChars.Road.words, d.before a0 Z = true := fun d hd => hw d (own_words d hd)
  have hp29 : ∀ c ∈ ([(45 : Int32), (45 : Int32), (45 : Int32)] : List Int32), ¬ c < 0 ∧ ¬ (255 : Int32) < c := by
    intro c hc
    simp only [List.mem_cons, List.not_mem_nil, or_false] at hc
    rcases hc with rfl | rfl | rfl
    · decide
    · decide
    · decide
  have O16 : Old Z n0 h16 := O12.wr W16 g_b3
  have g_b1 : n0 ≤ e1x := Nat.le_trans Z0 (Nat.le_of_eq g1.symm)
  have Z16 : n0 ≤ h16.size := Nat.le_trans Z12 (Keep.of_wr W16).1
  obtain ⟨_, _, ⟨T30, L30, k30x, n30⟩, -, X30, ⟨Lc30, hQ30, l30, y30, z30⟩, st30⟩ := X16.specialBack hx (y := (⟨"java/lang/String", "<init>", "([C)V"⟩ : MethodName)) rfl hown (mvT hZ (tw hw 39 rfl)) (mvT hZ (tw hw 40 rfl)) (mvT hZ (tw hw 41 rfl)) (by decide) (StrChars.Road.backV (W := 1) hZ hwwords (kI := 4) (tw hw 21 rfl) (cs := ([(45 : Int32), (45 : Int32), (45 : Int32)] : List Int32)) (bs := ((([(45 : Int32), (45 : Int32), (45 : Int32)] : List Int32)).map (fun c => c.toInt8.toInt32))) (n := 3) g_b1 Z16 F5_20 F5_24 F5_28 V16 (Sg0.ext O16.2) nzGC rfl rfl (by decide) (by decide) hp29 rfl (by decide) (by decide)) (g := (mkF m 43 #[rv w2] [(.ref w4x), (.ref e1x), (.ref e1x)])) rfl (by rw [hml]; rfl) (Steps.refl _) (a := e1x) (argsL := [(.ref w4x)]) (rest := [(.ref e1x)]) (lenOf pd_4 rfl) rfl (Nat.le_of_eq rfl) (hb hby d3_43) (fun _ _ => ⟨rfl, e16, (by decide : 2 + 1 ≤ _), (by decide : 7 + 3 ≤ _)⟩)
  dsimp only [Pt.U, Pt.locs, Pt.cells, Pt.slots] at X30 l30 y30 z30 st30 hQ30
  subst l30 y30 z30
  obtain ⟨rfl, N30q, K30c, Fx30, Fc30, e2x, e3x, gt30, bz_b4, ne30, Fv30, Va30⟩ := hQ30
  have sz0_b1 : h0.size ≤ e1x := Nat.le_trans (Keep.refl h0 []).1 (Nat.le_of_eq g1.symm)
  have K30 : Keep h0 T30.heap [] := K16.trans K30c (allS (Or.inr sz0_b1) all0)
  have N30 := Fr.app N16 N30q
  have sz0_b4 : h0.size ≤ e2x := Nat.le_trans K16.1 bz_b4
  have lt_b1_2 : e1x < h4.size := Nat.lt_of_lt_of_le A1.lt E4.1
  have lt_b1_3 : e1x < h8.size := Nat.lt_of_lt_of_le lt_b1_2 (Keep.of_wr W8).1
  have lt_b1_4 : e1x < h12.size := Nat.lt_of_lt_of_le lt_b1_3 (Keep.of_wr W12).1
  have lt_b1_5 : e1x < h16.size := Nat.lt_of_lt_of_le lt_b1_4 (Keep.of_wr W16).1
  obtain ⟨fs, hr, hrun, hended, hW, hsame⟩ := X30.leave (v := some (.ref e1x)) (fun h => by rw [hre] at h; cases h)
  refine ⟨_, _, pre0 _ ?_, hrun, hended, _, _, rfl, ?_, ⟨_, rfl⟩, hW, hsame.mono (by decide) (by decide)⟩
  · show SF p e below s₁ (mkF m 0 #[rv w2] []) _
    refine st1 _ ?_
    show SF p e below T1 (mkF m 3 #[rv w2] [(.ref e1x)]) _
    refine XS.dup X1.here hx rfl (hb hby d3_3) rfl rfl ?_
    refine XS.iconst X1.here hx rfl (hb hby d3_4) ?_
    show SF p e below T1 (mkF m 5 #[rv w2] [(.int 3), (.ref e1x), (.ref e1x)]) _
    refine st4 _ ?_
    show SF p e below T4 (mkF m 7 #[rv w2] [(.ref w4x), (.ref e1x), (.ref e1x)]) _
    refine XS.dup X4.here hx rfl (hb hby d3_7) rfl rfl ?_
    refine XS.iconst X4.here hx rfl (hb hby d3_8) ?_
    show SF p e below T4 (mkF m 9 #[rv w2] [(.int 0), (.ref w4x), (.ref w4x), (.ref e1x), (.ref e1x)]) _
    refine XS.aloadN X4.here hx rfl (hb hby d3_9) rfl rfl ?_
    show SF p e below T4 (mkF m 10 #[rv w2] [(.ref w2), (.int 0), (.ref w4x), (.ref w4x), (.ref e1x), (.ref e1x)]) _
    refine st5 _ ?_
    show SF p e below T5 (mkF m 13 #[rv w2] [(.ref w4), (.ref w2), (.int 0), (.ref w4x), (.ref w4x), (.ref e1x), (.ref e1x)]) _
    refine XS.bipush X5.here hx rfl (hb hby d3_13) ?_
    show SF p e below T5 (mkF m 15 #[rv w2] [(.int 114), (.ref w4), (.ref w2), (.int 0), (.ref w4x), (.ref w4x), (.ref e1x), (.ref e1x)]) _
    refine st6.trans ?_
    show SF p e below T6 (mkF m 18 #[rv w2] [(.int 45), (.int 0), (.ref w4x), (.ref w4x), (.ref e1x), (.ref e1x)]) _
    refine st8 _ ?_
    show SF p e below T8 (mkF m 19 #[rv w2] [(.ref w4x), (.ref e1x), (.ref e1x)]) _
    refine XS.dup X8.here hx rfl (hb hby d3_19) rfl rfl ?_
    refine XS.iconst X8.here hx rfl (hb hby d3_20) ?_
    show SF p e below T8 (mkF m 21 #[rv w2] [(.int 1), (.ref w4x), (.ref w4x), (.ref e1x), (.ref e1x)]) _
    refine XS.aloadN X8.here hx rfl (hb hby d3_21) rfl rfl ?_
    show SF p e below T8 (mkF m 22 #[rv w2] [(.ref w2), (.int 1), (.ref w4x), (.ref w4x), (.ref e1x), (.ref e1x)]) _
    refine st9 _ ?_
    show SF p e below T9 (mkF m 25 #[rv w2] [(.ref w5), (.ref w2), (.int 1), (.ref w4x), (.ref w4x), (.ref e1x), (.ref e1x)]) _
    refine XS.bipush X9.here hx rfl (hb hby d3_25) ?_
    show SF p e below T9 (mkF m 27 #[rv w2] [(.int 119), (.ref w5), (.ref w2), (.int 1), (.ref w4x), (.ref w4x), (.ref e1x), (.ref e1x)]) _
    refine st10.trans ?_
    show SF p e below T10 (mkF m 30 #[rv w2] [(.int 45), (.int 1), (.ref w4x), (.ref w4x), (.ref e1x), (.ref e1x)]) _
    refine st12 _ ?_
    show SF p e below T12 (mkF m 31 #[rv w2] [(.ref w4x), (.ref e1x), (.ref e1x)]) _
    refine XS.dup X12.here hx rfl (hb hby d3_31) rfl rfl ?_
    refine XS.iconst X12.here hx rfl (hb hby d3_32) ?_
    show SF p e below T12 (mkF m 33 #[rv w2] [(.int 2), (.ref w4x), (.ref w4x), (.ref e1x), (.ref e1x)]) _
    refine XS.aloadN X12.here hx rfl (hb hby d3_33) rfl rfl ?_
    show SF p e below T12 (mkF m 34 #[rv w2] [(.ref w2), (.int 2), (.ref w4x), (.ref w4x), (.ref e1x), (.ref e1x)]) _
    refine st13 _ ?_
    show SF p e below T13 (mkF m 37 #[rv w2] [(.ref w6), (.ref w2), (.int 2), (.ref w4x), (.ref w4x), (.ref e1x), (.ref e1x)]) _
    refine XS.bipush X13.here hx rfl (hb hby d3_37) ?_
    show SF p e below T13 (mkF m 39 #[rv w2] [(.int 120), (.ref w6), (.ref w2), (.int 2), (.ref w4x), (.ref w4x), (.ref e1x), (.ref e1x)]) _
    refine st14.trans ?_
    show SF p e below T14 (mkF m 42 #[rv w2] [(.int 45), (.int 2), (.ref w4x), (.ref w4x), (.ref e1x), (.ref e1x)]) _
    refine st16 _ ?_
    show SF p e below T16 (mkF m 43 #[rv w2] [(.ref w4x), (.ref e1x), (.ref e1x)]) _
    refine st30.trans ?_
    show SF p e below T30 (mkF m 46 #[rv w2] [(.ref e1x)]) _
    exact own_retR X30 hx hre rfl rfl (hb hby d3_46) hr
  · show Q3_9 Z w2 w4 w5 w6 GC h0 n0 _ T30.heap _
    exact ⟨e1x, e2x, e3x, sz0_b1, sz0_b4, (Nat.ne_of_lt (Nat.lt_of_lt_of_le lt_b1_5 bz_b4)), rfl, N30, K30, Fx30, Fc30, Fv30, Va30⟩
theorem pd_5 : parseMethodDescriptor zs0 = some ⟨[], some (.object "java/lang/String")⟩ := by decide +kernel
theorem own_wordsLen : ∀ d ∈ StrChars.Road.wordsLen, d ∈ tables_1 := by decide +kernel
theorem own_wordsChN : ∀ d ∈ StrChars.Road.wordsChN, d ∈ tables_1 := by decide +kernel
theorem pd_6 : parseMethodDescriptor "(I)C" = some ⟨[.int], some .char⟩ := by decide +kernel
theorem d19_0 : decode method_2_code 0 = .ok (.iload_n 0, 1) := by decide +kernel
theorem d19_1 : decode method_2_code 1 = .ok (.iload_n 1, 1) := by decide +kernel
theorem d19_2 : decode method_2_code 2 = .ok (.iand, 1) := by decide +kernel
theorem d19_3 : decode method_2_code 3 = .ok (.ifCond .eq 7, 3) := by decide +kernel
theorem d19_10 : decode method_2_code 10 = .ok (.bipush 45, 2) := by decide +kernel
theorem d19_12 : decode method_2_code 12 = .ok (.ireturn, 1) := by decide +kernel
theorem pn_1 : plainName zs8 = true := by first | (simp [plainName, overriddenIn]; done) | decide +kernel
theorem ef_5 (m : MethodId) (x0 : Int32) (x1 : Int32) (x2 : Int32) : entryFrame m #[(.int x0), (.int x1), (.int x2)] 3 = mkF m 0 #[.val (.int x0), .val (.int x1), .val (.int x2)] [] := by first | (simp [entryFrame, mkF, argsToLocals, Value.category]; done) | rfl
-- RightsOfPinLaw.expect 
def Q19_10 (Z : State)  (h0 : Heap) (n0 : Nat) (v : Option Value) (h : Heap) (L : List Loc) : Prop := v = some (.int 45) ∧ Fr n0 L ∧ h = h0
set_option maxRecDepth 65536 in
set_option maxHeartbeats 40000000 in
theorem rm19_10 (l : Launch) (Z : State) (a0 : Array Value) (hw : HW Z a0) (ws : List Jvm.Cond)  (h0 : Heap) (n0 : Nat) (Z0 : n0 ≤ h0.size) :
    MF l Z (⟨zs8, "expect", "(IIC)C"⟩ : MethodName) (Jvm.Cond.code (⟨zs8, "expect", "(IIC)C"⟩ : MethodName) method_2_code 3 (some .char)) ws ({ frames := 0, cells := 0, slots := 0, locals := 0 } : Room) #[(.int 0), (.int 4), (.int 114)] h0 (Q19_10 Z  h0 n0) := by
  refine own_enter (plainFor_of_name pn_1) fun p e s m below meth c s₁ X0 hx hby hml hown hnm hZ e0 hre hlk => ?_
  have N0 := Fr.nil n0
  have pre0 : ∀ t, SF p e below s₁ (mkF m 0 #[iv 0, iv 4, iv 114] []) t → SF p e below s₁ (entryFrame m #[(.int 0), (.int 4), (.int 114)] 3) t := fun t k => castTop (ef_5 m (0 : Int32) (4 : Int32) (114 : Int32)) k
  obtain ⟨fs, hr, hrun, hended, hW, hsame⟩ := X0.leave (v := some (.int 45)) (fun h => by rw [hre] at h; cases h)
  refine ⟨_, _, pre0 _ ?_, hrun, hended, _, _, rfl, ?_, ⟨_, rfl⟩, hW, hsame.mono (by decide) (by decide)⟩
  · show SF p e below s₁ (mkF m 0 #[iv 0, iv 4, iv 114] []) _
    refine XS.iloadN X0.here hx rfl (hb hby d19_0) rfl ?_
    refine XS.iloadN X0.here hx rfl (hb hby d19_1) rfl ?_
    show SF p e below s₁ (mkF m 2 #[iv 0, iv 4, iv 114] [(.int 4), (.int 0)]) _
    refine XS.iand X0.here hx rfl (hb hby d19_2) rfl ?_
    show SF p e below s₁ (mkF m 3 #[iv 0, iv 4, iv 114] [(.int ((0 : Int32) &&& (4 : Int32)))]) _
    rw [show ((0 : Int32) &&& (4 : Int32)) = (0 : Int32) from by decide]
    show SF p e below s₁ (mkF m 3 #[iv 0, iv 4, iv 114] [(.int 0)]) _
    refine XS.ifYes X0.here hx rfl (pc0 := 3) (pc' := 10) rfl (hb hby d19_3) rfl ((if0 _ _).trans (teq (by decide : (0 : Int32) = (0 : Int32))).1) (by decide) (by decide) ?_
    show SF p e below s₁ (mkF m 10 #[iv 0, iv 4, iv 114] []) _
    refine XS.bipush X0.here hx rfl (hb hby d19_10) ?_
    show SF p e below s₁ (mkF m 12 #[iv 0, iv 4, iv 114] [(.int 45)]) _
    exact retN X0 hx (t := .char) hre (by simp) (hb hby d19_12) hr
  · show Q19_10 Z  h0 n0 _ s₁.heap _
    rw [e0]
    exact ⟨rfl, N0, rfl⟩
theorem pd_7 : parseMethodDescriptor "(IIC)C" = some ⟨[.int, .int, .char], some .char⟩ := by decide +kernel
-- RightsOfPinLaw.expect 
def Q19_11 (Z : State)  (h0 : Heap) (n0 : Nat) (v : Option Value) (h : Heap) (L : List Loc) : Prop := v = some (.int 45) ∧ Fr n0 L ∧ h = h0
set_option maxRecDepth 65536 in
set_option maxHeartbeats 40000000 in
theorem rm19_11 (l : Launch) (Z : State) (a0 : Array Value) (hw : HW Z a0) (ws : List Jvm.Cond)  (h0 : Heap) (n0 : Nat) (Z0 : n0 ≤ h0.size) :
    MF l Z (⟨zs8, "expect", "(IIC)C"⟩ : MethodName) (Jvm.Cond.code (⟨zs8, "expect", "(IIC)C"⟩ : MethodName) method_2_code 3 (some .char)) ws ({ frames := 0, cells := 0, slots := 0, locals := 0 } : Room) #[(.int 0), (.int 2), (.int 119)] h0 (Q19_11 Z  h0 n0) := by
  refine own_enter (plainFor_of_name pn_1) fun p e s m below meth c s₁ X0 hx hby hml hown hnm hZ e0 hre hlk => ?_
  have N0 := Fr.nil n0
  have pre0 : ∀ t, SF p e below s₁ (mkF m 0 #[iv 0, iv 2, iv 119] []) t → SF p e below s₁ (entryFrame m #[(.int 0), (.int 2), (.int 119)] 3) t := fun t k => castTop (ef_5 m (0 : Int32) (2 : Int32) (119 : Int32)) k
  obtain ⟨fs, hr, hrun, hended, hW, hsame⟩ := X0.leave (v := some (.int 45)) (fun h => by rw [hre] at h; cases h)
  refine ⟨_, _, pre0 _ ?_, hrun, hended, _, _, rfl, ?_, ⟨_, rfl⟩, hW, hsame.mono (by decide) (by decide)⟩
  · show SF p e below s₁ (mkF m 0 #[iv 0, iv 2, iv 119] []) _
    refine XS.iloadN X0.here hx rfl (hb hby d19_0) rfl ?_
    refine XS.iloadN X0.here hx rfl (hb hby d19_1) rfl ?_
    show SF p e below s₁ (mkF m 2 #[iv 0, iv 2, iv 119] [(.int 2), (.int 0)]) _
    refine XS.iand X0.here hx rfl (hb hby d19_2) rfl ?_
    show SF p e below s₁ (mkF m 3 #[iv 0, iv 2, iv 119] [(.int ((0 : Int32) &&& (2 : Int32)))]) _
    rw [show ((0 : Int32) &&& (2 : Int32)) = (0 : Int32) from by decide]
    show SF p e below s₁ (mkF m 3 #[iv 0, iv 2, iv 119] [(.int 0)]) _
    refine XS.ifYes X0.here hx rfl (pc0 := 3) (pc' := 10) rfl (hb hby d19_3) rfl ((if0 _ _).trans (teq (by decide : (0 : Int32) = (0 : Int32))).1) (by decide) (by decide) ?_
    show SF p e below s₁ (mkF m 10 #[iv 0, iv 2, iv 119] []) _
    refine XS.bipush X0.here hx rfl (hb hby d19_10) ?_
    show SF p e below s₁ (mkF m 12 #[iv 0, iv 2, iv 119] [(.int 45)]) _
    exact retN X0 hx (t := .char) hre (by simp) (hb hby d19_12) hr
  · show Q19_11 Z  h0 n0 _ s₁.heap _
    rw [e0]
    exact ⟨rfl, N0, rfl⟩
-- RightsOfPinLaw.expect 
def Q19_12 (Z : State)  (h0 : Heap) (n0 : Nat) (v : Option Value) (h : Heap) (L : List Loc) : Prop := v = some (.int 45) ∧ Fr n0 L ∧ h = h0
set_option maxRecDepth 65536 in
set_option maxHeartbeats 40000000 in
theorem rm19_12 (l : Launch) (Z : State) (a0 : Array Value) (hw : HW Z a0) (ws : List Jvm.Cond)  (h0 : Heap) (n0 : Nat) (Z0 : n0 ≤ h0.size) :
    MF l Z (⟨zs8, "expect", "(IIC)C"⟩ : MethodName) (Jvm.Cond.code (⟨zs8, "expect", "(IIC)C"⟩ : MethodName) method_2_code 3 (some .char)) ws ({ frames := 0, cells := 0, slots := 0, locals := 0 } : Room) #[(.int 0), (.int 1), (.int 120)] h0 (Q19_12 Z  h0 n0) := by
  refine own_enter (plainFor_of_name pn_1) fun p e s m below meth c s₁ X0 hx hby hml hown hnm hZ e0 hre hlk => ?_
  have N0 := Fr.nil n0
  have pre0 : ∀ t, SF p e below s₁ (mkF m 0 #[iv 0, iv 1, iv 120] []) t → SF p e below s₁ (entryFrame m #[(.int 0), (.int 1), (.int 120)] 3) t := fun t k => castTop (ef_5 m (0 : Int32) (1 : Int32) (120 : Int32)) k
  obtain ⟨fs, hr, hrun, hended, hW, hsame⟩ := X0.leave (v := some (.int 45)) (fun h => by rw [hre] at h; cases h)
  refine ⟨_, _, pre0 _ ?_, hrun, hended, _, _, rfl, ?_, ⟨_, rfl⟩, hW, hsame.mono (by decide) (by decide)⟩
  · show SF p e below s₁ (mkF m 0 #[iv 0, iv 1, iv 120] []) _
    refine XS.iloadN X0.here hx rfl (hb hby d19_0) rfl ?_
    refine XS.iloadN X0.here hx rfl (hb hby d19_1) rfl ?_
    show SF p e below s₁ (mkF m 2 #[iv 0, iv 1, iv 120] [(.int 1), (.int 0)]) _
    refine XS.iand X0.here hx rfl (hb hby d19_2) rfl ?_
    show SF p e below s₁ (mkF m 3 #[iv 0, iv 1, iv 120] [(.int ((0 : Int32) &&& (1 : Int32)))]) _
    rw [show ((0 : Int32) &&& (1 : Int32)) = (0 : Int32) from by decide]
    show SF p e below s₁ (mkF m 3 #[iv 0, iv 1, iv 120] [(.int 0)]) _
    refine XS.ifYes X0.here hx rfl (pc0 := 3) (pc' := 10) rfl (hb hby d19_3) rfl ((if0 _ _).trans (teq (by decide : (0 : Int32) = (0 : Int32))).1) (by decide) (by decide) ?_
    show SF p e below s₁ (mkF m 10 #[iv 0, iv 1, iv 120] []) _
    refine XS.bipush X0.here hx rfl (hb hby d19_10) ?_
    show SF p e below s₁ (mkF m 12 #[iv 0, iv 1, iv 120] [(.int 45)]) _
    exact retN X0 hx (t := .char) hre (by simp) (hb hby d19_12) hr
  · show Q19_12 Z  h0 n0 _ s₁.heap _
    rw [e0]
    exact ⟨rfl, N0, rfl⟩
set_option maxRecDepth 65536 in
set_option maxHeartbeats 400000000 in
theorem pc_2 {p : Program} {l : Launch} {e : Env} {s : State} {m : MethodId} {below : List Frame} {meth : Method} {c : Code} {T0 : State} {locs : List Loc} {Z : State} {a0 : Array Value} {h0 : Heap} {n0 : Nat} {p0s : Int32} {p1s : Int32} {GC : Int32} {GF : Value} {w2 : Addr} {w4 : Addr} {w5 : Addr} {w6 : Addr} {dv3 : Int32} {dv5 : Addr} (X0 : Stand p l e room_1 s m #[(.int p0s), (.int p1s)] below meth c T0 locs 0 0) (hx : p.tables.exec = Jvm.exec) (hZ : Z.Warmed39 s.vm) (hw : HW Z a0) (hby : c.code = code) (hml : c.maxLocals = 7) (hown : s.vm.findClass zs8 = some m.cls) (hre : meth.sig.returnType = some .boolean) (hlk : meth.locks = false) (e0 : T0.heap = h0) (N0 : Fr n0 locs) (Z0 : n0 ≤ h0.size) (O0 : Old Z n0 h0) (Sg0 : Sta Z Z.heap "java/lang/String" "COMPACT_STRINGS" "Z" (.int GC)) (Sg1 : Sta Z Z.heap zs9 "SIOOBE_FORMATTER" zs5 GF) (rGF : GF.isRef = true) (nzGC : ¬ (GC = (0 : Int32))) (E_w2 : Exa Z Z.heap w2 zs7) (Sg7 : Sta Z Z.heap zs7 "READ" zs4 (.ref w4)) (Sg9 : Sta Z Z.heap zs7 "WRITE" zs4 (.ref w5)) (Sg11 : Sta Z Z.heap zs7 "EXECUTE" zs4 (.ref w6)) (Sg16 : Sta Z Z.heap zs7 "NONE" zs4 (.ref w2)) (F_w2_bits : Fld Z Z.heap w2 zs7 "bits" "I" (.int 0)) (F_w4_bits : Fld Z Z.heap w4 zs7 "bits" "I" (.int 4)) (F_w5_bits : Fld Z Z.heap w5 zs7 "bits" "I" (.int 2)) (F_w6_bits : Fld Z Z.heap w6 zs7 "bits" "I" (.int 1)) :
    Fine p e below s n0 (T0.setTop (mkF m 72 #[iv p0s, iv p1s, iv 0, iv dv3, rv w2, rv dv5, .unset] [])) := by
  obtain ⟨T1, X1, e1, st1⟩ := getS2 X0 hx hZ hown (host := "") (Or.inl (tw hw 13 rfl)) Via.refl e0 (Sg16.ext O0.2) (g := (mkF m 78 #[iv p0s, iv p1s, iv 0, iv dv3, rv w2, rv dv5, .unset] [(.ref w2)])) rfl (hb hby at_78)
  obtain ⟨cq2, kq2, q2a, q2b, q2c⟩ := isOf hZ e1 (E_w2.ext O0.2)
  obtain ⟨_, _, ⟨T2, L2, k2x, n2⟩, -, X2, ⟨Lc2, hQ2, l2, y2, z2⟩, st2⟩ := X1.virtualBack hx (y := (⟨zs7, "toString", zs0⟩ : MethodName)) (z := (⟨zs7, "toString", zs0⟩ : MethodName)) hown (mvT hZ (tw hw 15 rfl)) (mvT hZ (tw hw 16 rfl)) (notFace_of_selects (args := #[]) (mvT hZ (tw hw 18 rfl))) (mvT hZ (tw hw 18 rfl)) (mvT hZ (tw hw 17 rfl)) (by decide) (backOf (W := 0) (rm3_9 l Z a0 hw [] w2 w4 w5 w6 GC h0 n0 Z0 Sg7 O0 E_w2 F_w4_bits F_w2_bits Sg9 F_w5_bits Sg11 F_w6_bits Sg0 nzGC) hZ (tw hw 19 rfl) (tw hw 2 rfl) (by decide) (by decide)) q2a q2c (g := (mkF m 133 #[iv p0s, iv p1s, iv 0, iv dv3, rv w2, rv dv5, .unset] [(.ref w2)])) rfl (by rw [hml]; rfl) (Steps.refl _) (argsL := []) (rest := []) (lenOf pd_5 rfl) rfl (Nat.le_of_eq rfl) (hb hby at_133) (fun _ _ => ⟨rfl, e1, (by decide : 0 + 3 ≤ _), (by decide : 0 + 10 ≤ _)⟩)
  dsimp only [Pt.U, Pt.locs, Pt.cells, Pt.slots] at X2 l2 y2 z2 st2 hQ2
  subst l2 y2 z2
  obtain ⟨b6, b7, k8, bz_b6, bz_b7, bn2_0, rfl, N2q, K2c, Fq2_0, Fq2_1, Fq2_2, Fq2_3⟩ := hQ2
  have N2 := Fr.app N0 N2q
  have hwwordsLen : ∀ d ∈ StrChars.Road.wordsLen, d.before a0 Z = true := fun d hd => hw d (own_wordsLen d hd)
  have hp3 : ∀ c ∈ ([(45 : Int32), (45 : Int32), (45 : Int32)] : List Int32), ¬ c < 0 ∧ ¬ (255 : Int32) < c := by
    intro c hc
    simp only [List.mem_cons, List.not_mem_nil, or_false] at hc
    rcases hc with rfl | rfl | rfl
    · decide
    · decide
    · decide
  have hcd4 : StrChars.Road.CodA ([(45 : Int32), (45 : Int32), (45 : Int32)] : List Int32) 0 (3 : Int32) (((([(45 : Int32), (45 : Int32), (45 : Int32)] : List Int32)).map (fun c => c.toInt8.toInt32)).map Value.int) := StrChars.Road.codOf (n := 3) rfl (fun c hc => (hp3 c hc).2)
  have hbd4 : ∀ c ∈ ([(45 : Int32), (45 : Int32), (45 : Int32)] : List Int32), ¬ c < 0 ∧ ¬ (65535 : Int32) < c := own_up _ hp3
  have O2 : Old Z n0 T2.heap := O0.keep K2c all0
  obtain ⟨cq5, kq5, q5a, q5b, q5c⟩ := isOf hZ rfl Fq2_0
  obtain ⟨_, _, ⟨T5, L5, k5x, n5⟩, -, X5, ⟨Lc5, hQ5, l5, y5, z5⟩, st5⟩ := X2.virtualBack hx (y := (⟨"java/lang/String", "length", "()I"⟩ : MethodName)) (z := (⟨"java/lang/String", "length", "()I"⟩ : MethodName)) hown (mvT hZ (tw hw 65 rfl)) (mvT hZ (tw hw 66 rfl)) (notFace_of_selects (args := #[]) (mvT hZ (tw hw 68 rfl))) (mvT hZ (tw hw 68 rfl)) (mvT hZ (tw hw 67 rfl)) (by decide) (StrChars.Road.lenW (W := 0) hZ hwwordsLen (kI := 4) (tw hw 21 rfl) Fq2_0 Fq2_2 Fq2_1 Fq2_3 hcd4 hbd4 (Sg0.ext O2.2) nzGC (Nat.le_of_ble_eq_true rfl) (by decide) (by decide)) q5a q5c (g := (mkF m 140 #[iv p0s, iv p1s, iv 0, iv dv3, rv w2, rv dv5, rv b6] [(.ref b6)])) rfl (by rw [hml]; rfl) (Steps.refl _) (argsL := []) (rest := []) (lenOf pd_1 rfl) rfl (Nat.le_of_eq rfl) (hb hby at_140) (fun _ _ => ⟨rfl, rfl, (by decide : 3 + 0 ≤ _), (by decide : 10 + 0 ≤ _)⟩)
  dsimp only [Pt.U, Pt.locs, Pt.cells, Pt.slots] at X5 l5 y5 z5 st5 hQ5
  subst l5 y5 z5
  obtain ⟨rfl, rfl, e5⟩ := hQ5
  have N5 := Fr.app N2 (Fr.nil n0)
  have hwwordsChN : ∀ d ∈ StrChars.Road.wordsChN, d.before a0 Z = true := fun d hd => hw d (own_wordsChN d hd)
  have hp6 : ∀ c ∈ ([(45 : Int32), (45 : Int32), (45 : Int32)] : List Int32), ¬ c < 0 ∧ ¬ (255 : Int32) < c := by
    intro c hc
    simp only [List.mem_cons, List.not_mem_nil, or_false] at hc
    rcases hc with rfl | rfl | rfl
    · decide
    · decide
    · decide
  have hcd7 : StrChars.Road.CodA ([(45 : Int32), (45 : Int32), (45 : Int32)] : List Int32) 0 (3 : Int32) (((([(45 : Int32), (45 : Int32), (45 : Int32)] : List Int32)).map (fun c => c.toInt8.toInt32)).map Value.int) := StrChars.Road.codOf (n := 3) rfl (fun c hc => (hp6 c hc).2)
  have hbd7 : ∀ c ∈ ([(45 : Int32), (45 : Int32), (45 : Int32)] : List Int32), ¬ c < 0 ∧ ¬ (65535 : Int32) < c := own_up _ hp6
  obtain ⟨cq8, kq8, q8a, q8b, q8c⟩ := isOf hZ e5 Fq2_0
  obtain ⟨_, _, ⟨T8, L8, k8x, n8⟩, -, X8, ⟨Lc8, hQ8, l8, y8, z8⟩, st8⟩ := X5.virtualBack hx (y := (⟨"java/lang/String", "charAt", "(I)C"⟩ : MethodName)) (z := (⟨"java/lang/String", "charAt", "(I)C"⟩ : MethodName)) hown (mvT hZ (tw hw 75 rfl)) (mvT hZ (tw hw 76 rfl)) (notFace_of_selects (args := #[]) (mvT hZ (tw hw 78 rfl))) (mvT hZ (tw hw 78 rfl)) (mvT hZ (tw hw 77 rfl)) (by decide) (StrChars.Road.chN (W := 0) hZ hwwordsChN (kI := 4) (tw hw 21 rfl) Fq2_0 Fq2_2 Fq2_1 Fq2_3 hcd7 hbd7 (Sg0.ext O2.2) nzGC (Sg1.ext O2.2) rGF (Nat.le_of_ble_eq_true rfl) (i := 0) (Nat.le_of_ble_eq_true rfl) (j := (0 : Int32)) rfl (by decide) (by decide)) q8a q8c (g := (mkF m 150 #[iv p0s, iv p1s, iv 0, iv dv3, rv w2, rv dv5, rv b6] [(.int 0), (.ref b6)])) rfl (by rw [hml]; rfl) (Steps.refl _) (argsL := [(.int 0)]) (rest := []) (lenOf pd_6 rfl) rfl (Nat.le_of_eq rfl) (hb hby at_150) (fun _ _ => ⟨rfl, e5, (by decide : 3 + 0 ≤ _), (by decide : 10 + 0 ≤ _)⟩)
  dsimp only [Pt.U, Pt.locs, Pt.cells, Pt.slots] at X8 l8 y8 z8 st8 hQ8
  subst l8 y8 z8
  obtain ⟨rfl, rfl, e8⟩ := hQ8
  have N8 := Fr.app N5 (Fr.nil n0)
  have Z2 : n0 ≤ T2.heap.size := Nat.le_trans Z0 K2c.1
  obtain ⟨_, _, ⟨T9, L9, k9x, n9⟩, -, X9, ⟨Lc9, hQ9, l9, y9, z9⟩, st9⟩ := Jvm.LawKit.callS X8 hx (y := (⟨zs8, "expect", "(IIC)C"⟩ : MethodName)) hown (mvT hZ (tw hw 97 rfl)) (mvT hZ (tw hw 98 rfl)) (mvT hZ (tw hw 99 rfl)) (mvT hZ (tw hw 100 rfl)) (by decide) (backOf (W := 1) (rm19_10 l Z a0 hw []  T2.heap n0 Z2 ) hZ (tw hw 100 rfl) (tw hw 99 rfl) (by decide) (by decide)) (g := (mkF m 157 #[iv p0s, iv p1s, iv 0, iv dv3, rv w2, rv dv5, rv b6] [(.int 114), (.int 4), (.int 0), (.int 45)])) rfl (by rw [hml]; rfl) (argsL := [(.int 0), (.int 4), (.int 114)]) (rest := [(.int 45)]) (lenOf pd_7 rfl) rfl (Nat.le_of_eq rfl) (hb hby at_157) (fun _ _ => ⟨rfl, e8, (by decide : 3 + 0 ≤ _), (by decide : 10 + 0 ≤ _)⟩)
  dsimp only [Pt.U, Pt.locs, Pt.cells, Pt.slots] at X9 l9 y9 z9 st9 hQ9
  subst l9 y9 z9
  obtain ⟨rfl, N9q, e9⟩ := hQ9
  have N9 := Fr.app N8 N9q
  have hp10 : ∀ c ∈ ([(45 : Int32), (45 : Int32), (45 : Int32)] : List Int32), ¬ c < 0 ∧ ¬ (255 : Int32) < c := by
    intro c hc
    simp only [List.mem_cons, List.not_mem_nil, or_false] at hc
    rcases hc with rfl | rfl | rfl
    · decide
    · decide
    · decide
  have hcd11 : StrChars.Road.CodA ([(45 : Int32), (45 : Int32), (45 : Int32)] : List Int32) 0 (3 : Int32) (((([(45 : Int32), (45 : Int32), (45 : Int32)] : List Int32)).map (fun c => c.toInt8.toInt32)).map Value.int) := StrChars.Road.codOf (n := 3) rfl (fun c hc => (hp10 c hc).2)
  have hbd11 : ∀ c ∈ ([(45 : Int32), (45 : Int32), (45 : Int32)] : List Int32), ¬ c < 0 ∧ ¬ (65535 : Int32) < c := own_up _ hp10
  obtain ⟨cq12, kq12, q12a, q12b, q12c⟩ := isOf hZ e9 Fq2_0
  obtain ⟨_, _, ⟨T12, L12, k12x, n12⟩, -, X12, ⟨Lc12, hQ12, l12, y12, z12⟩, st12⟩ := X9.virtualBack hx (y := (⟨"java/lang/String", "charAt", "(I)C"⟩ : MethodName)) (z := (⟨"java/lang/String", "charAt", "(I)C"⟩ : MethodName)) hown (mvT hZ (tw hw 75 rfl)) (mvT hZ (tw hw 76 rfl)) (notFace_of_selects (args := #[]) (mvT hZ (tw hw 78 rfl))) (mvT hZ (tw hw 78 rfl)) (mvT hZ (tw hw 77 rfl)) (by decide) (StrChars.Road.chN (W := 0) hZ hwwordsChN (kI := 4) (tw hw 21 rfl) Fq2_0 Fq2_2 Fq2_1 Fq2_3 hcd11 hbd11 (Sg0.ext O2.2) nzGC (Sg1.ext O2.2) rGF (Nat.le_of_ble_eq_true rfl) (i := 1) (Nat.le_of_ble_eq_true rfl) (j := (1 : Int32)) rfl (by decide) (by decide)) q12a q12c (g := (mkF m 166 #[iv p0s, iv p1s, iv 0, iv dv3, rv w2, rv dv5, rv b6] [(.int 1), (.ref b6)])) rfl (by rw [hml]; rfl) (Steps.refl _) (argsL := [(.int 1)]) (rest := []) (lenOf pd_6 rfl) rfl (Nat.le_of_eq rfl) (hb hby at_166) (fun _ _ => ⟨rfl, e9, (by decide : 3 + 0 ≤ _), (by decide : 10 + 0 ≤ _)⟩)
  dsimp only [Pt.U, Pt.locs, Pt.cells, Pt.slots] at X12 l12 y12 z12 st12 hQ12
  subst l12 y12 z12
  obtain ⟨rfl, rfl, e12⟩ := hQ12
  have N12 := Fr.app N9 (Fr.nil n0)
  obtain ⟨_, _, ⟨T13, L13, k13x, n13⟩, -, X13, ⟨Lc13, hQ13, l13, y13, z13⟩, st13⟩ := Jvm.LawKit.callS X12 hx (y := (⟨zs8, "expect", "(IIC)C"⟩ : MethodName)) hown (mvT hZ (tw hw 97 rfl)) (mvT hZ (tw hw 98 rfl)) (mvT hZ (tw hw 99 rfl)) (mvT hZ (tw hw 100 rfl)) (by decide) (backOf (W := 1) (rm19_11 l Z a0 hw []  T2.heap n0 Z2 ) hZ (tw hw 100 rfl) (tw hw 99 rfl) (by decide) (by decide)) (g := (mkF m 173 #[iv p0s, iv p1s, iv 0, iv dv3, rv w2, rv dv5, rv b6] [(.int 119), (.int 2), (.int 0), (.int 45)])) rfl (by rw [hml]; rfl) (argsL := [(.int 0), (.int 2), (.int 119)]) (rest := [(.int 45)]) (lenOf pd_7 rfl) rfl (Nat.le_of_eq rfl) (hb hby at_173) (fun _ _ => ⟨rfl, e12, (by decide : 3 + 0 ≤ _), (by decide : 10 + 0 ≤ _)⟩)
  dsimp only [Pt.U, Pt.locs, Pt.cells, Pt.slots] at X13 l13 y13 z13 st13 hQ13
  subst l13 y13 z13
  obtain ⟨rfl, N13q, e13⟩ := hQ13
  have N13 := Fr.app N12 N13q
  have hp14 : ∀ c ∈ ([(45 : Int32), (45 : Int32), (45 : Int32)] : List Int32), ¬ c < 0 ∧ ¬ (255 : Int32) < c := by
    intro c hc
    simp only [List.mem_cons, List.not_mem_nil, or_false] at hc
    rcases hc with rfl | rfl | rfl
    · decide
    · decide
    · decide
  have hcd15 : StrChars.Road.CodA ([(45 : Int32), (45 : Int32), (45 : Int32)] : List Int32) 0 (3 : Int32) (((([(45 : Int32), (45 : Int32), (45 : Int32)] : List Int32)).map (fun c => c.toInt8.toInt32)).map Value.int) := StrChars.Road.codOf (n := 3) rfl (fun c hc => (hp14 c hc).2)
  have hbd15 : ∀ c ∈ ([(45 : Int32), (45 : Int32), (45 : Int32)] : List Int32), ¬ c < 0 ∧ ¬ (65535 : Int32) < c := own_up _ hp14
  obtain ⟨cq16, kq16, q16a, q16b, q16c⟩ := isOf hZ e13 Fq2_0
  obtain ⟨_, _, ⟨T16, L16, k16x, n16⟩, -, X16, ⟨Lc16, hQ16, l16, y16, z16⟩, st16⟩ := X13.virtualBack hx (y := (⟨"java/lang/String", "charAt", "(I)C"⟩ : MethodName)) (z := (⟨"java/lang/String", "charAt", "(I)C"⟩ : MethodName)) hown (mvT hZ (tw hw 75 rfl)) (mvT hZ (tw hw 76 rfl)) (notFace_of_selects (args := #[]) (mvT hZ (tw hw 78 rfl))) (mvT hZ (tw hw 78 rfl)) (mvT hZ (tw hw 77 rfl)) (by decide) (StrChars.Road.chN (W := 0) hZ hwwordsChN (kI := 4) (tw hw 21 rfl) Fq2_0 Fq2_2 Fq2_1 Fq2_3 hcd15 hbd15 (Sg0.ext O2.2) nzGC (Sg1.ext O2.2) rGF (Nat.le_of_ble_eq_true rfl) (i := 2) (Nat.le_of_ble_eq_true rfl) (j := (2 : Int32)) rfl (by decide) (by decide)) q16a q16c (g := (mkF m 182 #[iv p0s, iv p1s, iv 0, iv dv3, rv w2, rv dv5, rv b6] [(.int 2), (.ref b6)])) rfl (by rw [hml]; rfl) (Steps.refl _) (argsL := [(.int 2)]) (rest := []) (lenOf pd_6 rfl) rfl (Nat.le_of_eq rfl) (hb hby at_182) (fun _ _ => ⟨rfl, e13, (by decide : 3 + 0 ≤ _), (by decide : 10 + 0 ≤ _)⟩)
  dsimp only [Pt.U, Pt.locs, Pt.cells, Pt.slots] at X16 l16 y16 z16 st16 hQ16
  subst l16 y16 z16
  obtain ⟨rfl, rfl, e16⟩ := hQ16
  have N16 := Fr.app N13 (Fr.nil n0)
  obtain ⟨_, _, ⟨T17, L17, k17x, n17⟩, -, X17, ⟨Lc17, hQ17, l17, y17, z17⟩, st17⟩ := Jvm.LawKit.callS X16 hx (y := (⟨zs8, "expect", "(IIC)C"⟩ : MethodName)) hown (mvT hZ (tw hw 97 rfl)) (mvT hZ (tw hw 98 rfl)) (mvT hZ (tw hw 99 rfl)) (mvT hZ (tw hw 100 rfl)) (by decide) (backOf (W := 1) (rm19_12 l Z a0 hw []  T2.heap n0 Z2 ) hZ (tw hw 100 rfl) (tw hw 99 rfl) (by decide) (by decide)) (g := (mkF m 189 #[iv p0s, iv p1s, iv 0, iv dv3, rv w2, rv dv5, rv b6] [(.int 120), (.int 1), (.int 0), (.int 45)])) rfl (by rw [hml]; rfl) (argsL := [(.int 0), (.int 1), (.int 120)]) (rest := [(.int 45)]) (lenOf pd_7 rfl) rfl (Nat.le_of_eq rfl) (hb hby at_189) (fun _ _ => ⟨rfl, e16, (by decide : 3 + 0 ≤ _), (by decide : 10 + 0 ≤ _)⟩)
  dsimp only [Pt.U, Pt.locs, Pt.cells, Pt.slots] at X17 l17 y17 z17 st17 hQ17
  subst l17 y17 z17
  obtain ⟨rfl, N17q, e17⟩ := hQ17
  have N17 := Fr.app N16 N17q
  obtain ⟨fs, hr, hrun, hended, hW, hsame⟩ := X17.leave (v := some (.int (1 : Int32))) (fun h => by rw [hre] at h; cases h)
  refine ⟨_, _, ?_, hrun, hended, _, _, rfl, ?_, ⟨_, rfl⟩, hW, hsame.mono (by decide) (by decide)⟩
  · show SF p e below T0 (mkF m 72 #[iv p0s, iv p1s, iv 0, iv dv3, rv w2, rv dv5, .unset] []) _
    refine XS.iloadN X0.here hx rfl (hb hby at_72) rfl ?_
    show SF p e below T0 (mkF m 73 #[iv p0s, iv p1s, iv 0, iv dv3, rv w2, rv dv5, .unset] [(.int 0)]) _
    refine XS.ifNo X0.here hx rfl (hb hby at_73) rfl ((if0 _ _).trans (teq (by decide : (0 : Int32) = (0 : Int32))).2) ?_
    show SF p e below T0 (mkF m 76 #[iv p0s, iv p1s, iv 0, iv dv3, rv w2, rv dv5, .unset] []) _
    refine XS.aload X0.here hx rfl (hb hby at_76) rfl rfl ?_
    show SF p e below T0 (mkF m 78 #[iv p0s, iv p1s, iv 0, iv dv3, rv w2, rv dv5, .unset] [(.ref w2)]) _
    refine st1 _ ?_
    show SF p e below T1 (mkF m 81 #[iv p0s, iv p1s, iv 0, iv dv3, rv w2, rv dv5, .unset] [(.ref w2), (.ref w2)]) _
    refine Jvm.RoadKit.acmp (g := (mkF m 81 #[iv p0s, iv p1s, iv 0, iv dv3, rv w2, rv dv5, .unset] [(.ref w2), (.ref w2)])) X1 hx rfl rfl rfl (pc0 := 81) (pc' := 86) (same := true) rfl (hb hby at_81) rfl (decide_eq_true rfl) (by decide) (by decide) ?_
    show SF p e below T1 (mkF m 86 #[iv p0s, iv p1s, iv 0, iv dv3, rv w2, rv dv5, .unset] []) _
    refine XS.iloadN X1.here hx rfl (hb hby at_86) rfl ?_
    refine XS.iconst X1.here hx rfl (hb hby at_87) ?_
    show SF p e below T1 (mkF m 88 #[iv p0s, iv p1s, iv 0, iv dv3, rv w2, rv dv5, .unset] [(.int 4), (.int 0)]) _
    refine XS.icmpYes X1.here hx rfl (pc0 := 88) (pc' := 101) rfl (hb hby at_88) rfl (feq (by decide : ¬ ((0 : Int32) = (4 : Int32)))).2 (by decide) (by decide) ?_
    show SF p e below T1 (mkF m 101 #[iv p0s, iv p1s, iv 0, iv dv3, rv w2, rv dv5, .unset] []) _
    refine XS.iloadN X1.here hx rfl (hb hby at_101) rfl ?_
    refine XS.iconst X1.here hx rfl (hb hby at_102) ?_
    show SF p e below T1 (mkF m 103 #[iv p0s, iv p1s, iv 0, iv dv3, rv w2, rv dv5, .unset] [(.int 2), (.int 0)]) _
    refine XS.icmpYes X1.here hx rfl (pc0 := 103) (pc' := 116) rfl (hb hby at_103) rfl (feq (by decide : ¬ ((0 : Int32) = (2 : Int32)))).2 (by decide) (by decide) ?_
    show SF p e below T1 (mkF m 116 #[iv p0s, iv p1s, iv 0, iv dv3, rv w2, rv dv5, .unset] []) _
    refine XS.iloadN X1.here hx rfl (hb hby at_116) rfl ?_
    refine XS.iconst X1.here hx rfl (hb hby at_117) ?_
    show SF p e below T1 (mkF m 118 #[iv p0s, iv p1s, iv 0, iv dv3, rv w2, rv dv5, .unset] [(.int 1), (.int 0)]) _
    refine XS.icmpYes X1.here hx rfl (pc0 := 118) (pc' := 131) rfl (hb hby at_118) rfl (feq (by decide : ¬ ((0 : Int32) = (1 : Int32)))).2 (by decide) (by decide) ?_
    show SF p e below T1 (mkF m 131 #[iv p0s, iv p1s, iv 0, iv dv3, rv w2, rv dv5, .unset] []) _
    refine XS.aload X1.here hx rfl (hb hby at_131) rfl rfl ?_
    show SF p e below T1 (mkF m 133 #[iv p0s, iv p1s, iv 0, iv dv3, rv w2, rv dv5, .unset] [(.ref w2)]) _
    refine st2.trans ?_
    show SF p e below T2 (mkF m 136 #[iv p0s, iv p1s, iv 0, iv dv3, rv w2, rv dv5, .unset] [(.ref b6)]) _
    refine XS.astore X2.here hx rfl (hb hby at_136) rfl rfl (l' := #[iv p0s, iv p1s, iv 0, iv dv3, rv w2, rv dv5, rv b6]) rfl ?_
    refine XS.aload X2.here hx rfl (hb hby at_138) rfl rfl ?_
    show SF p e below T2 (mkF m 140 #[iv p0s, iv p1s, iv 0, iv dv3, rv w2, rv dv5, rv b6] [(.ref b6)]) _
    refine st5.trans ?_
    show SF p e below T5 (mkF m 143 #[iv p0s, iv p1s, iv 0, iv dv3, rv w2, rv dv5, rv b6] [(.int 3)]) _
    refine XS.iconst X5.here hx rfl (hb hby at_143) ?_
    show SF p e below T5 (mkF m 144 #[iv p0s, iv p1s, iv 0, iv dv3, rv w2, rv dv5, rv b6] [(.int 3), (.int 3)]) _
    refine XS.icmpNo X5.here hx rfl (hb hby at_144) rfl (teq (by decide : (3 : Int32) = (3 : Int32))).2 ?_
    show SF p e below T5 (mkF m 147 #[iv p0s, iv p1s, iv 0, iv dv3, rv w2, rv dv5, rv b6] []) _
    refine XS.aload X5.here hx rfl (hb hby at_147) rfl rfl ?_
    refine XS.iconst X5.here hx rfl (hb hby at_149) ?_
    show SF p e below T5 (mkF m 150 #[iv p0s, iv p1s, iv 0, iv dv3, rv w2, rv dv5, rv b6] [(.int 0), (.ref b6)]) _
    refine st8.trans ?_
    show SF p e below T8 (mkF m 153 #[iv p0s, iv p1s, iv 0, iv dv3, rv w2, rv dv5, rv b6] [(.int 45)]) _
    refine XS.iloadN X8.here hx rfl (hb hby at_153) rfl ?_
    refine XS.iconst X8.here hx rfl (hb hby at_154) ?_
    show SF p e below T8 (mkF m 155 #[iv p0s, iv p1s, iv 0, iv dv3, rv w2, rv dv5, rv b6] [(.int 4), (.int 0), (.int 45)]) _
    refine XS.bipush X8.here hx rfl (hb hby at_155) ?_
    show SF p e below T8 (mkF m 157 #[iv p0s, iv p1s, iv 0, iv dv3, rv w2, rv dv5, rv b6] [(.int 114), (.int 4), (.int 0), (.int 45)]) _
    refine st9 _ ?_
    show SF p e below T9 (mkF m 160 #[iv p0s, iv p1s, iv 0, iv dv3, rv w2, rv dv5, rv b6] [(.int 45), (.int 45)]) _
    refine XS.icmpNo X9.here hx rfl (hb hby at_160) rfl (teq (by decide : (45 : Int32) = (45 : Int32))).2 ?_
    show SF p e below T9 (mkF m 163 #[iv p0s, iv p1s, iv 0, iv dv3, rv w2, rv dv5, rv b6] []) _
    refine XS.aload X9.here hx rfl (hb hby at_163) rfl rfl ?_
    refine XS.iconst X9.here hx rfl (hb hby at_165) ?_
    show SF p e below T9 (mkF m 166 #[iv p0s, iv p1s, iv 0, iv dv3, rv w2, rv dv5, rv b6] [(.int 1), (.ref b6)]) _
    refine st12.trans ?_
    show SF p e below T12 (mkF m 169 #[iv p0s, iv p1s, iv 0, iv dv3, rv w2, rv dv5, rv b6] [(.int 45)]) _
    refine XS.iloadN X12.here hx rfl (hb hby at_169) rfl ?_
    refine XS.iconst X12.here hx rfl (hb hby at_170) ?_
    show SF p e below T12 (mkF m 171 #[iv p0s, iv p1s, iv 0, iv dv3, rv w2, rv dv5, rv b6] [(.int 2), (.int 0), (.int 45)]) _
    refine XS.bipush X12.here hx rfl (hb hby at_171) ?_
    show SF p e below T12 (mkF m 173 #[iv p0s, iv p1s, iv 0, iv dv3, rv w2, rv dv5, rv b6] [(.int 119), (.int 2), (.int 0), (.int 45)]) _
    refine st13 _ ?_
    show SF p e below T13 (mkF m 176 #[iv p0s, iv p1s, iv 0, iv dv3, rv w2, rv dv5, rv b6] [(.int 45), (.int 45)]) _
    refine XS.icmpNo X13.here hx rfl (hb hby at_176) rfl (teq (by decide : (45 : Int32) = (45 : Int32))).2 ?_
    show SF p e below T13 (mkF m 179 #[iv p0s, iv p1s, iv 0, iv dv3, rv w2, rv dv5, rv b6] []) _
    refine XS.aload X13.here hx rfl (hb hby at_179) rfl rfl ?_
    refine XS.iconst X13.here hx rfl (hb hby at_181) ?_
    show SF p e below T13 (mkF m 182 #[iv p0s, iv p1s, iv 0, iv dv3, rv w2, rv dv5, rv b6] [(.int 2), (.ref b6)]) _
    refine st16.trans ?_
    show SF p e below T16 (mkF m 185 #[iv p0s, iv p1s, iv 0, iv dv3, rv w2, rv dv5, rv b6] [(.int 45)]) _
    refine XS.iloadN X16.here hx rfl (hb hby at_185) rfl ?_
    refine XS.iconst X16.here hx rfl (hb hby at_186) ?_
    show SF p e below T16 (mkF m 187 #[iv p0s, iv p1s, iv 0, iv dv3, rv w2, rv dv5, rv b6] [(.int 1), (.int 0), (.int 45)]) _
    refine XS.bipush X16.here hx rfl (hb hby at_187) ?_
    show SF p e below T16 (mkF m 189 #[iv p0s, iv p1s, iv 0, iv dv3, rv w2, rv dv5, rv b6] [(.int 120), (.int 1), (.int 0), (.int 45)]) _
    refine st17 _ ?_
    show SF p e below T17 (mkF m 192 #[iv p0s, iv p1s, iv 0, iv dv3, rv w2, rv dv5, rv b6] [(.int 45), (.int 45)]) _
    refine XS.icmpNo X17.here hx rfl (hb hby at_192) rfl (teq (by decide : (45 : Int32) = (45 : Int32))).2 ?_
    show SF p e below T17 (mkF m 195 #[iv p0s, iv p1s, iv 0, iv dv3, rv w2, rv dv5, rv b6] []) _
    refine XS.iconst X17.here hx rfl (hb hby at_195) ?_
    refine XS.goto X17.here hx rfl (pc0 := 196) (pc' := 200) rfl (hb hby at_196) (by decide) (by decide) ?_
    show SF p e below T17 (mkF m 200 #[iv p0s, iv p1s, iv 0, iv dv3, rv w2, rv dv5, rv b6] [(.int 1)]) _
    exact retN X17 hx (t := .boolean) hre (by simp) (hb hby at_200) hr
  · exact ⟨rfl, N17⟩
set_option maxRecDepth 65536 in
set_option maxHeartbeats 400000000 in
theorem pc_1 {p : Program} {l : Launch} {e : Env} {s : State} {m : MethodId} {below : List Frame} {meth : Method} {c : Code} {T0 : State} {locs : List Loc} {Z : State} {a0 : Array Value} {h0 : Heap} {n0 : Nat} {p0s : Int32} {p1s : Int32} {GC : Int32} {GF : Value} {w2 : Addr} {w4 : Addr} {w5 : Addr} {w6 : Addr}  (X0 : Stand p l e room_1 s m #[(.int p0s), (.int p1s)] below meth c T0 locs 0 0) (hx : p.tables.exec = Jvm.exec) (hZ : Z.Warmed39 s.vm) (hw : HW Z a0) (hby : c.code = code) (hml : c.maxLocals = 7) (hown : s.vm.findClass zs8 = some m.cls) (hre : meth.sig.returnType = some .boolean) (hlk : meth.locks = false) (e0 : T0.heap = h0) (N0 : Fr n0 locs) (Z0 : n0 ≤ h0.size) (O0 : Old Z n0 h0) (Sg0 : Sta Z Z.heap "java/lang/String" "COMPACT_STRINGS" "Z" (.int GC)) (Sg1 : Sta Z Z.heap zs9 "SIOOBE_FORMATTER" zs5 GF) (rGF : GF.isRef = true) (nzGC : ¬ (GC = (0 : Int32))) (E_w2 : Exa Z Z.heap w2 zs7) (Sg7 : Sta Z Z.heap zs7 "READ" zs4 (.ref w4)) (Sg9 : Sta Z Z.heap zs7 "WRITE" zs4 (.ref w5)) (Sg11 : Sta Z Z.heap zs7 "EXECUTE" zs4 (.ref w6)) (Sg16 : Sta Z Z.heap zs7 "NONE" zs4 (.ref w2)) (F_w2_bits : Fld Z Z.heap w2 zs7 "bits" "I" (.int 0)) (F_w4_bits : Fld Z Z.heap w4 zs7 "bits" "I" (.int 4)) (F_w5_bits : Fld Z Z.heap w5 zs7 "bits" "I" (.int 2)) (F_w6_bits : Fld Z Z.heap w6 zs7 "bits" "I" (.int 1)) :
    Fine p e below s n0 (T0.setTop (mkF m 22 #[iv p0s, iv p1s, iv 0, iv 0, rv w2, rv w2, .unset] [])) := by
  obtain ⟨cq1, kq1, q1a, q1b, q1c⟩ := isOf hZ e0 (E_w2.ext O0.2)
  obtain ⟨_, _, ⟨T1, L1, k1x, n1⟩, -, X1, ⟨Lc1, hQ1, l1, y1, z1⟩, st1⟩ := X0.virtualBack hx (y := (⟨zs7, "bits", "()I"⟩ : MethodName)) (z := (⟨zs7, "bits", "()I"⟩ : MethodName)) hown (mvT hZ (tw hw 6 rfl)) (mvT hZ (tw hw 7 rfl)) (notFace_of_selects (args := #[]) (mvT hZ (tw hw 9 rfl))) (mvT hZ (tw hw 9 rfl)) (mvT hZ (tw hw 8 rfl)) (by decide) (backOf (W := 0) (rm2_2 l Z a0 hw [] w2 h0 n0 Z0 F_w2_bits O0) hZ (tw hw 10 rfl) (tw hw 2 rfl) (by decide) (by decide)) q1a q1c (g := (mkF m 36 #[iv p0s, iv p1s, iv 0, iv 0, rv w2, rv w2, .unset] [(.ref w2)])) rfl (by rw [hml]; rfl) (Steps.refl _) (argsL := []) (rest := []) (lenOf pd_1 rfl) rfl (Nat.le_of_eq rfl) (hb hby at_36) (fun _ _ => ⟨rfl, e0, (by decide : 0 + 0 ≤ _), (by decide : 0 + 0 ≤ _)⟩)
  dsimp only [Pt.U, Pt.locs, Pt.cells, Pt.slots] at X1 l1 y1 z1 st1 hQ1
  subst l1 y1 z1
  obtain ⟨rfl, N1q, e1⟩ := hQ1
  have N1 := Fr.app N0 N1q
  refine Fine.pre (fun t k => ?_) (pc_2 (dv3 := (0 : Int32)) (dv5 := w2) X1 hx hZ hw hby hml hown hre hlk e1 N1 Z0 O0 Sg0 Sg1 rGF nzGC E_w2 Sg7 Sg9 Sg11 Sg16 F_w2_bits F_w4_bits F_w5_bits F_w6_bits )
  show SF p e below T0 (mkF m 22 #[iv p0s, iv p1s, iv 0, iv 0, rv w2, rv w2, .unset] []) _
  refine XS.aload X0.here hx rfl (hb hby at_22) rfl rfl ?_
  show SF p e below T0 (mkF m 24 #[iv p0s, iv p1s, iv 0, iv 0, rv w2, rv w2, .unset] [(.ref w2)]) _
  refine XS.ifnullNo X0.here hx rfl (hb hby at_24) rfl ?_
  show SF p e below T0 (mkF m 27 #[iv p0s, iv p1s, iv 0, iv 0, rv w2, rv w2, .unset] []) _
  refine XS.aload X0.here hx rfl (hb hby at_27) rfl rfl ?_
  show SF p e below T0 (mkF m 29 #[iv p0s, iv p1s, iv 0, iv 0, rv w2, rv w2, .unset] [(.ref w2)]) _
  refine XS.ifnonnullYes X0.here hx rfl (pc0 := 29) (pc' := 34) rfl (hb hby at_29) rfl (by decide) (by decide) ?_
  show SF p e below T0 (mkF m 34 #[iv p0s, iv p1s, iv 0, iv 0, rv w2, rv w2, .unset] []) _
  refine XS.aload X0.here hx rfl (hb hby at_34) rfl rfl ?_
  show SF p e below T0 (mkF m 36 #[iv p0s, iv p1s, iv 0, iv 0, rv w2, rv w2, .unset] [(.ref w2)]) _
  refine st1.trans ?_
  show SF p e below T1 (mkF m 39 #[iv p0s, iv p1s, iv 0, iv 0, rv w2, rv w2, .unset] [(.int 0)]) _
  refine XS.iloadN X1.here hx rfl (hb hby at_39) rfl ?_
  show SF p e below T1 (mkF m 40 #[iv p0s, iv p1s, iv 0, iv 0, rv w2, rv w2, .unset] [(.int 0), (.int 0)]) _
  refine XS.icmpYes X1.here hx rfl (pc0 := 40) (pc' := 45) rfl (hb hby at_40) rfl (teq (by decide : (0 : Int32) = (0 : Int32))).1 (by decide) (by decide) ?_
  show SF p e below T1 (mkF m 45 #[iv p0s, iv p1s, iv 0, iv 0, rv w2, rv w2, .unset] []) _
  refine XS.aload X1.here hx rfl (hb hby at_45) rfl rfl ?_
  refine XS.aload X1.here hx rfl (hb hby at_47) rfl rfl ?_
  show SF p e below T1 (mkF m 49 #[iv p0s, iv p1s, iv 0, iv 0, rv w2, rv w2, .unset] [(.ref w2), (.ref w2)]) _
  refine Jvm.RoadKit.acmp (g := (mkF m 49 #[iv p0s, iv p1s, iv 0, iv 0, rv w2, rv w2, .unset] [(.ref w2), (.ref w2)])) X1 hx rfl rfl rfl (pc0 := 49) (pc' := 52) (same := true) rfl (hb hby at_49) rfl (decide_eq_true rfl) (by decide) (by decide) ?_
  show SF p e below T1 (mkF m 52 #[iv p0s, iv p1s, iv 0, iv 0, rv w2, rv w2, .unset] []) _
  refine XS.iconst X1.here hx rfl (hb hby at_52) ?_
  refine XS.goto X1.here hx rfl (pc0 := 53) (pc' := 57) rfl (hb hby at_53) (by decide) (by decide) ?_
  show SF p e below T1 (mkF m 57 #[iv p0s, iv p1s, iv 0, iv 0, rv w2, rv w2, .unset] [(.int 1)]) _
  refine XS.iloadN X1.here hx rfl (hb hby at_57) rfl ?_
  refine XS.iloadN X1.here hx rfl (hb hby at_58) rfl ?_
  show SF p e below T1 (mkF m 59 #[iv p0s, iv p1s, iv 0, iv 0, rv w2, rv w2, .unset] [(.int 0), (.int 0), (.int 1)]) _
  refine XS.icmpNo X1.here hx rfl (hb hby at_59) rfl (teq (by decide : (0 : Int32) = (0 : Int32))).2 ?_
  show SF p e below T1 (mkF m 62 #[iv p0s, iv p1s, iv 0, iv 0, rv w2, rv w2, .unset] [(.int 1)]) _
  refine XS.iconst X1.here hx rfl (hb hby at_62) ?_
  refine XS.goto X1.here hx rfl (pc0 := 63) (pc' := 67) rfl (hb hby at_63) (by decide) (by decide) ?_
  show SF p e below T1 (mkF m 67 #[iv p0s, iv p1s, iv 0, iv 0, rv w2, rv w2, .unset] [(.int 1), (.int 1)]) _
  refine XS.icmpYes X1.here hx rfl (pc0 := 67) (pc' := 72) rfl (hb hby at_67) rfl (teq (by decide : (1 : Int32) = (1 : Int32))).1 (by decide) (by decide) ?_
  exact k
-- Rights.of 
def Q1_13 (Z : State) (w1 : Addr) (kw1 : ClassId) (w2 : Addr) (w6 : Addr) (w5 : Addr) (w3 : Addr) (w4 : Addr) (w8 : Addr) (w7 : Addr) (w9 : Addr) (h0 : Heap) (n0 : Nat) (v : Option Value) (h : Heap) (L : List Loc) : Prop := v = some (.ref w6) ∧ Fr n0 L ∧ h = h0
set_option maxRecDepth 65536 in
set_option maxHeartbeats 40000000 in
theorem rm1_13 (l : Launch) (Z : State) (a0 : Array Value) (hw : HW Z a0) (ws : List Jvm.Cond) (w1 : Addr) (kw1 : ClassId) (w2 : Addr) (w6 : Addr) (w5 : Addr) (w3 : Addr) (w4 : Addr) (w8 : Addr) (w7 : Addr) (w9 : Addr) (h0 : Heap) (n0 : Nat) (Z0 : n0 ≤ h0.size) (Sg4 : Sta Z Z.heap zs7 "SETS" zs6 (.ref w1)) (P2 : Old Z n0 h0) (V_w1 : Arv Z Z.heap w1 kw1 (.object zs7) (8 : Int32) [(.ref w2), (.ref w6), (.ref w5), (.ref w3), (.ref w4), (.ref w8), (.ref w7), (.ref w9)] .null) :
    MF l Z (⟨zs7, "of", zs1⟩ : MethodName) (Jvm.Cond.code (⟨zs7, "of", zs1⟩ : MethodName) prog_35_method_2_code 1 (some (.object zs7))) ws ({ frames := 0, cells := 0, slots := 0, locals := 0 } : Room) #[(.int 1)] h0 (Q1_13 Z w1 kw1 w2 w6 w5 w3 w4 w8 w7 w9 h0 n0) := by
  refine own_enter (plainFor_of_name pn_0) fun p e s m below meth c s₁ X0 hx hby hml hown hnm hZ e0 hre hlk => ?_
  have N0 := Fr.nil n0
  have pre0 : ∀ t, SF p e below s₁ (mkF m 0 #[iv 1] []) t → SF p e below s₁ (entryFrame m #[(.int 1)] 1) t := fun t k => castTop (ef_0 m (1 : Int32)) k
  obtain ⟨T1, X1, e1, st1⟩ := getS2 X0 hx hZ hown (host := "") (Or.inl (tw hw 4 rfl)) Via.refl e0 (Sg4.ext P2.2) (g := (mkF m 24 #[iv 1] [])) rfl (hb hby d1_24)
  obtain ⟨cl2, Ar2, q2, S2, N2z, H2, G2⟩ := id (V_w1.ext P2.2)
  have hin2 : ¬ ((1 : Int32) < 0 ∨ cl2.slots.size ≤ ((1 : Int32)).toNatClampNeg) := inb_of S2 ⟨by decide, by decide⟩
  have hat2 : cl2.slots[((1 : Int32)).toNatClampNeg]? = some (.ref w6) := Has.at H2 hin2 rfl
  obtain ⟨fs, hr, hrun, hended, hW, hsame⟩ := X1.leave (v := some (.ref w6)) (fun h => by rw [hre] at h; cases h)
  refine ⟨_, _, pre0 _ ?_, hrun, hended, _, _, rfl, ?_, ⟨_, rfl⟩, hW, hsame.mono (by decide) (by decide)⟩
  · show SF p e below s₁ (mkF m 0 #[iv 1] []) _
    refine XS.iloadN X0.here hx rfl (hb hby d1_0) rfl ?_
    show SF p e below s₁ (mkF m 1 #[iv 1] [(.int 1)]) _
    refine XS.ifNo X0.here hx rfl (hb hby d1_1) rfl ((if0 _ _).trans (flt (by decide : ¬ ((1 : Int32) < (0 : Int32)))).1) ?_
    show SF p e below s₁ (mkF m 4 #[iv 1] []) _
    refine XS.iloadN X0.here hx rfl (hb hby d1_4) rfl ?_
    refine XS.bipush X0.here hx rfl (hb hby d1_5) ?_
    show SF p e below s₁ (mkF m 7 #[iv 1] [(.int 7), (.int 1)]) _
    refine XS.icmpYes X0.here hx rfl (pc0 := 7) (pc' := 24) rfl (hb hby d1_7) rfl (flt (by decide : ¬ ((7 : Int32) < (1 : Int32)))).2.2.2 (by decide) (by decide) ?_
    show SF p e below s₁ (mkF m 24 #[iv 1] []) _
    refine st1 _ ?_
    show SF p e below T1 (mkF m 27 #[iv 1] [(.ref w1)]) _
    refine XS.iloadN X1.here hx rfl (hb hby d1_27) rfl ?_
    show SF p e below T1 (mkF m 28 #[iv 1] [(.int 1), (.ref w1)]) _
    refine X1.aaload hx (j := (1 : Int32)) (v := (.ref w6)) (by rw [e1]; exact Ar2.1) (State.isArrayOf_alike hZ.alike Ar2.2.1) rfl Ar2.2.2 hin2 hat2 (g := (mkF m 28 #[iv 1] [(.int 1), (.ref w1)])) rfl rfl (hb hby d1_28) _ ?_
    show SF p e below T1 (mkF m 29 #[iv 1] [(.ref w6)]) _
    exact own_retR X1 hx hre rfl rfl (hb hby d1_29) hr
  · show Q1_13 Z w1 kw1 w2 w6 w5 w3 w4 w8 w7 w9 h0 n0 _ T1.heap _
    rw [e1]
    exact ⟨rfl, N0, rfl⟩
set_option maxRecDepth 65536 in
set_option maxHeartbeats 400000000 in
theorem pc_3 {p : Program} {l : Launch} {e : Env} {s : State} {m : MethodId} {below : List Frame} {meth : Method} {c : Code} {T0 : State} {locs : List Loc} {Z : State} {a0 : Array Value} {h0 : Heap} {n0 : Nat} {p0s : Int32} {p1s : Int32} {GC : Int32} {GF : Value} {w2 : Addr} {w4 : Addr} {w5 : Addr} {w6 : Addr} {dv3 : Int32} {dv5 : Addr} (X0 : Stand p l e room_1 s m #[(.int p0s), (.int p1s)] below meth c T0 locs 0 0) (hx : p.tables.exec = Jvm.exec) (hZ : Z.Warmed39 s.vm) (hw : HW Z a0) (hby : c.code = code) (hml : c.maxLocals = 7) (hown : s.vm.findClass zs8 = some m.cls) (hre : meth.sig.returnType = some .boolean) (hlk : meth.locks = false) (e0 : T0.heap = h0) (N0 : Fr n0 locs) (Z0 : n0 ≤ h0.size) (O0 : Old Z n0 h0) (Sg0 : Sta Z Z.heap "java/lang/String" "COMPACT_STRINGS" "Z" (.int GC)) (Sg1 : Sta Z Z.heap zs9 "SIOOBE_FORMATTER" zs5 GF) (rGF : GF.isRef = true) (nzGC : ¬ (GC = (0 : Int32))) (E_w2 : Exa Z Z.heap w2 zs7) (Sg7 : Sta Z Z.heap zs7 "READ" zs4 (.ref w4)) (Sg9 : Sta Z Z.heap zs7 "WRITE" zs4 (.ref w5)) (Sg11 : Sta Z Z.heap zs7 "EXECUTE" zs4 (.ref w6)) (Sg16 : Sta Z Z.heap zs7 "NONE" zs4 (.ref w2)) (F_w2_bits : Fld Z Z.heap w2 zs7 "bits" "I" (.int 0)) (F_w4_bits : Fld Z Z.heap w4 zs7 "bits" "I" (.int 4)) (F_w5_bits : Fld Z Z.heap w5 zs7 "bits" "I" (.int 2)) (F_w6_bits : Fld Z Z.heap w6 zs7 "bits" "I" (.int 1)) (P1 : ¬ ((0 : Int32) = dv3)) (P2 : w2 ≠ dv5) :
    Fine p e below s n0 (T0.setTop (mkF m 22 #[iv p0s, iv p1s, iv 0, iv dv3, rv w2, rv dv5, .unset] [])) := by
  obtain ⟨cq1, kq1, q1a, q1b, q1c⟩ := isOf hZ e0 (E_w2.ext O0.2)
  obtain ⟨_, _, ⟨T1, L1, k1x, n1⟩, -, X1, ⟨Lc1, hQ1, l1, y1, z1⟩, st1⟩ := X0.virtualBack hx (y := (⟨zs7, "bits", "()I"⟩ : MethodName)) (z := (⟨zs7, "bits", "()I"⟩ : MethodName)) hown (mvT hZ (tw hw 6 rfl)) (mvT hZ (tw hw 7 rfl)) (notFace_of_selects (args := #[]) (mvT hZ (tw hw 9 rfl))) (mvT hZ (tw hw 9 rfl)) (mvT hZ (tw hw 8 rfl)) (by decide) (backOf (W := 0) (rm2_2 l Z a0 hw [] w2 h0 n0 Z0 F_w2_bits O0) hZ (tw hw 10 rfl) (tw hw 2 rfl) (by decide) (by decide)) q1a q1c (g := (mkF m 36 #[iv p0s, iv p1s, iv 0, iv dv3, rv w2, rv dv5, .unset] [(.ref w2)])) rfl (by rw [hml]; rfl) (Steps.refl _) (argsL := []) (rest := []) (lenOf pd_1 rfl) rfl (Nat.le_of_eq rfl) (hb hby at_36) (fun _ _ => ⟨rfl, e0, (by decide : 0 + 0 ≤ _), (by decide : 0 + 0 ≤ _)⟩)
  dsimp only [Pt.U, Pt.locs, Pt.cells, Pt.slots] at X1 l1 y1 z1 st1 hQ1
  subst l1 y1 z1
  obtain ⟨rfl, N1q, e1⟩ := hQ1
  have N1 := Fr.app N0 N1q
  refine Fine.pre (fun t k => ?_) (pc_2 (dv3 := dv3) (dv5 := dv5) X1 hx hZ hw hby hml hown hre hlk e1 N1 Z0 O0 Sg0 Sg1 rGF nzGC E_w2 Sg7 Sg9 Sg11 Sg16 F_w2_bits F_w4_bits F_w5_bits F_w6_bits )
  show SF p e below T0 (mkF m 22 #[iv p0s, iv p1s, iv 0, iv dv3, rv w2, rv dv5, .unset] []) _
  refine XS.aload X0.here hx rfl (hb hby at_22) rfl rfl ?_
  show SF p e below T0 (mkF m 24 #[iv p0s, iv p1s, iv 0, iv dv3, rv w2, rv dv5, .unset] [(.ref w2)]) _
  refine XS.ifnullNo X0.here hx rfl (hb hby at_24) rfl ?_
  show SF p e below T0 (mkF m 27 #[iv p0s, iv p1s, iv 0, iv dv3, rv w2, rv dv5, .unset] []) _
  refine XS.aload X0.here hx rfl (hb hby at_27) rfl rfl ?_
  show SF p e below T0 (mkF m 29 #[iv p0s, iv p1s, iv 0, iv dv3, rv w2, rv dv5, .unset] [(.ref dv5)]) _
  refine XS.ifnonnullYes X0.here hx rfl (pc0 := 29) (pc' := 34) rfl (hb hby at_29) rfl (by decide) (by decide) ?_
  show SF p e below T0 (mkF m 34 #[iv p0s, iv p1s, iv 0, iv dv3, rv w2, rv dv5, .unset] []) _
  refine XS.aload X0.here hx rfl (hb hby at_34) rfl rfl ?_
  show SF p e below T0 (mkF m 36 #[iv p0s, iv p1s, iv 0, iv dv3, rv w2, rv dv5, .unset] [(.ref w2)]) _
  refine st1.trans ?_
  show SF p e below T1 (mkF m 39 #[iv p0s, iv p1s, iv 0, iv dv3, rv w2, rv dv5, .unset] [(.int 0)]) _
  refine XS.iloadN X1.here hx rfl (hb hby at_39) rfl ?_
  show SF p e below T1 (mkF m 40 #[iv p0s, iv p1s, iv 0, iv dv3, rv w2, rv dv5, .unset] [(.int 0), (.int 0)]) _
  refine XS.icmpYes X1.here hx rfl (pc0 := 40) (pc' := 45) rfl (hb hby at_40) rfl (teq (by decide : (0 : Int32) = (0 : Int32))).1 (by decide) (by decide) ?_
  show SF p e below T1 (mkF m 45 #[iv p0s, iv p1s, iv 0, iv dv3, rv w2, rv dv5, .unset] []) _
  refine XS.aload X1.here hx rfl (hb hby at_45) rfl rfl ?_
  refine XS.aload X1.here hx rfl (hb hby at_47) rfl rfl ?_
  show SF p e below T1 (mkF m 49 #[iv p0s, iv p1s, iv 0, iv dv3, rv w2, rv dv5, .unset] [(.ref dv5), (.ref w2)]) _
  refine Jvm.RoadKit.acmp (g := (mkF m 49 #[iv p0s, iv p1s, iv 0, iv dv3, rv w2, rv dv5, .unset] [(.ref dv5), (.ref w2)])) X1 hx rfl rfl rfl (pc0 := 49) (pc' := 56) (same := false) rfl (hb hby at_49) rfl (decide_eq_false fun q => P2 (Value.ref.inj q)) (by decide) (by decide) ?_
  show SF p e below T1 (mkF m 56 #[iv p0s, iv p1s, iv 0, iv dv3, rv w2, rv dv5, .unset] []) _
  refine XS.iconst X1.here hx rfl (hb hby at_56) ?_
  refine XS.iloadN X1.here hx rfl (hb hby at_57) rfl ?_
  show SF p e below T1 (mkF m 58 #[iv p0s, iv p1s, iv 0, iv dv3, rv w2, rv dv5, .unset] [(.int 0), (.int 0)]) _
  refine XS.iloadN X1.here hx rfl (hb hby at_58) rfl ?_
  show SF p e below T1 (mkF m 59 #[iv p0s, iv p1s, iv 0, iv dv3, rv w2, rv dv5, .unset] [(.int dv3), (.int 0), (.int 0)]) _
  refine XS.icmpYes X1.here hx rfl (pc0 := 59) (pc' := 66) rfl (hb hby at_59) rfl (feq P1).2 (by decide) (by decide) ?_
  show SF p e below T1 (mkF m 66 #[iv p0s, iv p1s, iv 0, iv dv3, rv w2, rv dv5, .unset] [(.int 0)]) _
  refine XS.iconst X1.here hx rfl (hb hby at_66) ?_
  show SF p e below T1 (mkF m 67 #[iv p0s, iv p1s, iv 0, iv dv3, rv w2, rv dv5, .unset] [(.int 0), (.int 0)]) _
  refine XS.icmpYes X1.here hx rfl (pc0 := 67) (pc' := 72) rfl (hb hby at_67) rfl (teq (by decide : (0 : Int32) = (0 : Int32))).1 (by decide) (by decide) ?_
  exact k
-- Rights.of 
def Q1_14 (Z : State) (w1 : Addr) (kw1 : ClassId) (w2 : Addr) (w6 : Addr) (w5 : Addr) (w3 : Addr) (w4 : Addr) (w8 : Addr) (w7 : Addr) (w9 : Addr) (h0 : Heap) (n0 : Nat) (v : Option Value) (h : Heap) (L : List Loc) : Prop := v = some (.ref w5) ∧ Fr n0 L ∧ h = h0
set_option maxRecDepth 65536 in
set_option maxHeartbeats 40000000 in
theorem rm1_14 (l : Launch) (Z : State) (a0 : Array Value) (hw : HW Z a0) (ws : List Jvm.Cond) (w1 : Addr) (kw1 : ClassId) (w2 : Addr) (w6 : Addr) (w5 : Addr) (w3 : Addr) (w4 : Addr) (w8 : Addr) (w7 : Addr) (w9 : Addr) (h0 : Heap) (n0 : Nat) (Z0 : n0 ≤ h0.size) (Sg4 : Sta Z Z.heap zs7 "SETS" zs6 (.ref w1)) (P2 : Old Z n0 h0) (V_w1 : Arv Z Z.heap w1 kw1 (.object zs7) (8 : Int32) [(.ref w2), (.ref w6), (.ref w5), (.ref w3), (.ref w4), (.ref w8), (.ref w7), (.ref w9)] .null) :
    MF l Z (⟨zs7, "of", zs1⟩ : MethodName) (Jvm.Cond.code (⟨zs7, "of", zs1⟩ : MethodName) prog_35_method_2_code 1 (some (.object zs7))) ws ({ frames := 0, cells := 0, slots := 0, locals := 0 } : Room) #[(.int 2)] h0 (Q1_14 Z w1 kw1 w2 w6 w5 w3 w4 w8 w7 w9 h0 n0) := by
  refine own_enter (plainFor_of_name pn_0) fun p e s m below meth c s₁ X0 hx hby hml hown hnm hZ e0 hre hlk => ?_
  have N0 := Fr.nil n0
  have pre0 : ∀ t, SF p e below s₁ (mkF m 0 #[iv 2] []) t → SF p e below s₁ (entryFrame m #[(.int 2)] 1) t := fun t k => castTop (ef_0 m (2 : Int32)) k
  obtain ⟨T1, X1, e1, st1⟩ := getS2 X0 hx hZ hown (host := "") (Or.inl (tw hw 4 rfl)) Via.refl e0 (Sg4.ext P2.2) (g := (mkF m 24 #[iv 2] [])) rfl (hb hby d1_24)
  obtain ⟨cl2, Ar2, q2, S2, N2z, H2, G2⟩ := id (V_w1.ext P2.2)
  have hin2 : ¬ ((2 : Int32) < 0 ∨ cl2.slots.size ≤ ((2 : Int32)).toNatClampNeg) := inb_of S2 ⟨by decide, by decide⟩
  have hat2 : cl2.slots[((2 : Int32)).toNatClampNeg]? = some (.ref w5) := Has.at H2 hin2 rfl
  obtain ⟨fs, hr, hrun, hended, hW, hsame⟩ := X1.leave (v := some (.ref w5)) (fun h => by rw [hre] at h; cases h)
  refine ⟨_, _, pre0 _ ?_, hrun, hended, _, _, rfl, ?_, ⟨_, rfl⟩, hW, hsame.mono (by decide) (by decide)⟩
  · show SF p e below s₁ (mkF m 0 #[iv 2] []) _
    refine XS.iloadN X0.here hx rfl (hb hby d1_0) rfl ?_
    show SF p e below s₁ (mkF m 1 #[iv 2] [(.int 2)]) _
    refine XS.ifNo X0.here hx rfl (hb hby d1_1) rfl ((if0 _ _).trans (flt (by decide : ¬ ((2 : Int32) < (0 : Int32)))).1) ?_
    show SF p e below s₁ (mkF m 4 #[iv 2] []) _
    refine XS.iloadN X0.here hx rfl (hb hby d1_4) rfl ?_
    refine XS.bipush X0.here hx rfl (hb hby d1_5) ?_
    show SF p e below s₁ (mkF m 7 #[iv 2] [(.int 7), (.int 2)]) _
    refine XS.icmpYes X0.here hx rfl (pc0 := 7) (pc' := 24) rfl (hb hby d1_7) rfl (flt (by decide : ¬ ((7 : Int32) < (2 : Int32)))).2.2.2 (by decide) (by decide) ?_
    show SF p e below s₁ (mkF m 24 #[iv 2] []) _
    refine st1 _ ?_
    show SF p e below T1 (mkF m 27 #[iv 2] [(.ref w1)]) _
    refine XS.iloadN X1.here hx rfl (hb hby d1_27) rfl ?_
    show SF p e below T1 (mkF m 28 #[iv 2] [(.int 2), (.ref w1)]) _
    refine X1.aaload hx (j := (2 : Int32)) (v := (.ref w5)) (by rw [e1]; exact Ar2.1) (State.isArrayOf_alike hZ.alike Ar2.2.1) rfl Ar2.2.2 hin2 hat2 (g := (mkF m 28 #[iv 2] [(.int 2), (.ref w1)])) rfl rfl (hb hby d1_28) _ ?_
    show SF p e below T1 (mkF m 29 #[iv 2] [(.ref w5)]) _
    exact own_retR X1 hx hre rfl rfl (hb hby d1_29) hr
  · show Q1_14 Z w1 kw1 w2 w6 w5 w3 w4 w8 w7 w9 h0 n0 _ T1.heap _
    rw [e1]
    exact ⟨rfl, N0, rfl⟩
-- Rights.of 
def Q1_15 (Z : State) (w1 : Addr) (kw1 : ClassId) (w2 : Addr) (w6 : Addr) (w5 : Addr) (w3 : Addr) (w4 : Addr) (w8 : Addr) (w7 : Addr) (w9 : Addr) (h0 : Heap) (n0 : Nat) (v : Option Value) (h : Heap) (L : List Loc) : Prop := v = some (.ref w3) ∧ Fr n0 L ∧ h = h0
set_option maxRecDepth 65536 in
set_option maxHeartbeats 40000000 in
theorem rm1_15 (l : Launch) (Z : State) (a0 : Array Value) (hw : HW Z a0) (ws : List Jvm.Cond) (w1 : Addr) (kw1 : ClassId) (w2 : Addr) (w6 : Addr) (w5 : Addr) (w3 : Addr) (w4 : Addr) (w8 : Addr) (w7 : Addr) (w9 : Addr) (h0 : Heap) (n0 : Nat) (Z0 : n0 ≤ h0.size) (Sg4 : Sta Z Z.heap zs7 "SETS" zs6 (.ref w1)) (P2 : Old Z n0 h0) (V_w1 : Arv Z Z.heap w1 kw1 (.object zs7) (8 : Int32) [(.ref w2), (.ref w6), (.ref w5), (.ref w3), (.ref w4), (.ref w8), (.ref w7), (.ref w9)] .null) :
    MF l Z (⟨zs7, "of", zs1⟩ : MethodName) (Jvm.Cond.code (⟨zs7, "of", zs1⟩ : MethodName) prog_35_method_2_code 1 (some (.object zs7))) ws ({ frames := 0, cells := 0, slots := 0, locals := 0 } : Room) #[(.int 3)] h0 (Q1_15 Z w1 kw1 w2 w6 w5 w3 w4 w8 w7 w9 h0 n0) := by
  refine own_enter (plainFor_of_name pn_0) fun p e s m below meth c s₁ X0 hx hby hml hown hnm hZ e0 hre hlk => ?_
  have N0 := Fr.nil n0
  have pre0 : ∀ t, SF p e below s₁ (mkF m 0 #[iv 3] []) t → SF p e below s₁ (entryFrame m #[(.int 3)] 1) t := fun t k => castTop (ef_0 m (3 : Int32)) k
  obtain ⟨T1, X1, e1, st1⟩ := getS2 X0 hx hZ hown (host := "") (Or.inl (tw hw 4 rfl)) Via.refl e0 (Sg4.ext P2.2) (g := (mkF m 24 #[iv 3] [])) rfl (hb hby d1_24)
  obtain ⟨cl2, Ar2, q2, S2, N2z, H2, G2⟩ := id (V_w1.ext P2.2)
  have hin2 : ¬ ((3 : Int32) < 0 ∨ cl2.slots.size ≤ ((3 : Int32)).toNatClampNeg) := inb_of S2 ⟨by decide, by decide⟩
  have hat2 : cl2.slots[((3 : Int32)).toNatClampNeg]? = some (.ref w3) := Has.at H2 hin2 rfl
  obtain ⟨fs, hr, hrun, hended, hW, hsame⟩ := X1.leave (v := some (.ref w3)) (fun h => by rw [hre] at h; cases h)
  refine ⟨_, _, pre0 _ ?_, hrun, hended, _, _, rfl, ?_, ⟨_, rfl⟩, hW, hsame.mono (by decide) (by decide)⟩
  · show SF p e below s₁ (mkF m 0 #[iv 3] []) _
    refine XS.iloadN X0.here hx rfl (hb hby d1_0) rfl ?_
    show SF p e below s₁ (mkF m 1 #[iv 3] [(.int 3)]) _
    refine XS.ifNo X0.here hx rfl (hb hby d1_1) rfl ((if0 _ _).trans (flt (by decide : ¬ ((3 : Int32) < (0 : Int32)))).1) ?_
    show SF p e below s₁ (mkF m 4 #[iv 3] []) _
    refine XS.iloadN X0.here hx rfl (hb hby d1_4) rfl ?_
    refine XS.bipush X0.here hx rfl (hb hby d1_5) ?_
    show SF p e below s₁ (mkF m 7 #[iv 3] [(.int 7), (.int 3)]) _
    refine XS.icmpYes X0.here hx rfl (pc0 := 7) (pc' := 24) rfl (hb hby d1_7) rfl (flt (by decide : ¬ ((7 : Int32) < (3 : Int32)))).2.2.2 (by decide) (by decide) ?_
    show SF p e below s₁ (mkF m 24 #[iv 3] []) _
    refine st1 _ ?_
    show SF p e below T1 (mkF m 27 #[iv 3] [(.ref w1)]) _
    refine XS.iloadN X1.here hx rfl (hb hby d1_27) rfl ?_
    show SF p e below T1 (mkF m 28 #[iv 3] [(.int 3), (.ref w1)]) _
    refine X1.aaload hx (j := (3 : Int32)) (v := (.ref w3)) (by rw [e1]; exact Ar2.1) (State.isArrayOf_alike hZ.alike Ar2.2.1) rfl Ar2.2.2 hin2 hat2 (g := (mkF m 28 #[iv 3] [(.int 3), (.ref w1)])) rfl rfl (hb hby d1_28) _ ?_
    show SF p e below T1 (mkF m 29 #[iv 3] [(.ref w3)]) _
    exact own_retR X1 hx hre rfl rfl (hb hby d1_29) hr
  · show Q1_15 Z w1 kw1 w2 w6 w5 w3 w4 w8 w7 w9 h0 n0 _ T1.heap _
    rw [e1]
    exact ⟨rfl, N0, rfl⟩
-- Rights.of 
def Q1_16 (Z : State) (w1 : Addr) (kw1 : ClassId) (w2 : Addr) (w6 : Addr) (w5 : Addr) (w3 : Addr) (w4 : Addr) (w8 : Addr) (w7 : Addr) (w9 : Addr) (h0 : Heap) (n0 : Nat) (v : Option Value) (h : Heap) (L : List Loc) : Prop := v = some (.ref w4) ∧ Fr n0 L ∧ h = h0
set_option maxRecDepth 65536 in
set_option maxHeartbeats 40000000 in
theorem rm1_16 (l : Launch) (Z : State) (a0 : Array Value) (hw : HW Z a0) (ws : List Jvm.Cond) (w1 : Addr) (kw1 : ClassId) (w2 : Addr) (w6 : Addr) (w5 : Addr) (w3 : Addr) (w4 : Addr) (w8 : Addr) (w7 : Addr) (w9 : Addr) (h0 : Heap) (n0 : Nat) (Z0 : n0 ≤ h0.size) (Sg4 : Sta Z Z.heap zs7 "SETS" zs6 (.ref w1)) (P2 : Old Z n0 h0) (V_w1 : Arv Z Z.heap w1 kw1 (.object zs7) (8 : Int32) [(.ref w2), (.ref w6), (.ref w5), (.ref w3), (.ref w4), (.ref w8), (.ref w7), (.ref w9)] .null) :
    MF l Z (⟨zs7, "of", zs1⟩ : MethodName) (Jvm.Cond.code (⟨zs7, "of", zs1⟩ : MethodName) prog_35_method_2_code 1 (some (.object zs7))) ws ({ frames := 0, cells := 0, slots := 0, locals := 0 } : Room) #[(.int 4)] h0 (Q1_16 Z w1 kw1 w2 w6 w5 w3 w4 w8 w7 w9 h0 n0) := by
  refine own_enter (plainFor_of_name pn_0) fun p e s m below meth c s₁ X0 hx hby hml hown hnm hZ e0 hre hlk => ?_
  have N0 := Fr.nil n0
  have pre0 : ∀ t, SF p e below s₁ (mkF m 0 #[iv 4] []) t → SF p e below s₁ (entryFrame m #[(.int 4)] 1) t := fun t k => castTop (ef_0 m (4 : Int32)) k
  obtain ⟨T1, X1, e1, st1⟩ := getS2 X0 hx hZ hown (host := "") (Or.inl (tw hw 4 rfl)) Via.refl e0 (Sg4.ext P2.2) (g := (mkF m 24 #[iv 4] [])) rfl (hb hby d1_24)
  obtain ⟨cl2, Ar2, q2, S2, N2z, H2, G2⟩ := id (V_w1.ext P2.2)
  have hin2 : ¬ ((4 : Int32) < 0 ∨ cl2.slots.size ≤ ((4 : Int32)).toNatClampNeg) := inb_of S2 ⟨by decide, by decide⟩
  have hat2 : cl2.slots[((4 : Int32)).toNatClampNeg]? = some (.ref w4) := Has.at H2 hin2 rfl
  obtain ⟨fs, hr, hrun, hended, hW, hsame⟩ := X1.leave (v := some (.ref w4)) (fun h => by rw [hre] at h; cases h)
  refine ⟨_, _, pre0 _ ?_, hrun, hended, _, _, rfl, ?_, ⟨_, rfl⟩, hW, hsame.mono (by decide) (by decide)⟩
  · show SF p e below s₁ (mkF m 0 #[iv 4] []) _
    refine XS.iloadN X0.here hx rfl (hb hby d1_0) rfl ?_
    show SF p e below s₁ (mkF m 1 #[iv 4] [(.int 4)]) _
    refine XS.ifNo X0.here hx rfl (hb hby d1_1) rfl ((if0 _ _).trans (flt (by decide : ¬ ((4 : Int32) < (0 : Int32)))).1) ?_
    show SF p e below s₁ (mkF m 4 #[iv 4] []) _
    refine XS.iloadN X0.here hx rfl (hb hby d1_4) rfl ?_
    refine XS.bipush X0.here hx rfl (hb hby d1_5) ?_
    show SF p e below s₁ (mkF m 7 #[iv 4] [(.int 7), (.int 4)]) _
    refine XS.icmpYes X0.here hx rfl (pc0 := 7) (pc' := 24) rfl (hb hby d1_7) rfl (flt (by decide : ¬ ((7 : Int32) < (4 : Int32)))).2.2.2 (by decide) (by decide) ?_
    show SF p e below s₁ (mkF m 24 #[iv 4] []) _
    refine st1 _ ?_
    show SF p e below T1 (mkF m 27 #[iv 4] [(.ref w1)]) _
    refine XS.iloadN X1.here hx rfl (hb hby d1_27) rfl ?_
    show SF p e below T1 (mkF m 28 #[iv 4] [(.int 4), (.ref w1)]) _
    refine X1.aaload hx (j := (4 : Int32)) (v := (.ref w4)) (by rw [e1]; exact Ar2.1) (State.isArrayOf_alike hZ.alike Ar2.2.1) rfl Ar2.2.2 hin2 hat2 (g := (mkF m 28 #[iv 4] [(.int 4), (.ref w1)])) rfl rfl (hb hby d1_28) _ ?_
    show SF p e below T1 (mkF m 29 #[iv 4] [(.ref w4)]) _
    exact own_retR X1 hx hre rfl rfl (hb hby d1_29) hr
  · show Q1_16 Z w1 kw1 w2 w6 w5 w3 w4 w8 w7 w9 h0 n0 _ T1.heap _
    rw [e1]
    exact ⟨rfl, N0, rfl⟩
-- Rights.of 
def Q1_17 (Z : State) (w1 : Addr) (kw1 : ClassId) (w2 : Addr) (w6 : Addr) (w5 : Addr) (w3 : Addr) (w4 : Addr) (w8 : Addr) (w7 : Addr) (w9 : Addr) (h0 : Heap) (n0 : Nat) (v : Option Value) (h : Heap) (L : List Loc) : Prop := v = some (.ref w8) ∧ Fr n0 L ∧ h = h0
set_option maxRecDepth 65536 in
set_option maxHeartbeats 40000000 in
theorem rm1_17 (l : Launch) (Z : State) (a0 : Array Value) (hw : HW Z a0) (ws : List Jvm.Cond) (w1 : Addr) (kw1 : ClassId) (w2 : Addr) (w6 : Addr) (w5 : Addr) (w3 : Addr) (w4 : Addr) (w8 : Addr) (w7 : Addr) (w9 : Addr) (h0 : Heap) (n0 : Nat) (Z0 : n0 ≤ h0.size) (Sg4 : Sta Z Z.heap zs7 "SETS" zs6 (.ref w1)) (P2 : Old Z n0 h0) (V_w1 : Arv Z Z.heap w1 kw1 (.object zs7) (8 : Int32) [(.ref w2), (.ref w6), (.ref w5), (.ref w3), (.ref w4), (.ref w8), (.ref w7), (.ref w9)] .null) :
    MF l Z (⟨zs7, "of", zs1⟩ : MethodName) (Jvm.Cond.code (⟨zs7, "of", zs1⟩ : MethodName) prog_35_method_2_code 1 (some (.object zs7))) ws ({ frames := 0, cells := 0, slots := 0, locals := 0 } : Room) #[(.int 5)] h0 (Q1_17 Z w1 kw1 w2 w6 w5 w3 w4 w8 w7 w9 h0 n0) := by
  refine own_enter (plainFor_of_name pn_0) fun p e s m below meth c s₁ X0 hx hby hml hown hnm hZ e0 hre hlk => ?_
  have N0 := Fr.nil n0
  have pre0 : ∀ t, SF p e below s₁ (mkF m 0 #[iv 5] []) t → SF p e below s₁ (entryFrame m #[(.int 5)] 1) t := fun t k => castTop (ef_0 m (5 : Int32)) k
  obtain ⟨T1, X1, e1, st1⟩ := getS2 X0 hx hZ hown (host := "") (Or.inl (tw hw 4 rfl)) Via.refl e0 (Sg4.ext P2.2) (g := (mkF m 24 #[iv 5] [])) rfl (hb hby d1_24)
  obtain ⟨cl2, Ar2, q2, S2, N2z, H2, G2⟩ := id (V_w1.ext P2.2)
  have hin2 : ¬ ((5 : Int32) < 0 ∨ cl2.slots.size ≤ ((5 : Int32)).toNatClampNeg) := inb_of S2 ⟨by decide, by decide⟩
  have hat2 : cl2.slots[((5 : Int32)).toNatClampNeg]? = some (.ref w8) := Has.at H2 hin2 rfl
  obtain ⟨fs, hr, hrun, hended, hW, hsame⟩ := X1.leave (v := some (.ref w8)) (fun h => by rw [hre] at h; cases h)
  refine ⟨_, _, pre0 _ ?_, hrun, hended, _, _, rfl, ?_, ⟨_, rfl⟩, hW, hsame.mono (by decide) (by decide)⟩
  · show SF p e below s₁ (mkF m 0 #[iv 5] []) _
    refine XS.iloadN X0.here hx rfl (hb hby d1_0) rfl ?_
    show SF p e below s₁ (mkF m 1 #[iv 5] [(.int 5)]) _
    refine XS.ifNo X0.here hx rfl (hb hby d1_1) rfl ((if0 _ _).trans (flt (by decide : ¬ ((5 : Int32) < (0 : Int32)))).1) ?_
    show SF p e below s₁ (mkF m 4 #[iv 5] []) _
    refine XS.iloadN X0.here hx rfl (hb hby d1_4) rfl ?_
    refine XS.bipush X0.here hx rfl (hb hby d1_5) ?_
    show SF p e below s₁ (mkF m 7 #[iv 5] [(.int 7), (.int 5)]) _
    refine XS.icmpYes X0.here hx rfl (pc0 := 7) (pc' := 24) rfl (hb hby d1_7) rfl (flt (by decide : ¬ ((7 : Int32) < (5 : Int32)))).2.2.2 (by decide) (by decide) ?_
    show SF p e below s₁ (mkF m 24 #[iv 5] []) _
    refine st1 _ ?_
    show SF p e below T1 (mkF m 27 #[iv 5] [(.ref w1)]) _
    refine XS.iloadN X1.here hx rfl (hb hby d1_27) rfl ?_
    show SF p e below T1 (mkF m 28 #[iv 5] [(.int 5), (.ref w1)]) _
    refine X1.aaload hx (j := (5 : Int32)) (v := (.ref w8)) (by rw [e1]; exact Ar2.1) (State.isArrayOf_alike hZ.alike Ar2.2.1) rfl Ar2.2.2 hin2 hat2 (g := (mkF m 28 #[iv 5] [(.int 5), (.ref w1)])) rfl rfl (hb hby d1_28) _ ?_
    show SF p e below T1 (mkF m 29 #[iv 5] [(.ref w8)]) _
    exact own_retR X1 hx hre rfl rfl (hb hby d1_29) hr
  · show Q1_17 Z w1 kw1 w2 w6 w5 w3 w4 w8 w7 w9 h0 n0 _ T1.heap _
    rw [e1]
    exact ⟨rfl, N0, rfl⟩
-- Rights.of 
def Q1_18 (Z : State) (w1 : Addr) (kw1 : ClassId) (w2 : Addr) (w6 : Addr) (w5 : Addr) (w3 : Addr) (w4 : Addr) (w8 : Addr) (w7 : Addr) (w9 : Addr) (h0 : Heap) (n0 : Nat) (v : Option Value) (h : Heap) (L : List Loc) : Prop := v = some (.ref w7) ∧ Fr n0 L ∧ h = h0
set_option maxRecDepth 65536 in
set_option maxHeartbeats 40000000 in
theorem rm1_18 (l : Launch) (Z : State) (a0 : Array Value) (hw : HW Z a0) (ws : List Jvm.Cond) (w1 : Addr) (kw1 : ClassId) (w2 : Addr) (w6 : Addr) (w5 : Addr) (w3 : Addr) (w4 : Addr) (w8 : Addr) (w7 : Addr) (w9 : Addr) (h0 : Heap) (n0 : Nat) (Z0 : n0 ≤ h0.size) (Sg4 : Sta Z Z.heap zs7 "SETS" zs6 (.ref w1)) (P2 : Old Z n0 h0) (V_w1 : Arv Z Z.heap w1 kw1 (.object zs7) (8 : Int32) [(.ref w2), (.ref w6), (.ref w5), (.ref w3), (.ref w4), (.ref w8), (.ref w7), (.ref w9)] .null) :
    MF l Z (⟨zs7, "of", zs1⟩ : MethodName) (Jvm.Cond.code (⟨zs7, "of", zs1⟩ : MethodName) prog_35_method_2_code 1 (some (.object zs7))) ws ({ frames := 0, cells := 0, slots := 0, locals := 0 } : Room) #[(.int 6)] h0 (Q1_18 Z w1 kw1 w2 w6 w5 w3 w4 w8 w7 w9 h0 n0) := by
  refine own_enter (plainFor_of_name pn_0) fun p e s m below meth c s₁ X0 hx hby hml hown hnm hZ e0 hre hlk => ?_
  have N0 := Fr.nil n0
  have pre0 : ∀ t, SF p e below s₁ (mkF m 0 #[iv 6] []) t → SF p e below s₁ (entryFrame m #[(.int 6)] 1) t := fun t k => castTop (ef_0 m (6 : Int32)) k
  obtain ⟨T1, X1, e1, st1⟩ := getS2 X0 hx hZ hown (host := "") (Or.inl (tw hw 4 rfl)) Via.refl e0 (Sg4.ext P2.2) (g := (mkF m 24 #[iv 6] [])) rfl (hb hby d1_24)
  obtain ⟨cl2, Ar2, q2, S2, N2z, H2, G2⟩ := id (V_w1.ext P2.2)
  have hin2 : ¬ ((6 : Int32) < 0 ∨ cl2.slots.size ≤ ((6 : Int32)).toNatClampNeg) := inb_of S2 ⟨by decide, by decide⟩
  have hat2 : cl2.slots[((6 : Int32)).toNatClampNeg]? = some (.ref w7) := Has.at H2 hin2 rfl
  obtain ⟨fs, hr, hrun, hended, hW, hsame⟩ := X1.leave (v := some (.ref w7)) (fun h => by rw [hre] at h; cases h)
  refine ⟨_, _, pre0 _ ?_, hrun, hended, _, _, rfl, ?_, ⟨_, rfl⟩, hW, hsame.mono (by decide) (by decide)⟩
  · show SF p e below s₁ (mkF m 0 #[iv 6] []) _
    refine XS.iloadN X0.here hx rfl (hb hby d1_0) rfl ?_
    show SF p e below s₁ (mkF m 1 #[iv 6] [(.int 6)]) _
    refine XS.ifNo X0.here hx rfl (hb hby d1_1) rfl ((if0 _ _).trans (flt (by decide : ¬ ((6 : Int32) < (0 : Int32)))).1) ?_
    show SF p e below s₁ (mkF m 4 #[iv 6] []) _
    refine XS.iloadN X0.here hx rfl (hb hby d1_4) rfl ?_
    refine XS.bipush X0.here hx rfl (hb hby d1_5) ?_
    show SF p e below s₁ (mkF m 7 #[iv 6] [(.int 7), (.int 6)]) _
    refine XS.icmpYes X0.here hx rfl (pc0 := 7) (pc' := 24) rfl (hb hby d1_7) rfl (flt (by decide : ¬ ((7 : Int32) < (6 : Int32)))).2.2.2 (by decide) (by decide) ?_
    show SF p e below s₁ (mkF m 24 #[iv 6] []) _
    refine st1 _ ?_
    show SF p e below T1 (mkF m 27 #[iv 6] [(.ref w1)]) _
    refine XS.iloadN X1.here hx rfl (hb hby d1_27) rfl ?_
    show SF p e below T1 (mkF m 28 #[iv 6] [(.int 6), (.ref w1)]) _
    refine X1.aaload hx (j := (6 : Int32)) (v := (.ref w7)) (by rw [e1]; exact Ar2.1) (State.isArrayOf_alike hZ.alike Ar2.2.1) rfl Ar2.2.2 hin2 hat2 (g := (mkF m 28 #[iv 6] [(.int 6), (.ref w1)])) rfl rfl (hb hby d1_28) _ ?_
    show SF p e below T1 (mkF m 29 #[iv 6] [(.ref w7)]) _
    exact own_retR X1 hx hre rfl rfl (hb hby d1_29) hr
  · show Q1_18 Z w1 kw1 w2 w6 w5 w3 w4 w8 w7 w9 h0 n0 _ T1.heap _
    rw [e1]
    exact ⟨rfl, N0, rfl⟩
-- Rights.of 
def Q1_19 (Z : State) (w1 : Addr) (kw1 : ClassId) (w2 : Addr) (w6 : Addr) (w5 : Addr) (w3 : Addr) (w4 : Addr) (w8 : Addr) (w7 : Addr) (w9 : Addr) (h0 : Heap) (n0 : Nat) (v : Option Value) (h : Heap) (L : List Loc) : Prop := v = some (.ref w9) ∧ Fr n0 L ∧ h = h0
set_option maxRecDepth 65536 in
set_option maxHeartbeats 40000000 in
theorem rm1_19 (l : Launch) (Z : State) (a0 : Array Value) (hw : HW Z a0) (ws : List Jvm.Cond) (w1 : Addr) (kw1 : ClassId) (w2 : Addr) (w6 : Addr) (w5 : Addr) (w3 : Addr) (w4 : Addr) (w8 : Addr) (w7 : Addr) (w9 : Addr) (h0 : Heap) (n0 : Nat) (Z0 : n0 ≤ h0.size) (Sg4 : Sta Z Z.heap zs7 "SETS" zs6 (.ref w1)) (P2 : Old Z n0 h0) (V_w1 : Arv Z Z.heap w1 kw1 (.object zs7) (8 : Int32) [(.ref w2), (.ref w6), (.ref w5), (.ref w3), (.ref w4), (.ref w8), (.ref w7), (.ref w9)] .null) :
    MF l Z (⟨zs7, "of", zs1⟩ : MethodName) (Jvm.Cond.code (⟨zs7, "of", zs1⟩ : MethodName) prog_35_method_2_code 1 (some (.object zs7))) ws ({ frames := 0, cells := 0, slots := 0, locals := 0 } : Room) #[(.int 7)] h0 (Q1_19 Z w1 kw1 w2 w6 w5 w3 w4 w8 w7 w9 h0 n0) := by
  refine own_enter (plainFor_of_name pn_0) fun p e s m below meth c s₁ X0 hx hby hml hown hnm hZ e0 hre hlk => ?_
  have N0 := Fr.nil n0
  have pre0 : ∀ t, SF p e below s₁ (mkF m 0 #[iv 7] []) t → SF p e below s₁ (entryFrame m #[(.int 7)] 1) t := fun t k => castTop (ef_0 m (7 : Int32)) k
  obtain ⟨T1, X1, e1, st1⟩ := getS2 X0 hx hZ hown (host := "") (Or.inl (tw hw 4 rfl)) Via.refl e0 (Sg4.ext P2.2) (g := (mkF m 24 #[iv 7] [])) rfl (hb hby d1_24)
  obtain ⟨cl2, Ar2, q2, S2, N2z, H2, G2⟩ := id (V_w1.ext P2.2)
  have hin2 : ¬ ((7 : Int32) < 0 ∨ cl2.slots.size ≤ ((7 : Int32)).toNatClampNeg) := inb_of S2 ⟨by decide, by decide⟩
  have hat2 : cl2.slots[((7 : Int32)).toNatClampNeg]? = some (.ref w9) := Has.at H2 hin2 rfl
  obtain ⟨fs, hr, hrun, hended, hW, hsame⟩ := X1.leave (v := some (.ref w9)) (fun h => by rw [hre] at h; cases h)
  refine ⟨_, _, pre0 _ ?_, hrun, hended, _, _, rfl, ?_, ⟨_, rfl⟩, hW, hsame.mono (by decide) (by decide)⟩
  · show SF p e below s₁ (mkF m 0 #[iv 7] []) _
    refine XS.iloadN X0.here hx rfl (hb hby d1_0) rfl ?_
    show SF p e below s₁ (mkF m 1 #[iv 7] [(.int 7)]) _
    refine XS.ifNo X0.here hx rfl (hb hby d1_1) rfl ((if0 _ _).trans (flt (by decide : ¬ ((7 : Int32) < (0 : Int32)))).1) ?_
    show SF p e below s₁ (mkF m 4 #[iv 7] []) _
    refine XS.iloadN X0.here hx rfl (hb hby d1_4) rfl ?_
    refine XS.bipush X0.here hx rfl (hb hby d1_5) ?_
    show SF p e below s₁ (mkF m 7 #[iv 7] [(.int 7), (.int 7)]) _
    refine XS.icmpYes X0.here hx rfl (pc0 := 7) (pc' := 24) rfl (hb hby d1_7) rfl (flt (by decide : ¬ ((7 : Int32) < (7 : Int32)))).2.2.2 (by decide) (by decide) ?_
    show SF p e below s₁ (mkF m 24 #[iv 7] []) _
    refine st1 _ ?_
    show SF p e below T1 (mkF m 27 #[iv 7] [(.ref w1)]) _
    refine XS.iloadN X1.here hx rfl (hb hby d1_27) rfl ?_
    show SF p e below T1 (mkF m 28 #[iv 7] [(.int 7), (.ref w1)]) _
    refine X1.aaload hx (j := (7 : Int32)) (v := (.ref w9)) (by rw [e1]; exact Ar2.1) (State.isArrayOf_alike hZ.alike Ar2.2.1) rfl Ar2.2.2 hin2 hat2 (g := (mkF m 28 #[iv 7] [(.int 7), (.ref w1)])) rfl rfl (hb hby d1_28) _ ?_
    show SF p e below T1 (mkF m 29 #[iv 7] [(.ref w9)]) _
    exact own_retR X1 hx hre rfl rfl (hb hby d1_29) hr
  · show Q1_19 Z w1 kw1 w2 w6 w5 w3 w4 w8 w7 w9 h0 n0 _ T1.heap _
    rw [e1]
    exact ⟨rfl, N0, rfl⟩
-- Rights.bits 
def Q2_20 (Z : State) (w6 : Addr) (h0 : Heap) (n0 : Nat) (v : Option Value) (h : Heap) (L : List Loc) : Prop := v = some (.int 1) ∧ Fr n0 L ∧ h = h0
set_option maxRecDepth 65536 in
set_option maxHeartbeats 40000000 in
theorem rm2_20 (l : Launch) (Z : State) (a0 : Array Value) (hw : HW Z a0) (ws : List Jvm.Cond) (w6 : Addr) (h0 : Heap) (n0 : Nat) (Z0 : n0 ≤ h0.size) (F_w6_bits : Fld Z Z.heap w6 zs7 "bits" "I" (.int 1)) (P2 : Old Z n0 h0) :
    MF l Z (⟨zs7, "bits", "()I"⟩ : MethodName) (Jvm.Cond.code (⟨zs7, "bits", "()I"⟩ : MethodName) prog_35_method_3_code 1 (some .int)) ws ({ frames := 0, cells := 0, slots := 0, locals := 0 } : Room) #[(.ref w6)] h0 (Q2_20 Z w6 h0 n0) := by
  refine own_enter (plainFor_of_name pn_0) fun p e s m below meth c s₁ X0 hx hby hml hown hnm hZ e0 hre hlk => ?_
  have N0 := Fr.nil n0
  have pre0 : ∀ t, SF p e below s₁ (mkF m 0 #[rv w6] []) t → SF p e below s₁ (entryFrame m #[(.ref w6)] 1) t := fun t k => castTop (ef_1 m w6) k
  obtain ⟨T1, X1, e1, st1⟩ := getF X0 hx hZ hown (host := "") (Or.inl (tw hw 11 rfl)) Via.refl e0 (F_w6_bits.ext P2.2) (g := (mkF m 1 #[rv w6] [(.ref w6)])) rfl rfl (hb hby d2_1)
  obtain ⟨fs, hr, hrun, hended, hW, hsame⟩ := X1.leave (v := some (.int 1)) (fun h => by rw [hre] at h; cases h)
  refine ⟨_, _, pre0 _ ?_, hrun, hended, _, _, rfl, ?_, ⟨_, rfl⟩, hW, hsame.mono (by decide) (by decide)⟩
  · show SF p e below s₁ (mkF m 0 #[rv w6] []) _
    refine XS.aloadN X0.here hx rfl (hb hby d2_0) rfl rfl ?_
    show SF p e below s₁ (mkF m 1 #[rv w6] [(.ref w6)]) _
    refine st1 _ ?_
    show SF p e below T1 (mkF m 4 #[rv w6] [(.int 1)]) _
    exact retI X1 hx hre (hb hby d2_4) hr
  · show Q2_20 Z w6 h0 n0 _ T1.heap _
    rw [e1]
    exact ⟨rfl, N0, rfl⟩
-- Rights.containsAll 
def Q5_21 (Z : State) (w6 : Addr) (w4 : Addr) (h0 : Heap) (n0 : Nat) (v : Option Value) (h : Heap) (L : List Loc) : Prop := v = some (.int 0) ∧ Fr n0 L ∧ h = h0
set_option maxRecDepth 65536 in
set_option maxHeartbeats 40000000 in
theorem rm5_21 (l : Launch) (Z : State) (a0 : Array Value) (hw : HW Z a0) (ws : List Jvm.Cond) (w6 : Addr) (w4 : Addr) (h0 : Heap) (n0 : Nat) (Z0 : n0 ≤ h0.size) (F_w4_bits : Fld Z Z.heap w4 zs7 "bits" "I" (.int 4)) (P2 : Old Z n0 h0) (F_w6_bits : Fld Z Z.heap w6 zs7 "bits" "I" (.int 1)) :
    MF l Z (⟨zs7, "containsAll", zs2⟩ : MethodName) (Jvm.Cond.code (⟨zs7, "containsAll", zs2⟩ : MethodName) prog_35_method_4_code 2 (some .boolean)) ws ({ frames := 0, cells := 0, slots := 0, locals := 0 } : Room) #[(.ref w6), (.ref w4)] h0 (Q5_21 Z w6 w4 h0 n0) := by
  refine own_enter (plainFor_of_name pn_0) fun p e s m below meth c s₁ X0 hx hby hml hown hnm hZ e0 hre hlk => ?_
  have N0 := Fr.nil n0
  have pre0 : ∀ t, SF p e below s₁ (mkF m 0 #[rv w6, rv w4] []) t → SF p e below s₁ (entryFrame m #[(.ref w6), (.ref w4)] 2) t := fun t k => castTop (ef_2 m w6 w4) k
  obtain ⟨T1, X1, e1, st1⟩ := getF X0 hx hZ hown (host := "") (Or.inl (tw hw 11 rfl)) Via.refl e0 (F_w4_bits.ext P2.2) (g := (mkF m 1 #[rv w6, rv w4] [(.ref w4)])) rfl rfl (hb hby d5_1)
  obtain ⟨T2, X2, e2, st2⟩ := getF X1 hx hZ hown (host := "") (Or.inl (tw hw 11 rfl)) Via.refl e1 (F_w6_bits.ext P2.2) (g := (mkF m 5 #[rv w6, rv w4] [(.ref w6), (.int 4)])) rfl rfl (hb hby d5_5)
  obtain ⟨fs, hr, hrun, hended, hW, hsame⟩ := X2.leave (v := some (.int 0)) (fun h => by rw [hre] at h; cases h)
  refine ⟨_, _, pre0 _ ?_, hrun, hended, _, _, rfl, ?_, ⟨_, rfl⟩, hW, hsame.mono (by decide) (by decide)⟩
  · show SF p e below s₁ (mkF m 0 #[rv w6, rv w4] []) _
    refine XS.aloadN X0.here hx rfl (hb hby d5_0) rfl rfl ?_
    show SF p e below s₁ (mkF m 1 #[rv w6, rv w4] [(.ref w4)]) _
    refine st1 _ ?_
    show SF p e below T1 (mkF m 4 #[rv w6, rv w4] [(.int 4)]) _
    refine XS.aloadN X1.here hx rfl (hb hby d5_4) rfl rfl ?_
    show SF p e below T1 (mkF m 5 #[rv w6, rv w4] [(.ref w6), (.int 4)]) _
    refine st2 _ ?_
    show SF p e below T2 (mkF m 8 #[rv w6, rv w4] [(.int 1), (.int 4)]) _
    refine XS.iconst X2.here hx rfl (hb hby d5_8) ?_
    show SF p e below T2 (mkF m 9 #[rv w6, rv w4] [(.int (-1)), (.int 1), (.int 4)]) _
    refine XS.ixor X2.here hx rfl (hb hby d5_9) rfl ?_
    show SF p e below T2 (mkF m 10 #[rv w6, rv w4] [(.int ((1 : Int32) ^^^ (-1 : Int32))), (.int 4)]) _
    rw [show ((1 : Int32) ^^^ (-1 : Int32)) = (-2 : Int32) from by decide]
    show SF p e below T2 (mkF m 10 #[rv w6, rv w4] [(.int (-2)), (.int 4)]) _
    refine XS.iand X2.here hx rfl (hb hby d5_10) rfl ?_
    show SF p e below T2 (mkF m 11 #[rv w6, rv w4] [(.int ((4 : Int32) &&& (-2 : Int32)))]) _
    rw [show ((4 : Int32) &&& (-2 : Int32)) = (4 : Int32) from by decide]
    show SF p e below T2 (mkF m 11 #[rv w6, rv w4] [(.int 4)]) _
    refine XS.ifYes X2.here hx rfl (pc0 := 11) (pc' := 18) rfl (hb hby d5_11) rfl ((if0 _ _).trans (feq (by decide : ¬ ((4 : Int32) = (0 : Int32)))).2) (by decide) (by decide) ?_
    show SF p e below T2 (mkF m 18 #[rv w6, rv w4] []) _
    refine XS.iconst X2.here hx rfl (hb hby d5_18) ?_
    show SF p e below T2 (mkF m 19 #[rv w6, rv w4] [(.int 0)]) _
    exact retN X2 hx (t := .boolean) hre (by simp) (hb hby d5_19) hr
  · show Q5_21 Z w6 w4 h0 n0 _ T2.heap _
    rw [e2]
    exact ⟨rfl, N0, rfl⟩
-- Rights.letter 
def Q4_22 (Z : State) (w6 : Addr) (w4 : Addr) (h0 : Heap) (n0 : Nat) (v : Option Value) (h : Heap) (L : List Loc) : Prop := v = some (.int 45) ∧ Fr n0 L ∧ h = h0
set_option maxRecDepth 65536 in
set_option maxHeartbeats 40000000 in
theorem rm4_22 (l : Launch) (Z : State) (a0 : Array Value) (hw : HW Z a0) (ws : List Jvm.Cond) (w6 : Addr) (w4 : Addr) (h0 : Heap) (n0 : Nat) (Z0 : n0 ≤ h0.size) (E_w6 : Exa Z Z.heap w6 zs7) (P2 : Old Z n0 h0) (F_w4_bits : Fld Z Z.heap w4 zs7 "bits" "I" (.int 4)) (F_w6_bits : Fld Z Z.heap w6 zs7 "bits" "I" (.int 1)) :
    MF l Z (⟨zs7, "letter", zs3⟩ : MethodName) (Jvm.Cond.code (⟨zs7, "letter", zs3⟩ : MethodName) prog_35_method_6_code 3 (some .char)) ws ({ frames := 1, cells := 0, slots := 0, locals := 13 } : Room) #[(.ref w6), (.ref w4), (.int 114)] h0 (Q4_22 Z w6 w4 h0 n0) := by
  refine own_enter (plainFor_of_name pn_0) fun p e s m below meth c s₁ X0 hx hby hml hown hnm hZ e0 hre hlk => ?_
  have N0 := Fr.nil n0
  have pre0 : ∀ t, SF p e below s₁ (mkF m 0 #[rv w6, rv w4, iv 114] []) t → SF p e below s₁ (entryFrame m #[(.ref w6), (.ref w4), (.int 114)] 3) t := fun t k => castTop (ef_3 m w6 w4 (114 : Int32)) k
  obtain ⟨cq1, kq1, q1a, q1b, q1c⟩ := isOf hZ e0 (E_w6.ext P2.2)
  obtain ⟨_, _, ⟨T1, L1, k1x, n1⟩, -, X1, ⟨Lc1, hQ1, l1, y1, z1⟩, st1⟩ := X0.virtualBack hx (y := (⟨zs7, "containsAll", zs2⟩ : MethodName)) (z := (⟨zs7, "containsAll", zs2⟩ : MethodName)) hown (mvT hZ (tw hw 30 rfl)) (mvT hZ (tw hw 31 rfl)) (notFace_of_selects (args := #[]) (mvT hZ (tw hw 33 rfl))) (mvT hZ (tw hw 33 rfl)) (mvT hZ (tw hw 32 rfl)) (by decide) (backOf (W := 0) (rm5_21 l Z a0 hw [] w6 w4 h0 n0 Z0 F_w4_bits P2 F_w6_bits) hZ (tw hw 34 rfl) (tw hw 2 rfl) (by decide) (by decide)) q1a q1c (g := (mkF m 2 #[rv w6, rv w4, iv 114] [(.ref w4), (.ref w6)])) rfl (by rw [hml]; rfl) (Steps.refl _) (argsL := [(.ref w4)]) (rest := []) (lenOf pd_2 rfl) rfl (Nat.le_of_eq rfl) (hb hby d4_2) (fun _ _ => ⟨rfl, e0, (by decide : 0 + 0 ≤ _), (by decide : 0 + 0 ≤ _)⟩)
  dsimp only [Pt.U, Pt.locs, Pt.cells, Pt.slots] at X1 l1 y1 z1 st1 hQ1
  subst l1 y1 z1
  obtain ⟨rfl, N1q, e1⟩ := hQ1
  have N1 := Fr.app N0 N1q
  obtain ⟨fs, hr, hrun, hended, hW, hsame⟩ := X1.leave (v := some (.int 45)) (fun h => by rw [hre] at h; cases h)
  refine ⟨_, _, pre0 _ ?_, hrun, hended, _, _, rfl, ?_, ⟨_, rfl⟩, hW, hsame.mono (by decide) (by decide)⟩
  · show SF p e below s₁ (mkF m 0 #[rv w6, rv w4, iv 114] []) _
    refine XS.aloadN X0.here hx rfl (hb hby d4_0) rfl rfl ?_
    refine XS.aloadN X0.here hx rfl (hb hby d4_1) rfl rfl ?_
    show SF p e below s₁ (mkF m 2 #[rv w6, rv w4, iv 114] [(.ref w4), (.ref w6)]) _
    refine st1.trans ?_
    show SF p e below T1 (mkF m 5 #[rv w6, rv w4, iv 114] [(.int 0)]) _
    refine XS.ifYes X1.here hx rfl (pc0 := 5) (pc' := 12) rfl (hb hby d4_5) rfl ((if0 _ _).trans (teq (by decide : (0 : Int32) = (0 : Int32))).1) (by decide) (by decide) ?_
    show SF p e below T1 (mkF m 12 #[rv w6, rv w4, iv 114] []) _
    refine XS.bipush X1.here hx rfl (hb hby d4_12) ?_
    show SF p e below T1 (mkF m 14 #[rv w6, rv w4, iv 114] [(.int 45)]) _
    exact retN X1 hx (t := .char) hre (by simp) (hb hby d4_14) hr
  · show Q4_22 Z w6 w4 h0 n0 _ T1.heap _
    rw [e1]
    exact ⟨rfl, N1, rfl⟩
-- Rights.containsAll 
def Q5_23 (Z : State) (w6 : Addr) (w5 : Addr) (h0 : Heap) (n0 : Nat) (v : Option Value) (h : Heap) (L : List Loc) : Prop := v = some (.int 0) ∧ Fr n0 L ∧ h = h0
set_option maxRecDepth 65536 in
set_option maxHeartbeats 40000000 in
theorem rm5_23 (l : Launch) (Z : State) (a0 : Array Value) (hw : HW Z a0) (ws : List Jvm.Cond) (w6 : Addr) (w5 : Addr) (h0 : Heap) (n0 : Nat) (Z0 : n0 ≤ h0.size) (F_w5_bits : Fld Z Z.heap w5 zs7 "bits" "I" (.int 2)) (P2 : Old Z n0 h0) (F_w6_bits : Fld Z Z.heap w6 zs7 "bits" "I" (.int 1)) :
    MF l Z (⟨zs7, "containsAll", zs2⟩ : MethodName) (Jvm.Cond.code (⟨zs7, "containsAll", zs2⟩ : MethodName) prog_35_method_4_code 2 (some .boolean)) ws ({ frames := 0, cells := 0, slots := 0, locals := 0 } : Room) #[(.ref w6), (.ref w5)] h0 (Q5_23 Z w6 w5 h0 n0) := by
  refine own_enter (plainFor_of_name pn_0) fun p e s m below meth c s₁ X0 hx hby hml hown hnm hZ e0 hre hlk => ?_
  have N0 := Fr.nil n0
  have pre0 : ∀ t, SF p e below s₁ (mkF m 0 #[rv w6, rv w5] []) t → SF p e below s₁ (entryFrame m #[(.ref w6), (.ref w5)] 2) t := fun t k => castTop (ef_2 m w6 w5) k
  obtain ⟨T1, X1, e1, st1⟩ := getF X0 hx hZ hown (host := "") (Or.inl (tw hw 11 rfl)) Via.refl e0 (F_w5_bits.ext P2.2) (g := (mkF m 1 #[rv w6, rv w5] [(.ref w5)])) rfl rfl (hb hby d5_1)
  obtain ⟨T2, X2, e2, st2⟩ := getF X1 hx hZ hown (host := "") (Or.inl (tw hw 11 rfl)) Via.refl e1 (F_w6_bits.ext P2.2) (g := (mkF m 5 #[rv w6, rv w5] [(.ref w6), (.int 2)])) rfl rfl (hb hby d5_5)
  obtain ⟨fs, hr, hrun, hended, hW, hsame⟩ := X2.leave (v := some (.int 0)) (fun h => by rw [hre] at h; cases h)
  refine ⟨_, _, pre0 _ ?_, hrun, hended, _, _, rfl, ?_, ⟨_, rfl⟩, hW, hsame.mono (by decide) (by decide)⟩
  · show SF p e below s₁ (mkF m 0 #[rv w6, rv w5] []) _
    refine XS.aloadN X0.here hx rfl (hb hby d5_0) rfl rfl ?_
    show SF p e below s₁ (mkF m 1 #[rv w6, rv w5] [(.ref w5)]) _
    refine st1 _ ?_
    show SF p e below T1 (mkF m 4 #[rv w6, rv w5] [(.int 2)]) _
    refine XS.aloadN X1.here hx rfl (hb hby d5_4) rfl rfl ?_
    show SF p e below T1 (mkF m 5 #[rv w6, rv w5] [(.ref w6), (.int 2)]) _
    refine st2 _ ?_
    show SF p e below T2 (mkF m 8 #[rv w6, rv w5] [(.int 1), (.int 2)]) _
    refine XS.iconst X2.here hx rfl (hb hby d5_8) ?_
    show SF p e below T2 (mkF m 9 #[rv w6, rv w5] [(.int (-1)), (.int 1), (.int 2)]) _
    refine XS.ixor X2.here hx rfl (hb hby d5_9) rfl ?_
    show SF p e below T2 (mkF m 10 #[rv w6, rv w5] [(.int ((1 : Int32) ^^^ (-1 : Int32))), (.int 2)]) _
    rw [show ((1 : Int32) ^^^ (-1 : Int32)) = (-2 : Int32) from by decide]
    show SF p e below T2 (mkF m 10 #[rv w6, rv w5] [(.int (-2)), (.int 2)]) _
    refine XS.iand X2.here hx rfl (hb hby d5_10) rfl ?_
    show SF p e below T2 (mkF m 11 #[rv w6, rv w5] [(.int ((2 : Int32) &&& (-2 : Int32)))]) _
    rw [show ((2 : Int32) &&& (-2 : Int32)) = (2 : Int32) from by decide]
    show SF p e below T2 (mkF m 11 #[rv w6, rv w5] [(.int 2)]) _
    refine XS.ifYes X2.here hx rfl (pc0 := 11) (pc' := 18) rfl (hb hby d5_11) rfl ((if0 _ _).trans (feq (by decide : ¬ ((2 : Int32) = (0 : Int32)))).2) (by decide) (by decide) ?_
    show SF p e below T2 (mkF m 18 #[rv w6, rv w5] []) _
    refine XS.iconst X2.here hx rfl (hb hby d5_18) ?_
    show SF p e below T2 (mkF m 19 #[rv w6, rv w5] [(.int 0)]) _
    exact retN X2 hx (t := .boolean) hre (by simp) (hb hby d5_19) hr
  · show Q5_23 Z w6 w5 h0 n0 _ T2.heap _
    rw [e2]
    exact ⟨rfl, N0, rfl⟩
-- Rights.letter 
def Q4_24 (Z : State) (w6 : Addr) (w5 : Addr) (h0 : Heap) (n0 : Nat) (v : Option Value) (h : Heap) (L : List Loc) : Prop := v = some (.int 45) ∧ Fr n0 L ∧ h = h0
set_option maxRecDepth 65536 in
set_option maxHeartbeats 40000000 in
theorem rm4_24 (l : Launch) (Z : State) (a0 : Array Value) (hw : HW Z a0) (ws : List Jvm.Cond) (w6 : Addr) (w5 : Addr) (h0 : Heap) (n0 : Nat) (Z0 : n0 ≤ h0.size) (E_w6 : Exa Z Z.heap w6 zs7) (P2 : Old Z n0 h0) (F_w5_bits : Fld Z Z.heap w5 zs7 "bits" "I" (.int 2)) (F_w6_bits : Fld Z Z.heap w6 zs7 "bits" "I" (.int 1)) :
    MF l Z (⟨zs7, "letter", zs3⟩ : MethodName) (Jvm.Cond.code (⟨zs7, "letter", zs3⟩ : MethodName) prog_35_method_6_code 3 (some .char)) ws ({ frames := 1, cells := 0, slots := 0, locals := 13 } : Room) #[(.ref w6), (.ref w5), (.int 119)] h0 (Q4_24 Z w6 w5 h0 n0) := by
  refine own_enter (plainFor_of_name pn_0) fun p e s m below meth c s₁ X0 hx hby hml hown hnm hZ e0 hre hlk => ?_
  have N0 := Fr.nil n0
  have pre0 : ∀ t, SF p e below s₁ (mkF m 0 #[rv w6, rv w5, iv 119] []) t → SF p e below s₁ (entryFrame m #[(.ref w6), (.ref w5), (.int 119)] 3) t := fun t k => castTop (ef_3 m w6 w5 (119 : Int32)) k
  obtain ⟨cq1, kq1, q1a, q1b, q1c⟩ := isOf hZ e0 (E_w6.ext P2.2)
  obtain ⟨_, _, ⟨T1, L1, k1x, n1⟩, -, X1, ⟨Lc1, hQ1, l1, y1, z1⟩, st1⟩ := X0.virtualBack hx (y := (⟨zs7, "containsAll", zs2⟩ : MethodName)) (z := (⟨zs7, "containsAll", zs2⟩ : MethodName)) hown (mvT hZ (tw hw 30 rfl)) (mvT hZ (tw hw 31 rfl)) (notFace_of_selects (args := #[]) (mvT hZ (tw hw 33 rfl))) (mvT hZ (tw hw 33 rfl)) (mvT hZ (tw hw 32 rfl)) (by decide) (backOf (W := 0) (rm5_23 l Z a0 hw [] w6 w5 h0 n0 Z0 F_w5_bits P2 F_w6_bits) hZ (tw hw 34 rfl) (tw hw 2 rfl) (by decide) (by decide)) q1a q1c (g := (mkF m 2 #[rv w6, rv w5, iv 119] [(.ref w5), (.ref w6)])) rfl (by rw [hml]; rfl) (Steps.refl _) (argsL := [(.ref w5)]) (rest := []) (lenOf pd_2 rfl) rfl (Nat.le_of_eq rfl) (hb hby d4_2) (fun _ _ => ⟨rfl, e0, (by decide : 0 + 0 ≤ _), (by decide : 0 + 0 ≤ _)⟩)
  dsimp only [Pt.U, Pt.locs, Pt.cells, Pt.slots] at X1 l1 y1 z1 st1 hQ1
  subst l1 y1 z1
  obtain ⟨rfl, N1q, e1⟩ := hQ1
  have N1 := Fr.app N0 N1q
  obtain ⟨fs, hr, hrun, hended, hW, hsame⟩ := X1.leave (v := some (.int 45)) (fun h => by rw [hre] at h; cases h)
  refine ⟨_, _, pre0 _ ?_, hrun, hended, _, _, rfl, ?_, ⟨_, rfl⟩, hW, hsame.mono (by decide) (by decide)⟩
  · show SF p e below s₁ (mkF m 0 #[rv w6, rv w5, iv 119] []) _
    refine XS.aloadN X0.here hx rfl (hb hby d4_0) rfl rfl ?_
    refine XS.aloadN X0.here hx rfl (hb hby d4_1) rfl rfl ?_
    show SF p e below s₁ (mkF m 2 #[rv w6, rv w5, iv 119] [(.ref w5), (.ref w6)]) _
    refine st1.trans ?_
    show SF p e below T1 (mkF m 5 #[rv w6, rv w5, iv 119] [(.int 0)]) _
    refine XS.ifYes X1.here hx rfl (pc0 := 5) (pc' := 12) rfl (hb hby d4_5) rfl ((if0 _ _).trans (teq (by decide : (0 : Int32) = (0 : Int32))).1) (by decide) (by decide) ?_
    show SF p e below T1 (mkF m 12 #[rv w6, rv w5, iv 119] []) _
    refine XS.bipush X1.here hx rfl (hb hby d4_12) ?_
    show SF p e below T1 (mkF m 14 #[rv w6, rv w5, iv 119] [(.int 45)]) _
    exact retN X1 hx (t := .char) hre (by simp) (hb hby d4_14) hr
  · show Q4_24 Z w6 w5 h0 n0 _ T1.heap _
    rw [e1]
    exact ⟨rfl, N1, rfl⟩
theorem d5_14 : decode prog_35_method_4_code 14 = .ok (.iconst 1, 1) := by decide +kernel
theorem d5_15 : decode prog_35_method_4_code 15 = .ok (.goto 4, 3) := by decide +kernel
-- Rights.containsAll 
def Q5_25 (Z : State) (w6 : Addr) (h0 : Heap) (n0 : Nat) (v : Option Value) (h : Heap) (L : List Loc) : Prop := v = some (.int 1) ∧ Fr n0 L ∧ h = h0
set_option maxRecDepth 65536 in
set_option maxHeartbeats 40000000 in
theorem rm5_25 (l : Launch) (Z : State) (a0 : Array Value) (hw : HW Z a0) (ws : List Jvm.Cond) (w6 : Addr) (h0 : Heap) (n0 : Nat) (Z0 : n0 ≤ h0.size) (F_w6_bits : Fld Z Z.heap w6 zs7 "bits" "I" (.int 1)) (P2 : Old Z n0 h0) :
    MF l Z (⟨zs7, "containsAll", zs2⟩ : MethodName) (Jvm.Cond.code (⟨zs7, "containsAll", zs2⟩ : MethodName) prog_35_method_4_code 2 (some .boolean)) ws ({ frames := 0, cells := 0, slots := 0, locals := 0 } : Room) #[(.ref w6), (.ref w6)] h0 (Q5_25 Z w6 h0 n0) := by
  refine own_enter (plainFor_of_name pn_0) fun p e s m below meth c s₁ X0 hx hby hml hown hnm hZ e0 hre hlk => ?_
  have N0 := Fr.nil n0
  have pre0 : ∀ t, SF p e below s₁ (mkF m 0 #[rv w6, rv w6] []) t → SF p e below s₁ (entryFrame m #[(.ref w6), (.ref w6)] 2) t := fun t k => castTop (ef_2 m w6 w6) k
  obtain ⟨T1, X1, e1, st1⟩ := getF X0 hx hZ hown (host := "") (Or.inl (tw hw 11 rfl)) Via.refl e0 (F_w6_bits.ext P2.2) (g := (mkF m 1 #[rv w6, rv w6] [(.ref w6)])) rfl rfl (hb hby d5_1)
  obtain ⟨T2, X2, e2, st2⟩ := getF X1 hx hZ hown (host := "") (Or.inl (tw hw 11 rfl)) Via.refl e1 (F_w6_bits.ext P2.2) (g := (mkF m 5 #[rv w6, rv w6] [(.ref w6), (.int 1)])) rfl rfl (hb hby d5_5)
  obtain ⟨fs, hr, hrun, hended, hW, hsame⟩ := X2.leave (v := some (.int 1)) (fun h => by rw [hre] at h; cases h)
  refine ⟨_, _, pre0 _ ?_, hrun, hended, _, _, rfl, ?_, ⟨_, rfl⟩, hW, hsame.mono (by decide) (by decide)⟩
  · show SF p e below s₁ (mkF m 0 #[rv w6, rv w6] []) _
    refine XS.aloadN X0.here hx rfl (hb hby d5_0) rfl rfl ?_
    show SF p e below s₁ (mkF m 1 #[rv w6, rv w6] [(.ref w6)]) _
    refine st1 _ ?_
    show SF p e below T1 (mkF m 4 #[rv w6, rv w6] [(.int 1)]) _
    refine XS.aloadN X1.here hx rfl (hb hby d5_4) rfl rfl ?_
    show SF p e below T1 (mkF m 5 #[rv w6, rv w6] [(.ref w6), (.int 1)]) _
    refine st2 _ ?_
    show SF p e below T2 (mkF m 8 #[rv w6, rv w6] [(.int 1), (.int 1)]) _
    refine XS.iconst X2.here hx rfl (hb hby d5_8) ?_
    show SF p e below T2 (mkF m 9 #[rv w6, rv w6] [(.int (-1)), (.int 1), (.int 1)]) _
    refine XS.ixor X2.here hx rfl (hb hby d5_9) rfl ?_
    show SF p e below T2 (mkF m 10 #[rv w6, rv w6] [(.int ((1 : Int32) ^^^ (-1 : Int32))), (.int 1)]) _
    rw [show ((1 : Int32) ^^^ (-1 : Int32)) = (-2 : Int32) from by decide]
    show SF p e below T2 (mkF m 10 #[rv w6, rv w6] [(.int (-2)), (.int 1)]) _
    refine XS.iand X2.here hx rfl (hb hby d5_10) rfl ?_
    show SF p e below T2 (mkF m 11 #[rv w6, rv w6] [(.int ((1 : Int32) &&& (-2 : Int32)))]) _
    rw [show ((1 : Int32) &&& (-2 : Int32)) = (0 : Int32) from by decide]
    show SF p e below T2 (mkF m 11 #[rv w6, rv w6] [(.int 0)]) _
    refine XS.ifNo X2.here hx rfl (hb hby d5_11) rfl ((if0 _ _).trans (teq (by decide : (0 : Int32) = (0 : Int32))).2) ?_
    show SF p e below T2 (mkF m 14 #[rv w6, rv w6] []) _
    refine XS.iconst X2.here hx rfl (hb hby d5_14) ?_
    refine XS.goto X2.here hx rfl (pc0 := 15) (pc' := 19) rfl (hb hby d5_15) (by decide) (by decide) ?_
    show SF p e below T2 (mkF m 19 #[rv w6, rv w6] [(.int 1)]) _
    exact retN X2 hx (t := .boolean) hre (by simp) (hb hby d5_19) hr
  · show Q5_25 Z w6 h0 n0 _ T2.heap _
    rw [e2]
    exact ⟨rfl, N0, rfl⟩
theorem d4_8 : decode prog_35_method_6_code 8 = .ok (.iload_n 2, 1) := by decide +kernel
theorem d4_9 : decode prog_35_method_6_code 9 = .ok (.goto 5, 3) := by decide +kernel
-- Rights.letter 
def Q4_26 (Z : State) (w6 : Addr) (h0 : Heap) (n0 : Nat) (v : Option Value) (h : Heap) (L : List Loc) : Prop := v = some (.int 120) ∧ Fr n0 L ∧ h = h0
set_option maxRecDepth 65536 in
set_option maxHeartbeats 40000000 in
theorem rm4_26 (l : Launch) (Z : State) (a0 : Array Value) (hw : HW Z a0) (ws : List Jvm.Cond) (w6 : Addr) (h0 : Heap) (n0 : Nat) (Z0 : n0 ≤ h0.size) (E_w6 : Exa Z Z.heap w6 zs7) (P2 : Old Z n0 h0) (F_w6_bits : Fld Z Z.heap w6 zs7 "bits" "I" (.int 1)) :
    MF l Z (⟨zs7, "letter", zs3⟩ : MethodName) (Jvm.Cond.code (⟨zs7, "letter", zs3⟩ : MethodName) prog_35_method_6_code 3 (some .char)) ws ({ frames := 1, cells := 0, slots := 0, locals := 13 } : Room) #[(.ref w6), (.ref w6), (.int 120)] h0 (Q4_26 Z w6 h0 n0) := by
  refine own_enter (plainFor_of_name pn_0) fun p e s m below meth c s₁ X0 hx hby hml hown hnm hZ e0 hre hlk => ?_
  have N0 := Fr.nil n0
  have pre0 : ∀ t, SF p e below s₁ (mkF m 0 #[rv w6, rv w6, iv 120] []) t → SF p e below s₁ (entryFrame m #[(.ref w6), (.ref w6), (.int 120)] 3) t := fun t k => castTop (ef_3 m w6 w6 (120 : Int32)) k
  obtain ⟨cq1, kq1, q1a, q1b, q1c⟩ := isOf hZ e0 (E_w6.ext P2.2)
  obtain ⟨_, _, ⟨T1, L1, k1x, n1⟩, -, X1, ⟨Lc1, hQ1, l1, y1, z1⟩, st1⟩ := X0.virtualBack hx (y := (⟨zs7, "containsAll", zs2⟩ : MethodName)) (z := (⟨zs7, "containsAll", zs2⟩ : MethodName)) hown (mvT hZ (tw hw 30 rfl)) (mvT hZ (tw hw 31 rfl)) (notFace_of_selects (args := #[]) (mvT hZ (tw hw 33 rfl))) (mvT hZ (tw hw 33 rfl)) (mvT hZ (tw hw 32 rfl)) (by decide) (backOf (W := 0) (rm5_25 l Z a0 hw [] w6 h0 n0 Z0 F_w6_bits P2) hZ (tw hw 34 rfl) (tw hw 2 rfl) (by decide) (by decide)) q1a q1c (g := (mkF m 2 #[rv w6, rv w6, iv 120] [(.ref w6), (.ref w6)])) rfl (by rw [hml]; rfl) (Steps.refl _) (argsL := [(.ref w6)]) (rest := []) (lenOf pd_2 rfl) rfl (Nat.le_of_eq rfl) (hb hby d4_2) (fun _ _ => ⟨rfl, e0, (by decide : 0 + 0 ≤ _), (by decide : 0 + 0 ≤ _)⟩)
  dsimp only [Pt.U, Pt.locs, Pt.cells, Pt.slots] at X1 l1 y1 z1 st1 hQ1
  subst l1 y1 z1
  obtain ⟨rfl, N1q, e1⟩ := hQ1
  have N1 := Fr.app N0 N1q
  obtain ⟨fs, hr, hrun, hended, hW, hsame⟩ := X1.leave (v := some (.int 120)) (fun h => by rw [hre] at h; cases h)
  refine ⟨_, _, pre0 _ ?_, hrun, hended, _, _, rfl, ?_, ⟨_, rfl⟩, hW, hsame.mono (by decide) (by decide)⟩
  · show SF p e below s₁ (mkF m 0 #[rv w6, rv w6, iv 120] []) _
    refine XS.aloadN X0.here hx rfl (hb hby d4_0) rfl rfl ?_
    refine XS.aloadN X0.here hx rfl (hb hby d4_1) rfl rfl ?_
    show SF p e below s₁ (mkF m 2 #[rv w6, rv w6, iv 120] [(.ref w6), (.ref w6)]) _
    refine st1.trans ?_
    show SF p e below T1 (mkF m 5 #[rv w6, rv w6, iv 120] [(.int 1)]) _
    refine XS.ifNo X1.here hx rfl (hb hby d4_5) rfl ((if0 _ _).trans (feq (by decide : ¬ ((1 : Int32) = (0 : Int32)))).1) ?_
    show SF p e below T1 (mkF m 8 #[rv w6, rv w6, iv 120] []) _
    refine XS.iloadN X1.here hx rfl (hb hby d4_8) rfl ?_
    refine XS.goto X1.here hx rfl (pc0 := 9) (pc' := 14) rfl (hb hby d4_9) (by decide) (by decide) ?_
    show SF p e below T1 (mkF m 14 #[rv w6, rv w6, iv 120] [(.int 120)]) _
    exact retN X1 hx (t := .char) hre (by simp) (hb hby d4_14) hr
  · show Q4_26 Z w6 h0 n0 _ T1.heap _
    rw [e1]
    exact ⟨rfl, N1, rfl⟩
-- Rights.toString 
def Q3_27 (Z : State) (w6 : Addr) (w4 : Addr) (w5 : Addr) (GC : Int32) (h0 : Heap) (n0 : Nat) (v : Option Value) (h : Heap) (L : List Loc) : Prop := ∃ e1x : Addr, ∃ e2x : Addr, ∃ e3x : ClassId, h0.size ≤ e1x ∧ h0.size ≤ e2x ∧ e1x ≠ e2x ∧ v = some (.ref e1x) ∧ Fr n0 L ∧ Keep h0 h [] ∧ Exa Z h e1x "java/lang/String" ∧ Fld Z h e1x "java/lang/String" "coder" "B" (.int 0) ∧ Fld Z h e1x "java/lang/String" "value" "[B" (.ref e2x) ∧ Arv Z h e2x e3x .byte (3 : Int32) (((([(45 : Int32), (45 : Int32), (120 : Int32)] : List Int32)).map (fun c => c.toInt8.toInt32)).map Value.int) (.int (0 : Int32))
set_option maxRecDepth 65536 in
set_option maxHeartbeats 40000000 in
theorem rm3_27 (l : Launch) (Z : State) (a0 : Array Value) (hw : HW Z a0) (ws : List Jvm.Cond) (w6 : Addr) (w4 : Addr) (w5 : Addr) (GC : Int32) (h0 : Heap) (n0 : Nat) (Z0 : n0 ≤ h0.size) (Sg7 : Sta Z Z.heap zs7 "READ" zs4 (.ref w4)) (P2 : Old Z n0 h0) (E_w6 : Exa Z Z.heap w6 zs7) (F_w4_bits : Fld Z Z.heap w4 zs7 "bits" "I" (.int 4)) (F_w6_bits : Fld Z Z.heap w6 zs7 "bits" "I" (.int 1)) (Sg9 : Sta Z Z.heap zs7 "WRITE" zs4 (.ref w5)) (F_w5_bits : Fld Z Z.heap w5 zs7 "bits" "I" (.int 2)) (Sg11 : Sta Z Z.heap zs7 "EXECUTE" zs4 (.ref w6)) (Sg0 : Sta Z Z.heap "java/lang/String" "COMPACT_STRINGS" "Z" (.int GC)) (nzGC : ¬ (GC = (0 : Int32))) :
    MF l Z (⟨zs7, "toString", zs0⟩ : MethodName) (Jvm.Cond.code (⟨zs7, "toString", zs0⟩ : MethodName) prog_35_method_5_code 1 (some (.object "java/lang/String"))) ws ({ frames := 4, cells := 3, slots := 10, locals := 66 } : Room) #[(.ref w6)] h0 (Q3_27 Z w6 w4 w5 GC h0 n0) := by
  refine own_enter (plainFor_of_name pn_0) fun p e s m below meth c s₁ X0 hx hby hml hown hnm hZ e0 hre hlk => ?_
  have N0 := Fr.nil n0
  have pre0 : ∀ t, SF p e below s₁ (mkF m 0 #[rv w6] []) t → SF p e below s₁ (entryFrame m #[(.ref w6)] 1) t := fun t k => castTop (ef_4 m w6) k
  obtain ⟨T1, h1, X1, e1, E1, A1, D1, -, st1⟩ := newO X0 hx hZ hown (tw hw 20 rfl) (tw hw 21 rfl) (tw hw 22 rfl) e0 (g := (mkF m 0 #[rv w6] [])) rfl (hb hby d3_0) (by decide) (by decide)
  obtain ⟨e1x, g1⟩ : ∃ z, z = h0.size := ⟨_, rfl⟩
  rw [← g1] at A1 D1 st1
  have K1 : Keep h0 h1 [] := (Keep.refl h0 []).ext E1
  have Fn2 : Fld Z h1 e1x "java/lang/String" "coder" "B" (.int 0) := D1 (Or.inr (tw hw 62 rfl)) (ty := .byte) (by decide)
  have Fn3 : Fld Z h1 e1x "java/lang/String" "value" "[B" .null := D1 (Or.inr (tw hw 64 rfl)) (ty := (.array .byte)) (by decide)
  obtain ⟨T4, h4, w5x, X4, e4, E4, A4, st4⟩ := newP X1 hx hZ (tw hw 23 rfl) e1 (g := (mkF m 5 #[rv w6] [(.int 3), (.ref e1x), (.ref e1x)])) rfl (hb hby d3_5) rfl (by decide) (cap := 3) (by decide) (by decide) (by decide) (by decide)
  obtain ⟨w4x, g4⟩ : ∃ z, z = h1.size := ⟨_, rfl⟩
  rw [← g4] at A4 st4
  have K4 : Keep h0 h4 [] := K1.ext E4
  have V4 : Arv Z h4 w4x w5x .char (3 : Int32) [(.int 0), (.int 0), (.int 0)] (.int (0 : Int32)) := (Arv.new A4 (by decide)).pad (pad_rep [] (.int (0 : Int32)) 3)
  have O1 : Old Z n0 h1 := P2.ext E1
  have O4 : Old Z n0 h4 := O1.ext E4
  obtain ⟨T5, X5, e5, st5⟩ := getS2 X4 hx hZ hown (host := "") (Or.inl (tw hw 24 rfl)) Via.refl e4 (Sg7.ext O4.2) (g := (mkF m 10 #[rv w6] [(.ref w6), (.int 0), (.ref w4x), (.ref w4x), (.ref e1x), (.ref e1x)])) rfl (hb hby d3_10)
  have Z1 : n0 ≤ h1.size := Nat.le_trans Z0 E1.1
  have Z4 : n0 ≤ h4.size := Nat.le_trans Z1 E4.1
  obtain ⟨cq6, q6, q6'⟩ := (E_w6.ext O4.2).cell
  obtain ⟨_, _, ⟨T6, L6, k6x, n6⟩, -, X6, ⟨Lc6, hQ6, l6, y6, z6⟩, st6⟩ := X5.privateBack hx (y := (⟨zs7, "letter", zs3⟩ : MethodName)) hown (mvT hZ (tw hw 26 rfl)) (mvT hZ (tw hw 27 rfl)) (own_selQ hZ (tw hw 9 rfl) (tw hw 28 rfl) (tw hw 27 rfl) (by decide)) (Cond.privateMethod_at (mvP hZ (tw hw 28 rfl) (args := #[]))) (mvT hZ (tw hw 29 rfl)) (by decide) (backOf (W := 5) (rm4_22 l Z a0 hw [] w6 w4 h4 n0 Z4 E_w6 O4 F_w4_bits F_w6_bits) hZ (tw hw 29 rfl) (tw hw 2 rfl) (by decide) (by decide)) (g := (mkF m 15 #[rv w6] [(.int 114), (.ref w4), (.ref w6), (.int 0), (.ref w4x), (.ref w4x), (.ref e1x), (.ref e1x)])) rfl (by rw [hml]; rfl) (Steps.refl _) (a := w6) (by rw [e5]; exact q6) q6' (argsL := [(.ref w4), (.int 114)]) (rest := [(.int 0), (.ref w4x), (.ref w4x), (.ref e1x), (.ref e1x)]) (lenOf pd_3 rfl) rfl (Nat.le_of_eq rfl) (hb hby d3_15) (fun _ _ => ⟨rfl, e5, (by decide : 2 + 0 ≤ _), (by decide : 7 + 0 ≤ _)⟩)
  dsimp only [Pt.U, Pt.locs, Pt.cells, Pt.slots] at X6 l6 y6 z6 st6 hQ6
  subst l6 y6 z6
  obtain ⟨rfl, N6q, e6⟩ := hQ6
  have N6 := Fr.app N0 N6q
  obtain ⟨cl7, Ar7, q7, S7, N7z, H7, G7⟩ := id V4
  have hin7 : ¬ ((0 : Int32) < 0 ∨ cl7.slots.size ≤ ((0 : Int32)).toNatClampNeg) := inb_of S7 ⟨by decide, by decide⟩
  obtain ⟨T8, h8, X8, e8, W8, st8⟩ := stC X6 hx hZ e6 Ar7 (j := (0 : Int32)) hin7 (g := (mkF m 18 #[rv w6] [(.int 45), (.int 0), (.ref w4x), (.ref w4x), (.ref e1x), (.ref e1x)])) rfl rfl (hb hby d3_18)
  have g_b3 : n0 ≤ w4x := Nat.le_trans Z1 (Nat.le_of_eq g4.symm)
  have sz0_b3 : h0.size ≤ w4x := Nat.le_trans K1.1 (Nat.le_of_eq g4.symm)
  have K8 : Keep h0 h8 [] := K4.wr W8 (Or.inr sz0_b3)
  have N8 := Fr.snoc X8 N6 g_b3
  have V8 : Arv Z h8 w4x w5x .char (3 : Int32) [(.int 45), (.int 0), (.int 0)] (.int (0 : Int32)) := Arv.set Ar7 q7 S7 N7z H7 G7 (by decide) W8 0 rfl (Nat.le_of_ble_eq_true rfl)
  have O8 : Old Z n0 h8 := O4.wr W8 g_b3
  obtain ⟨T9, X9, e9, st9⟩ := getS2 X8 hx hZ hown (host := "") (Or.inl (tw hw 35 rfl)) Via.refl e8 (Sg9.ext O8.2) (g := (mkF m 22 #[rv w6] [(.ref w6), (.int 1), (.ref w4x), (.ref w4x), (.ref e1x), (.ref e1x)])) rfl (hb hby d3_22)
  have Z8 : n0 ≤ h8.size := Nat.le_trans Z4 (Keep.of_wr W8).1
  obtain ⟨cq10, q10, q10'⟩ := (E_w6.ext O8.2).cell
  obtain ⟨_, _, ⟨T10, L10, k10x, n10⟩, -, X10, ⟨Lc10, hQ10, l10, y10, z10⟩, st10⟩ := X9.privateBack hx (y := (⟨zs7, "letter", zs3⟩ : MethodName)) hown (mvT hZ (tw hw 26 rfl)) (mvT hZ (tw hw 27 rfl)) (own_selQ hZ (tw hw 9 rfl) (tw hw 28 rfl) (tw hw 27 rfl) (by decide)) (Cond.privateMethod_at (mvP hZ (tw hw 28 rfl) (args := #[]))) (mvT hZ (tw hw 29 rfl)) (by decide) (backOf (W := 5) (rm4_24 l Z a0 hw [] w6 w5 h8 n0 Z8 E_w6 O8 F_w5_bits F_w6_bits) hZ (tw hw 29 rfl) (tw hw 2 rfl) (by decide) (by decide)) (g := (mkF m 27 #[rv w6] [(.int 119), (.ref w5), (.ref w6), (.int 1), (.ref w4x), (.ref w4x), (.ref e1x), (.ref e1x)])) rfl (by rw [hml]; rfl) (Steps.refl _) (a := w6) (by rw [e9]; exact q10) q10' (argsL := [(.ref w5), (.int 119)]) (rest := [(.int 1), (.ref w4x), (.ref w4x), (.ref e1x), (.ref e1x)]) (lenOf pd_3 rfl) rfl (Nat.le_of_eq rfl) (hb hby d3_27) (fun _ _ => ⟨rfl, e9, (by decide : 2 + 0 ≤ _), (by decide : 7 + 0 ≤ _)⟩)
  dsimp only [Pt.U, Pt.locs, Pt.cells, Pt.slots] at X10 l10 y10 z10 st10 hQ10
  subst l10 y10 z10
  obtain ⟨rfl, N10q, e10⟩ := hQ10
  have N10 := Fr.app N8 N10q
  obtain ⟨cl11, Ar11, q11, S11, N11z, H11, G11⟩ := id V8
  have hin11 : ¬ ((1 : Int32) < 0 ∨ cl11.slots.size ≤ ((1 : Int32)).toNatClampNeg) := inb_of S11 ⟨by decide, by decide⟩
  obtain ⟨T12, h12, X12, e12, W12, st12⟩ := stC X10 hx hZ e10 Ar11 (j := (1 : Int32)) hin11 (g := (mkF m 30 #[rv w6] [(.int 45), (.int 1), (.ref w4x), (.ref w4x), (.ref e1x), (.ref e1x)])) rfl rfl (hb hby d3_30)
  have K12 : Keep h0 h12 [] := K8.wr W12 (Or.inr sz0_b3)
  have N12 := Fr.snoc X12 N10 g_b3
  have V12 : Arv Z h12 w4x w5x .char (3 : Int32) [(.int 45), (.int 45), (.int 0)] (.int (0 : Int32)) := Arv.set Ar11 q11 S11 N11z H11 G11 (by decide) W12 1 rfl (Nat.le_of_ble_eq_true rfl)
  have O12 : Old Z n0 h12 := O8.wr W12 g_b3
  obtain ⟨T13, X13, e13, st13⟩ := getS2 X12 hx hZ hown (host := "") (Or.inl (tw hw 37 rfl)) Via.refl e12 (Sg11.ext O12.2) (g := (mkF m 34 #[rv w6] [(.ref w6), (.int 2), (.ref w4x), (.ref w4x), (.ref e1x), (.ref e1x)])) rfl (hb hby d3_34)
  have Z12 : n0 ≤ h12.size := Nat.le_trans Z8 (Keep.of_wr W12).1
  obtain ⟨cq14, q14, q14'⟩ := (E_w6.ext O12.2).cell
  obtain ⟨_, _, ⟨T14, L14, k14x, n14⟩, -, X14, ⟨Lc14, hQ14, l14, y14, z14⟩, st14⟩ := X13.privateBack hx (y := (⟨zs7, "letter", zs3⟩ : MethodName)) hown (mvT hZ (tw hw 26 rfl)) (mvT hZ (tw hw 27 rfl)) (own_selQ hZ (tw hw 9 rfl) (tw hw 28 rfl) (tw hw 27 rfl) (by decide)) (Cond.privateMethod_at (mvP hZ (tw hw 28 rfl) (args := #[]))) (mvT hZ (tw hw 29 rfl)) (by decide) (backOf (W := 5) (rm4_26 l Z a0 hw [] w6 h12 n0 Z12 E_w6 O12 F_w6_bits) hZ (tw hw 29 rfl) (tw hw 2 rfl) (by decide) (by decide)) (g := (mkF m 39 #[rv w6] [(.int 120), (.ref w6), (.ref w6), (.int 2), (.ref w4x), (.ref w4x), (.ref e1x), (.ref e1x)])) rfl (by rw [hml]; rfl) (Steps.refl _) (a := w6) (by rw [e13]; exact q14) q14' (argsL := [(.ref w6), (.int 120)]) (rest := [(.int 2), (.ref w4x), (.ref w4x), (.ref e1x), (.ref e1x)]) (lenOf pd_3 rfl) rfl (Nat.le_of_eq rfl) (hb hby d3_39) (fun _ _ => ⟨rfl, e13, (by decide : 2 + 0 ≤ _), (by decide : 7 + 0 ≤ _)⟩)
  dsimp only [Pt.U, Pt.locs, Pt.cells, Pt.slots] at X14 l14 y14 z14 st14 hQ14
  subst l14 y14 z14
  obtain ⟨rfl, N14q, e14⟩ := hQ14
  have N14 := Fr.app N12 N14q
  obtain ⟨cl15, Ar15, q15, S15, N15z, H15, G15⟩ := id V12
  have hin15 : ¬ ((2 : Int32) < 0 ∨ cl15.slots.size ≤ ((2 : Int32)).toNatClampNeg) := inb_of S15 ⟨by decide, by decide⟩
  obtain ⟨T16, h16, X16, e16, W16, st16⟩ := stC X14 hx hZ e14 Ar15 (j := (2 : Int32)) hin15 (g := (mkF m 42 #[rv w6] [(.int 120), (.int 2), (.ref w4x), (.ref w4x), (.ref e1x), (.ref e1x)])) rfl rfl (hb hby d3_42)
  have K16 : Keep h0 h16 [] := K12.wr W16 (Or.inr sz0_b3)
  have N16 := Fr.snoc X16 N14 g_b3
  have V16 : Arv Z h16 w4x w5x .char (3 : Int32) [(.int 45), (.int 45), (.int 120)] (.int (0 : Int32)) := Arv.set Ar15 q15 S15 N15z H15 G15 (by decide) W16 2 rfl (Nat.le_of_ble_eq_true rfl)
  have F2_17 : Exa Z h4 e1x "java/lang/String" := A1.ext E4
  have F3_18 : Exa Z h8 e1x "java/lang/String" := F2_17.wr W8
  have F4_19 : Exa Z h12 e1x "java/lang/String" := F3_18.wr W12
  have F5_20 : Exa Z h16 e1x "java/lang/String" := F4_19.wr W16
  have F2_21 : Fld Z h4 e1x "java/lang/String" "value" "[B" .null := Fn3.ext E4
  have F3_22 : Fld Z h8 e1x "java/lang/String" "value" "[B" .null := F2_21.other W8 (Or.inl (Nat.ne_of_lt (Nat.lt_of_lt_of_le A1.lt (Nat.le_of_eq g4.symm))))
  have F4_23 : Fld Z h12 e1x "java/lang/String" "value" "[B" .null := F3_22.other W12 (Or.inl (Nat.ne_of_lt (Nat.lt_of_lt_of_le A1.lt (Nat.le_of_eq g4.symm))))
  have F5_24 : Fld Z h16 e1x "java/lang/String" "value" "[B" .null := F4_23.other W16 (Or.inl (Nat.ne_of_lt (Nat.lt_of_lt_of_le A1.lt (Nat.le_of_eq g4.symm))))
  have F2_25 : Fld Z h4 e1x "java/lang/String" "coder" "B" (.int 0) := Fn2.ext E4
  have F3_26 : Fld Z h8 e1x "java/lang/String" "coder" "B" (.int 0) := F2_25.other W8 (Or.inl (Nat.ne_of_lt (Nat.lt_of_lt_of_le A1.lt (Nat.le_of_eq g4.symm))))
  have F4_27 : Fld Z h12 e1x "java/lang/String" "coder" "B" (.int 0) := F3_26.other W12 (Or.inl (Nat.ne_of_lt (Nat.lt_of_lt_of_le A1.lt (Nat.le_of_eq g4.symm))))
  have F5_28 : Fld Z h16 e1x "java/lang/String" "coder" "B" (.int 0) := F4_27.other W16 (Or.inl (Nat.ne_of_lt (Nat.lt_of_lt_of_le A1.lt (Nat.le_of_eq g4.symm))))
  have hwwords : ∀ d ∈ StrChars.Road.words, d.before a0 Z = true := fun d hd => hw d (own_words d hd)
  have hp29 : ∀ c ∈ ([(45 : Int32), (45 : Int32), (120 : Int32)] : List Int32), ¬ c < 0 ∧ ¬ (255 : Int32) < c := by
    intro c hc
    simp only [List.mem_cons, List.not_mem_nil, or_false] at hc
    rcases hc with rfl | rfl | rfl
    · decide
    · decide
    · decide
  have O16 : Old Z n0 h16 := O12.wr W16 g_b3
  have g_b1 : n0 ≤ e1x := Nat.le_trans Z0 (Nat.le_of_eq g1.symm)
  have Z16 : n0 ≤ h16.size := Nat.le_trans Z12 (Keep.of_wr W16).1
  obtain ⟨_, _, ⟨T30, L30, k30x, n30⟩, -, X30, ⟨Lc30, hQ30, l30, y30, z30⟩, st30⟩ := X16.specialBack hx (y := (⟨"java/lang/String", "<init>", "([C)V"⟩ : MethodName)) rfl hown (mvT hZ (tw hw 39 rfl)) (mvT hZ (tw hw 40 rfl)) (mvT hZ (tw hw 41 rfl)) (by decide) (StrChars.Road.backV (W := 1) hZ hwwords (kI := 4) (tw hw 21 rfl) (cs := ([(45 : Int32), (45 : Int32), (120 : Int32)] : List Int32)) (bs := ((([(45 : Int32), (45 : Int32), (120 : Int32)] : List Int32)).map (fun c => c.toInt8.toInt32))) (n := 3) g_b1 Z16 F5_20 F5_24 F5_28 V16 (Sg0.ext O16.2) nzGC rfl rfl (by decide) (by decide) hp29 rfl (by decide) (by decide)) (g := (mkF m 43 #[rv w6] [(.ref w4x), (.ref e1x), (.ref e1x)])) rfl (by rw [hml]; rfl) (Steps.refl _) (a := e1x) (argsL := [(.ref w4x)]) (rest := [(.ref e1x)]) (lenOf pd_4 rfl) rfl (Nat.le_of_eq rfl) (hb hby d3_43) (fun _ _ => ⟨rfl, e16, (by decide : 2 + 1 ≤ _), (by decide : 7 + 3 ≤ _)⟩)
  dsimp only [Pt.U, Pt.locs, Pt.cells, Pt.slots] at X30 l30 y30 z30 st30 hQ30
  subst l30 y30 z30
  obtain ⟨rfl, N30q, K30c, Fx30, Fc30, e2x, e3x, gt30, bz_b4, ne30, Fv30, Va30⟩ := hQ30
  have sz0_b1 : h0.size ≤ e1x := Nat.le_trans (Keep.refl h0 []).1 (Nat.le_of_eq g1.symm)
  have K30 : Keep h0 T30.heap [] := K16.trans K30c (allS (Or.inr sz0_b1) all0)
  have N30 := Fr.app N16 N30q
  have sz0_b4 : h0.size ≤ e2x := Nat.le_trans K16.1 bz_b4
  have lt_b1_2 : e1x < h4.size := Nat.lt_of_lt_of_le A1.lt E4.1
  have lt_b1_3 : e1x < h8.size := Nat.lt_of_lt_of_le lt_b1_2 (Keep.of_wr W8).1
  have lt_b1_4 : e1x < h12.size := Nat.lt_of_lt_of_le lt_b1_3 (Keep.of_wr W12).1
  have lt_b1_5 : e1x < h16.size := Nat.lt_of_lt_of_le lt_b1_4 (Keep.of_wr W16).1
  obtain ⟨fs, hr, hrun, hended, hW, hsame⟩ := X30.leave (v := some (.ref e1x)) (fun h => by rw [hre] at h; cases h)
  refine ⟨_, _, pre0 _ ?_, hrun, hended, _, _, rfl, ?_, ⟨_, rfl⟩, hW, hsame.mono (by decide) (by decide)⟩
  · show SF p e below s₁ (mkF m 0 #[rv w6] []) _
    refine st1 _ ?_
    show SF p e below T1 (mkF m 3 #[rv w6] [(.ref e1x)]) _
    refine XS.dup X1.here hx rfl (hb hby d3_3) rfl rfl ?_
    refine XS.iconst X1.here hx rfl (hb hby d3_4) ?_
    show SF p e below T1 (mkF m 5 #[rv w6] [(.int 3), (.ref e1x), (.ref e1x)]) _
    refine st4 _ ?_
    show SF p e below T4 (mkF m 7 #[rv w6] [(.ref w4x), (.ref e1x), (.ref e1x)]) _
    refine XS.dup X4.here hx rfl (hb hby d3_7) rfl rfl ?_
    refine XS.iconst X4.here hx rfl (hb hby d3_8) ?_
    show SF p e below T4 (mkF m 9 #[rv w6] [(.int 0), (.ref w4x), (.ref w4x), (.ref e1x), (.ref e1x)]) _
    refine XS.aloadN X4.here hx rfl (hb hby d3_9) rfl rfl ?_
    show SF p e below T4 (mkF m 10 #[rv w6] [(.ref w6), (.int 0), (.ref w4x), (.ref w4x), (.ref e1x), (.ref e1x)]) _
    refine st5 _ ?_
    show SF p e below T5 (mkF m 13 #[rv w6] [(.ref w4), (.ref w6), (.int 0), (.ref w4x), (.ref w4x), (.ref e1x), (.ref e1x)]) _
    refine XS.bipush X5.here hx rfl (hb hby d3_13) ?_
    show SF p e below T5 (mkF m 15 #[rv w6] [(.int 114), (.ref w4), (.ref w6), (.int 0), (.ref w4x), (.ref w4x), (.ref e1x), (.ref e1x)]) _
    refine st6.trans ?_
    show SF p e below T6 (mkF m 18 #[rv w6] [(.int 45), (.int 0), (.ref w4x), (.ref w4x), (.ref e1x), (.ref e1x)]) _
    refine st8 _ ?_
    show SF p e below T8 (mkF m 19 #[rv w6] [(.ref w4x), (.ref e1x), (.ref e1x)]) _
    refine XS.dup X8.here hx rfl (hb hby d3_19) rfl rfl ?_
    refine XS.iconst X8.here hx rfl (hb hby d3_20) ?_
    show SF p e below T8 (mkF m 21 #[rv w6] [(.int 1), (.ref w4x), (.ref w4x), (.ref e1x), (.ref e1x)]) _
    refine XS.aloadN X8.here hx rfl (hb hby d3_21) rfl rfl ?_
    show SF p e below T8 (mkF m 22 #[rv w6] [(.ref w6), (.int 1), (.ref w4x), (.ref w4x), (.ref e1x), (.ref e1x)]) _
    refine st9 _ ?_
    show SF p e below T9 (mkF m 25 #[rv w6] [(.ref w5), (.ref w6), (.int 1), (.ref w4x), (.ref w4x), (.ref e1x), (.ref e1x)]) _
    refine XS.bipush X9.here hx rfl (hb hby d3_25) ?_
    show SF p e below T9 (mkF m 27 #[rv w6] [(.int 119), (.ref w5), (.ref w6), (.int 1), (.ref w4x), (.ref w4x), (.ref e1x), (.ref e1x)]) _
    refine st10.trans ?_
    show SF p e below T10 (mkF m 30 #[rv w6] [(.int 45), (.int 1), (.ref w4x), (.ref w4x), (.ref e1x), (.ref e1x)]) _
    refine st12 _ ?_
    show SF p e below T12 (mkF m 31 #[rv w6] [(.ref w4x), (.ref e1x), (.ref e1x)]) _
    refine XS.dup X12.here hx rfl (hb hby d3_31) rfl rfl ?_
    refine XS.iconst X12.here hx rfl (hb hby d3_32) ?_
    show SF p e below T12 (mkF m 33 #[rv w6] [(.int 2), (.ref w4x), (.ref w4x), (.ref e1x), (.ref e1x)]) _
    refine XS.aloadN X12.here hx rfl (hb hby d3_33) rfl rfl ?_
    show SF p e below T12 (mkF m 34 #[rv w6] [(.ref w6), (.int 2), (.ref w4x), (.ref w4x), (.ref e1x), (.ref e1x)]) _
    refine st13 _ ?_
    show SF p e below T13 (mkF m 37 #[rv w6] [(.ref w6), (.ref w6), (.int 2), (.ref w4x), (.ref w4x), (.ref e1x), (.ref e1x)]) _
    refine XS.bipush X13.here hx rfl (hb hby d3_37) ?_
    show SF p e below T13 (mkF m 39 #[rv w6] [(.int 120), (.ref w6), (.ref w6), (.int 2), (.ref w4x), (.ref w4x), (.ref e1x), (.ref e1x)]) _
    refine st14.trans ?_
    show SF p e below T14 (mkF m 42 #[rv w6] [(.int 120), (.int 2), (.ref w4x), (.ref w4x), (.ref e1x), (.ref e1x)]) _
    refine st16 _ ?_
    show SF p e below T16 (mkF m 43 #[rv w6] [(.ref w4x), (.ref e1x), (.ref e1x)]) _
    refine st30.trans ?_
    show SF p e below T30 (mkF m 46 #[rv w6] [(.ref e1x)]) _
    exact own_retR X30 hx hre rfl rfl (hb hby d3_46) hr
  · show Q3_27 Z w6 w4 w5 GC h0 n0 _ T30.heap _
    exact ⟨e1x, e2x, e3x, sz0_b1, sz0_b4, (Nat.ne_of_lt (Nat.lt_of_lt_of_le lt_b1_5 bz_b4)), rfl, N30, K30, Fx30, Fc30, Fv30, Va30⟩
-- RightsOfPinLaw.expect 
def Q19_28 (Z : State)  (h0 : Heap) (n0 : Nat) (v : Option Value) (h : Heap) (L : List Loc) : Prop := v = some (.int 45) ∧ Fr n0 L ∧ h = h0
set_option maxRecDepth 65536 in
set_option maxHeartbeats 40000000 in
theorem rm19_28 (l : Launch) (Z : State) (a0 : Array Value) (hw : HW Z a0) (ws : List Jvm.Cond)  (h0 : Heap) (n0 : Nat) (Z0 : n0 ≤ h0.size) :
    MF l Z (⟨zs8, "expect", "(IIC)C"⟩ : MethodName) (Jvm.Cond.code (⟨zs8, "expect", "(IIC)C"⟩ : MethodName) method_2_code 3 (some .char)) ws ({ frames := 0, cells := 0, slots := 0, locals := 0 } : Room) #[(.int 1), (.int 4), (.int 114)] h0 (Q19_28 Z  h0 n0) := by
  refine own_enter (plainFor_of_name pn_1) fun p e s m below meth c s₁ X0 hx hby hml hown hnm hZ e0 hre hlk => ?_
  have N0 := Fr.nil n0
  have pre0 : ∀ t, SF p e below s₁ (mkF m 0 #[iv 1, iv 4, iv 114] []) t → SF p e below s₁ (entryFrame m #[(.int 1), (.int 4), (.int 114)] 3) t := fun t k => castTop (ef_5 m (1 : Int32) (4 : Int32) (114 : Int32)) k
  obtain ⟨fs, hr, hrun, hended, hW, hsame⟩ := X0.leave (v := some (.int 45)) (fun h => by rw [hre] at h; cases h)
  refine ⟨_, _, pre0 _ ?_, hrun, hended, _, _, rfl, ?_, ⟨_, rfl⟩, hW, hsame.mono (by decide) (by decide)⟩
  · show SF p e below s₁ (mkF m 0 #[iv 1, iv 4, iv 114] []) _
    refine XS.iloadN X0.here hx rfl (hb hby d19_0) rfl ?_
    refine XS.iloadN X0.here hx rfl (hb hby d19_1) rfl ?_
    show SF p e below s₁ (mkF m 2 #[iv 1, iv 4, iv 114] [(.int 4), (.int 1)]) _
    refine XS.iand X0.here hx rfl (hb hby d19_2) rfl ?_
    show SF p e below s₁ (mkF m 3 #[iv 1, iv 4, iv 114] [(.int ((1 : Int32) &&& (4 : Int32)))]) _
    rw [show ((1 : Int32) &&& (4 : Int32)) = (0 : Int32) from by decide]
    show SF p e below s₁ (mkF m 3 #[iv 1, iv 4, iv 114] [(.int 0)]) _
    refine XS.ifYes X0.here hx rfl (pc0 := 3) (pc' := 10) rfl (hb hby d19_3) rfl ((if0 _ _).trans (teq (by decide : (0 : Int32) = (0 : Int32))).1) (by decide) (by decide) ?_
    show SF p e below s₁ (mkF m 10 #[iv 1, iv 4, iv 114] []) _
    refine XS.bipush X0.here hx rfl (hb hby d19_10) ?_
    show SF p e below s₁ (mkF m 12 #[iv 1, iv 4, iv 114] [(.int 45)]) _
    exact retN X0 hx (t := .char) hre (by simp) (hb hby d19_12) hr
  · show Q19_28 Z  h0 n0 _ s₁.heap _
    rw [e0]
    exact ⟨rfl, N0, rfl⟩
-- RightsOfPinLaw.expect 
def Q19_29 (Z : State)  (h0 : Heap) (n0 : Nat) (v : Option Value) (h : Heap) (L : List Loc) : Prop := v = some (.int 45) ∧ Fr n0 L ∧ h = h0
set_option maxRecDepth 65536 in
set_option maxHeartbeats 40000000 in
theorem rm19_29 (l : Launch) (Z : State) (a0 : Array Value) (hw : HW Z a0) (ws : List Jvm.Cond)  (h0 : Heap) (n0 : Nat) (Z0 : n0 ≤ h0.size) :
    MF l Z (⟨zs8, "expect", "(IIC)C"⟩ : MethodName) (Jvm.Cond.code (⟨zs8, "expect", "(IIC)C"⟩ : MethodName) method_2_code 3 (some .char)) ws ({ frames := 0, cells := 0, slots := 0, locals := 0 } : Room) #[(.int 1), (.int 2), (.int 119)] h0 (Q19_29 Z  h0 n0) := by
  refine own_enter (plainFor_of_name pn_1) fun p e s m below meth c s₁ X0 hx hby hml hown hnm hZ e0 hre hlk => ?_
  have N0 := Fr.nil n0
  have pre0 : ∀ t, SF p e below s₁ (mkF m 0 #[iv 1, iv 2, iv 119] []) t → SF p e below s₁ (entryFrame m #[(.int 1), (.int 2), (.int 119)] 3) t := fun t k => castTop (ef_5 m (1 : Int32) (2 : Int32) (119 : Int32)) k
  obtain ⟨fs, hr, hrun, hended, hW, hsame⟩ := X0.leave (v := some (.int 45)) (fun h => by rw [hre] at h; cases h)
  refine ⟨_, _, pre0 _ ?_, hrun, hended, _, _, rfl, ?_, ⟨_, rfl⟩, hW, hsame.mono (by decide) (by decide)⟩
  · show SF p e below s₁ (mkF m 0 #[iv 1, iv 2, iv 119] []) _
    refine XS.iloadN X0.here hx rfl (hb hby d19_0) rfl ?_
    refine XS.iloadN X0.here hx rfl (hb hby d19_1) rfl ?_
    show SF p e below s₁ (mkF m 2 #[iv 1, iv 2, iv 119] [(.int 2), (.int 1)]) _
    refine XS.iand X0.here hx rfl (hb hby d19_2) rfl ?_
    show SF p e below s₁ (mkF m 3 #[iv 1, iv 2, iv 119] [(.int ((1 : Int32) &&& (2 : Int32)))]) _
    rw [show ((1 : Int32) &&& (2 : Int32)) = (0 : Int32) from by decide]
    show SF p e below s₁ (mkF m 3 #[iv 1, iv 2, iv 119] [(.int 0)]) _
    refine XS.ifYes X0.here hx rfl (pc0 := 3) (pc' := 10) rfl (hb hby d19_3) rfl ((if0 _ _).trans (teq (by decide : (0 : Int32) = (0 : Int32))).1) (by decide) (by decide) ?_
    show SF p e below s₁ (mkF m 10 #[iv 1, iv 2, iv 119] []) _
    refine XS.bipush X0.here hx rfl (hb hby d19_10) ?_
    show SF p e below s₁ (mkF m 12 #[iv 1, iv 2, iv 119] [(.int 45)]) _
    exact retN X0 hx (t := .char) hre (by simp) (hb hby d19_12) hr
  · show Q19_29 Z  h0 n0 _ s₁.heap _
    rw [e0]
    exact ⟨rfl, N0, rfl⟩
theorem d19_6 : decode method_2_code 6 = .ok (.iload_n 2, 1) := by decide +kernel
theorem d19_7 : decode method_2_code 7 = .ok (.goto 5, 3) := by decide +kernel
-- RightsOfPinLaw.expect 
def Q19_30 (Z : State)  (h0 : Heap) (n0 : Nat) (v : Option Value) (h : Heap) (L : List Loc) : Prop := v = some (.int 120) ∧ Fr n0 L ∧ h = h0
set_option maxRecDepth 65536 in
set_option maxHeartbeats 40000000 in
theorem rm19_30 (l : Launch) (Z : State) (a0 : Array Value) (hw : HW Z a0) (ws : List Jvm.Cond)  (h0 : Heap) (n0 : Nat) (Z0 : n0 ≤ h0.size) :
    MF l Z (⟨zs8, "expect", "(IIC)C"⟩ : MethodName) (Jvm.Cond.code (⟨zs8, "expect", "(IIC)C"⟩ : MethodName) method_2_code 3 (some .char)) ws ({ frames := 0, cells := 0, slots := 0, locals := 0 } : Room) #[(.int 1), (.int 1), (.int 120)] h0 (Q19_30 Z  h0 n0) := by
  refine own_enter (plainFor_of_name pn_1) fun p e s m below meth c s₁ X0 hx hby hml hown hnm hZ e0 hre hlk => ?_
  have N0 := Fr.nil n0
  have pre0 : ∀ t, SF p e below s₁ (mkF m 0 #[iv 1, iv 1, iv 120] []) t → SF p e below s₁ (entryFrame m #[(.int 1), (.int 1), (.int 120)] 3) t := fun t k => castTop (ef_5 m (1 : Int32) (1 : Int32) (120 : Int32)) k
  obtain ⟨fs, hr, hrun, hended, hW, hsame⟩ := X0.leave (v := some (.int 120)) (fun h => by rw [hre] at h; cases h)
  refine ⟨_, _, pre0 _ ?_, hrun, hended, _, _, rfl, ?_, ⟨_, rfl⟩, hW, hsame.mono (by decide) (by decide)⟩
  · show SF p e below s₁ (mkF m 0 #[iv 1, iv 1, iv 120] []) _
    refine XS.iloadN X0.here hx rfl (hb hby d19_0) rfl ?_
    refine XS.iloadN X0.here hx rfl (hb hby d19_1) rfl ?_
    show SF p e below s₁ (mkF m 2 #[iv 1, iv 1, iv 120] [(.int 1), (.int 1)]) _
    refine XS.iand X0.here hx rfl (hb hby d19_2) rfl ?_
    show SF p e below s₁ (mkF m 3 #[iv 1, iv 1, iv 120] [(.int ((1 : Int32) &&& (1 : Int32)))]) _
    rw [show ((1 : Int32) &&& (1 : Int32)) = (1 : Int32) from by decide]
    show SF p e below s₁ (mkF m 3 #[iv 1, iv 1, iv 120] [(.int 1)]) _
    refine XS.ifNo X0.here hx rfl (hb hby d19_3) rfl ((if0 _ _).trans (feq (by decide : ¬ ((1 : Int32) = (0 : Int32)))).1) ?_
    show SF p e below s₁ (mkF m 6 #[iv 1, iv 1, iv 120] []) _
    refine XS.iloadN X0.here hx rfl (hb hby d19_6) rfl ?_
    refine XS.goto X0.here hx rfl (pc0 := 7) (pc' := 12) rfl (hb hby d19_7) (by decide) (by decide) ?_
    show SF p e below s₁ (mkF m 12 #[iv 1, iv 1, iv 120] [(.int 120)]) _
    exact retN X0 hx (t := .char) hre (by simp) (hb hby d19_12) hr
  · show Q19_30 Z  h0 n0 _ s₁.heap _
    rw [e0]
    exact ⟨rfl, N0, rfl⟩
set_option maxRecDepth 65536 in
set_option maxHeartbeats 400000000 in
theorem pc_5 {p : Program} {l : Launch} {e : Env} {s : State} {m : MethodId} {below : List Frame} {meth : Method} {c : Code} {T0 : State} {locs : List Loc} {Z : State} {a0 : Array Value} {h0 : Heap} {n0 : Nat} {p0s : Int32} {p1s : Int32} {GC : Int32} {GF : Value} {w4 : Addr} {w5 : Addr} {w6 : Addr} {dv3 : Int32} {dv5 : Addr} (X0 : Stand p l e room_1 s m #[(.int p0s), (.int p1s)] below meth c T0 locs 0 0) (hx : p.tables.exec = Jvm.exec) (hZ : Z.Warmed39 s.vm) (hw : HW Z a0) (hby : c.code = code) (hml : c.maxLocals = 7) (hown : s.vm.findClass zs8 = some m.cls) (hre : meth.sig.returnType = some .boolean) (hlk : meth.locks = false) (e0 : T0.heap = h0) (N0 : Fr n0 locs) (Z0 : n0 ≤ h0.size) (O0 : Old Z n0 h0) (Sg0 : Sta Z Z.heap "java/lang/String" "COMPACT_STRINGS" "Z" (.int GC)) (Sg1 : Sta Z Z.heap zs9 "SIOOBE_FORMATTER" zs5 GF) (rGF : GF.isRef = true) (nzGC : ¬ (GC = (0 : Int32))) (Sg7 : Sta Z Z.heap zs7 "READ" zs4 (.ref w4)) (Sg9 : Sta Z Z.heap zs7 "WRITE" zs4 (.ref w5)) (Sg11 : Sta Z Z.heap zs7 "EXECUTE" zs4 (.ref w6)) (E_w6 : Exa Z Z.heap w6 zs7) (F_w4_bits : Fld Z Z.heap w4 zs7 "bits" "I" (.int 4)) (F_w5_bits : Fld Z Z.heap w5 zs7 "bits" "I" (.int 2)) (F_w6_bits : Fld Z Z.heap w6 zs7 "bits" "I" (.int 1)) :
    Fine p e below s n0 (T0.setTop (mkF m 72 #[iv p0s, iv p1s, iv 1, iv dv3, rv w6, rv dv5, .unset] [])) := by
  obtain ⟨T1, X1, e1, st1⟩ := getS2 X0 hx hZ hown (host := "") (Or.inl (tw hw 102 rfl)) Via.refl e0 (Sg11.ext O0.2) (g := (mkF m 123 #[iv p0s, iv p1s, iv 1, iv dv3, rv w6, rv dv5, .unset] [(.ref w6)])) rfl (hb hby at_123)
  obtain ⟨cq2, kq2, q2a, q2b, q2c⟩ := isOf hZ e1 (E_w6.ext O0.2)
  obtain ⟨_, _, ⟨T2, L2, k2x, n2⟩, -, X2, ⟨Lc2, hQ2, l2, y2, z2⟩, st2⟩ := X1.virtualBack hx (y := (⟨zs7, "toString", zs0⟩ : MethodName)) (z := (⟨zs7, "toString", zs0⟩ : MethodName)) hown (mvT hZ (tw hw 15 rfl)) (mvT hZ (tw hw 16 rfl)) (notFace_of_selects (args := #[]) (mvT hZ (tw hw 18 rfl))) (mvT hZ (tw hw 18 rfl)) (mvT hZ (tw hw 17 rfl)) (by decide) (backOf (W := 0) (rm3_27 l Z a0 hw [] w6 w4 w5 GC h0 n0 Z0 Sg7 O0 E_w6 F_w4_bits F_w6_bits Sg9 F_w5_bits Sg11 Sg0 nzGC) hZ (tw hw 19 rfl) (tw hw 2 rfl) (by decide) (by decide)) q2a q2c (g := (mkF m 133 #[iv p0s, iv p1s, iv 1, iv dv3, rv w6, rv dv5, .unset] [(.ref w6)])) rfl (by rw [hml]; rfl) (Steps.refl _) (argsL := []) (rest := []) (lenOf pd_5 rfl) rfl (Nat.le_of_eq rfl) (hb hby at_133) (fun _ _ => ⟨rfl, e1, (by decide : 0 + 3 ≤ _), (by decide : 0 + 10 ≤ _)⟩)
  dsimp only [Pt.U, Pt.locs, Pt.cells, Pt.slots] at X2 l2 y2 z2 st2 hQ2
  subst l2 y2 z2
  obtain ⟨b6, b7, k8, bz_b6, bz_b7, bn2_0, rfl, N2q, K2c, Fq2_0, Fq2_1, Fq2_2, Fq2_3⟩ := hQ2
  have N2 := Fr.app N0 N2q
  have hwwordsLen : ∀ d ∈ StrChars.Road.wordsLen, d.before a0 Z = true := fun d hd => hw d (own_wordsLen d hd)
  have hp3 : ∀ c ∈ ([(45 : Int32), (45 : Int32), (120 : Int32)] : List Int32), ¬ c < 0 ∧ ¬ (255 : Int32) < c := by
    intro c hc
    simp only [List.mem_cons, List.not_mem_nil, or_false] at hc
    rcases hc with rfl | rfl | rfl
    · decide
    · decide
    · decide
  have hcd4 : StrChars.Road.CodA ([(45 : Int32), (45 : Int32), (120 : Int32)] : List Int32) 0 (3 : Int32) (((([(45 : Int32), (45 : Int32), (120 : Int32)] : List Int32)).map (fun c => c.toInt8.toInt32)).map Value.int) := StrChars.Road.codOf (n := 3) rfl (fun c hc => (hp3 c hc).2)
  have hbd4 : ∀ c ∈ ([(45 : Int32), (45 : Int32), (120 : Int32)] : List Int32), ¬ c < 0 ∧ ¬ (65535 : Int32) < c := own_up _ hp3
  have O2 : Old Z n0 T2.heap := O0.keep K2c all0
  obtain ⟨cq5, kq5, q5a, q5b, q5c⟩ := isOf hZ rfl Fq2_0
  obtain ⟨_, _, ⟨T5, L5, k5x, n5⟩, -, X5, ⟨Lc5, hQ5, l5, y5, z5⟩, st5⟩ := X2.virtualBack hx (y := (⟨"java/lang/String", "length", "()I"⟩ : MethodName)) (z := (⟨"java/lang/String", "length", "()I"⟩ : MethodName)) hown (mvT hZ (tw hw 65 rfl)) (mvT hZ (tw hw 66 rfl)) (notFace_of_selects (args := #[]) (mvT hZ (tw hw 68 rfl))) (mvT hZ (tw hw 68 rfl)) (mvT hZ (tw hw 67 rfl)) (by decide) (StrChars.Road.lenW (W := 0) hZ hwwordsLen (kI := 4) (tw hw 21 rfl) Fq2_0 Fq2_2 Fq2_1 Fq2_3 hcd4 hbd4 (Sg0.ext O2.2) nzGC (Nat.le_of_ble_eq_true rfl) (by decide) (by decide)) q5a q5c (g := (mkF m 140 #[iv p0s, iv p1s, iv 1, iv dv3, rv w6, rv dv5, rv b6] [(.ref b6)])) rfl (by rw [hml]; rfl) (Steps.refl _) (argsL := []) (rest := []) (lenOf pd_1 rfl) rfl (Nat.le_of_eq rfl) (hb hby at_140) (fun _ _ => ⟨rfl, rfl, (by decide : 3 + 0 ≤ _), (by decide : 10 + 0 ≤ _)⟩)
  dsimp only [Pt.U, Pt.locs, Pt.cells, Pt.slots] at X5 l5 y5 z5 st5 hQ5
  subst l5 y5 z5
  obtain ⟨rfl, rfl, e5⟩ := hQ5
  have N5 := Fr.app N2 (Fr.nil n0)
  have hwwordsChN : ∀ d ∈ StrChars.Road.wordsChN, d.before a0 Z = true := fun d hd => hw d (own_wordsChN d hd)
  have hp6 : ∀ c ∈ ([(45 : Int32), (45 : Int32), (120 : Int32)] : List Int32), ¬ c < 0 ∧ ¬ (255 : Int32) < c := by
    intro c hc
    simp only [List.mem_cons, List.not_mem_nil, or_false] at hc
    rcases hc with rfl | rfl | rfl
    · decide
    · decide
    · decide
  have hcd7 : StrChars.Road.CodA ([(45 : Int32), (45 : Int32), (120 : Int32)] : List Int32) 0 (3 : Int32) (((([(45 : Int32), (45 : Int32), (120 : Int32)] : List Int32)).map (fun c => c.toInt8.toInt32)).map Value.int) := StrChars.Road.codOf (n := 3) rfl (fun c hc => (hp6 c hc).2)
  have hbd7 : ∀ c ∈ ([(45 : Int32), (45 : Int32), (120 : Int32)] : List Int32), ¬ c < 0 ∧ ¬ (65535 : Int32) < c := own_up _ hp6
  obtain ⟨cq8, kq8, q8a, q8b, q8c⟩ := isOf hZ e5 Fq2_0
  obtain ⟨_, _, ⟨T8, L8, k8x, n8⟩, -, X8, ⟨Lc8, hQ8, l8, y8, z8⟩, st8⟩ := X5.virtualBack hx (y := (⟨"java/lang/String", "charAt", "(I)C"⟩ : MethodName)) (z := (⟨"java/lang/String", "charAt", "(I)C"⟩ : MethodName)) hown (mvT hZ (tw hw 75 rfl)) (mvT hZ (tw hw 76 rfl)) (notFace_of_selects (args := #[]) (mvT hZ (tw hw 78 rfl))) (mvT hZ (tw hw 78 rfl)) (mvT hZ (tw hw 77 rfl)) (by decide) (StrChars.Road.chN (W := 0) hZ hwwordsChN (kI := 4) (tw hw 21 rfl) Fq2_0 Fq2_2 Fq2_1 Fq2_3 hcd7 hbd7 (Sg0.ext O2.2) nzGC (Sg1.ext O2.2) rGF (Nat.le_of_ble_eq_true rfl) (i := 0) (Nat.le_of_ble_eq_true rfl) (j := (0 : Int32)) rfl (by decide) (by decide)) q8a q8c (g := (mkF m 150 #[iv p0s, iv p1s, iv 1, iv dv3, rv w6, rv dv5, rv b6] [(.int 0), (.ref b6)])) rfl (by rw [hml]; rfl) (Steps.refl _) (argsL := [(.int 0)]) (rest := []) (lenOf pd_6 rfl) rfl (Nat.le_of_eq rfl) (hb hby at_150) (fun _ _ => ⟨rfl, e5, (by decide : 3 + 0 ≤ _), (by decide : 10 + 0 ≤ _)⟩)
  dsimp only [Pt.U, Pt.locs, Pt.cells, Pt.slots] at X8 l8 y8 z8 st8 hQ8
  subst l8 y8 z8
  obtain ⟨rfl, rfl, e8⟩ := hQ8
  have N8 := Fr.app N5 (Fr.nil n0)
  have Z2 : n0 ≤ T2.heap.size := Nat.le_trans Z0 K2c.1
  obtain ⟨_, _, ⟨T9, L9, k9x, n9⟩, -, X9, ⟨Lc9, hQ9, l9, y9, z9⟩, st9⟩ := Jvm.LawKit.callS X8 hx (y := (⟨zs8, "expect", "(IIC)C"⟩ : MethodName)) hown (mvT hZ (tw hw 97 rfl)) (mvT hZ (tw hw 98 rfl)) (mvT hZ (tw hw 99 rfl)) (mvT hZ (tw hw 100 rfl)) (by decide) (backOf (W := 1) (rm19_28 l Z a0 hw []  T2.heap n0 Z2 ) hZ (tw hw 100 rfl) (tw hw 99 rfl) (by decide) (by decide)) (g := (mkF m 157 #[iv p0s, iv p1s, iv 1, iv dv3, rv w6, rv dv5, rv b6] [(.int 114), (.int 4), (.int 1), (.int 45)])) rfl (by rw [hml]; rfl) (argsL := [(.int 1), (.int 4), (.int 114)]) (rest := [(.int 45)]) (lenOf pd_7 rfl) rfl (Nat.le_of_eq rfl) (hb hby at_157) (fun _ _ => ⟨rfl, e8, (by decide : 3 + 0 ≤ _), (by decide : 10 + 0 ≤ _)⟩)
  dsimp only [Pt.U, Pt.locs, Pt.cells, Pt.slots] at X9 l9 y9 z9 st9 hQ9
  subst l9 y9 z9
  obtain ⟨rfl, N9q, e9⟩ := hQ9
  have N9 := Fr.app N8 N9q
  have hp10 : ∀ c ∈ ([(45 : Int32), (45 : Int32), (120 : Int32)] : List Int32), ¬ c < 0 ∧ ¬ (255 : Int32) < c := by
    intro c hc
    simp only [List.mem_cons, List.not_mem_nil, or_false] at hc
    rcases hc with rfl | rfl | rfl
    · decide
    · decide
    · decide
  have hcd11 : StrChars.Road.CodA ([(45 : Int32), (45 : Int32), (120 : Int32)] : List Int32) 0 (3 : Int32) (((([(45 : Int32), (45 : Int32), (120 : Int32)] : List Int32)).map (fun c => c.toInt8.toInt32)).map Value.int) := StrChars.Road.codOf (n := 3) rfl (fun c hc => (hp10 c hc).2)
  have hbd11 : ∀ c ∈ ([(45 : Int32), (45 : Int32), (120 : Int32)] : List Int32), ¬ c < 0 ∧ ¬ (65535 : Int32) < c := own_up _ hp10
  obtain ⟨cq12, kq12, q12a, q12b, q12c⟩ := isOf hZ e9 Fq2_0
  obtain ⟨_, _, ⟨T12, L12, k12x, n12⟩, -, X12, ⟨Lc12, hQ12, l12, y12, z12⟩, st12⟩ := X9.virtualBack hx (y := (⟨"java/lang/String", "charAt", "(I)C"⟩ : MethodName)) (z := (⟨"java/lang/String", "charAt", "(I)C"⟩ : MethodName)) hown (mvT hZ (tw hw 75 rfl)) (mvT hZ (tw hw 76 rfl)) (notFace_of_selects (args := #[]) (mvT hZ (tw hw 78 rfl))) (mvT hZ (tw hw 78 rfl)) (mvT hZ (tw hw 77 rfl)) (by decide) (StrChars.Road.chN (W := 0) hZ hwwordsChN (kI := 4) (tw hw 21 rfl) Fq2_0 Fq2_2 Fq2_1 Fq2_3 hcd11 hbd11 (Sg0.ext O2.2) nzGC (Sg1.ext O2.2) rGF (Nat.le_of_ble_eq_true rfl) (i := 1) (Nat.le_of_ble_eq_true rfl) (j := (1 : Int32)) rfl (by decide) (by decide)) q12a q12c (g := (mkF m 166 #[iv p0s, iv p1s, iv 1, iv dv3, rv w6, rv dv5, rv b6] [(.int 1), (.ref b6)])) rfl (by rw [hml]; rfl) (Steps.refl _) (argsL := [(.int 1)]) (rest := []) (lenOf pd_6 rfl) rfl (Nat.le_of_eq rfl) (hb hby at_166) (fun _ _ => ⟨rfl, e9, (by decide : 3 + 0 ≤ _), (by decide : 10 + 0 ≤ _)⟩)
  dsimp only [Pt.U, Pt.locs, Pt.cells, Pt.slots] at X12 l12 y12 z12 st12 hQ12
  subst l12 y12 z12
  obtain ⟨rfl, rfl, e12⟩ := hQ12
  have N12 := Fr.app N9 (Fr.nil n0)
  obtain ⟨_, _, ⟨T13, L13, k13x, n13⟩, -, X13, ⟨Lc13, hQ13, l13, y13, z13⟩, st13⟩ := Jvm.LawKit.callS X12 hx (y := (⟨zs8, "expect", "(IIC)C"⟩ : MethodName)) hown (mvT hZ (tw hw 97 rfl)) (mvT hZ (tw hw 98 rfl)) (mvT hZ (tw hw 99 rfl)) (mvT hZ (tw hw 100 rfl)) (by decide) (backOf (W := 1) (rm19_29 l Z a0 hw []  T2.heap n0 Z2 ) hZ (tw hw 100 rfl) (tw hw 99 rfl) (by decide) (by decide)) (g := (mkF m 173 #[iv p0s, iv p1s, iv 1, iv dv3, rv w6, rv dv5, rv b6] [(.int 119), (.int 2), (.int 1), (.int 45)])) rfl (by rw [hml]; rfl) (argsL := [(.int 1), (.int 2), (.int 119)]) (rest := [(.int 45)]) (lenOf pd_7 rfl) rfl (Nat.le_of_eq rfl) (hb hby at_173) (fun _ _ => ⟨rfl, e12, (by decide : 3 + 0 ≤ _), (by decide : 10 + 0 ≤ _)⟩)
  dsimp only [Pt.U, Pt.locs, Pt.cells, Pt.slots] at X13 l13 y13 z13 st13 hQ13
  subst l13 y13 z13
  obtain ⟨rfl, N13q, e13⟩ := hQ13
  have N13 := Fr.app N12 N13q
  have hp14 : ∀ c ∈ ([(45 : Int32), (45 : Int32), (120 : Int32)] : List Int32), ¬ c < 0 ∧ ¬ (255 : Int32) < c := by
    intro c hc
    simp only [List.mem_cons, List.not_mem_nil, or_false] at hc
    rcases hc with rfl | rfl | rfl
    · decide
    · decide
    · decide
  have hcd15 : StrChars.Road.CodA ([(45 : Int32), (45 : Int32), (120 : Int32)] : List Int32) 0 (3 : Int32) (((([(45 : Int32), (45 : Int32), (120 : Int32)] : List Int32)).map (fun c => c.toInt8.toInt32)).map Value.int) := StrChars.Road.codOf (n := 3) rfl (fun c hc => (hp14 c hc).2)
  have hbd15 : ∀ c ∈ ([(45 : Int32), (45 : Int32), (120 : Int32)] : List Int32), ¬ c < 0 ∧ ¬ (65535 : Int32) < c := own_up _ hp14
  obtain ⟨cq16, kq16, q16a, q16b, q16c⟩ := isOf hZ e13 Fq2_0
  obtain ⟨_, _, ⟨T16, L16, k16x, n16⟩, -, X16, ⟨Lc16, hQ16, l16, y16, z16⟩, st16⟩ := X13.virtualBack hx (y := (⟨"java/lang/String", "charAt", "(I)C"⟩ : MethodName)) (z := (⟨"java/lang/String", "charAt", "(I)C"⟩ : MethodName)) hown (mvT hZ (tw hw 75 rfl)) (mvT hZ (tw hw 76 rfl)) (notFace_of_selects (args := #[]) (mvT hZ (tw hw 78 rfl))) (mvT hZ (tw hw 78 rfl)) (mvT hZ (tw hw 77 rfl)) (by decide) (StrChars.Road.chN (W := 0) hZ hwwordsChN (kI := 4) (tw hw 21 rfl) Fq2_0 Fq2_2 Fq2_1 Fq2_3 hcd15 hbd15 (Sg0.ext O2.2) nzGC (Sg1.ext O2.2) rGF (Nat.le_of_ble_eq_true rfl) (i := 2) (Nat.le_of_ble_eq_true rfl) (j := (2 : Int32)) rfl (by decide) (by decide)) q16a q16c (g := (mkF m 182 #[iv p0s, iv p1s, iv 1, iv dv3, rv w6, rv dv5, rv b6] [(.int 2), (.ref b6)])) rfl (by rw [hml]; rfl) (Steps.refl _) (argsL := [(.int 2)]) (rest := []) (lenOf pd_6 rfl) rfl (Nat.le_of_eq rfl) (hb hby at_182) (fun _ _ => ⟨rfl, e13, (by decide : 3 + 0 ≤ _), (by decide : 10 + 0 ≤ _)⟩)
  dsimp only [Pt.U, Pt.locs, Pt.cells, Pt.slots] at X16 l16 y16 z16 st16 hQ16
  subst l16 y16 z16
  obtain ⟨rfl, rfl, e16⟩ := hQ16
  have N16 := Fr.app N13 (Fr.nil n0)
  obtain ⟨_, _, ⟨T17, L17, k17x, n17⟩, -, X17, ⟨Lc17, hQ17, l17, y17, z17⟩, st17⟩ := Jvm.LawKit.callS X16 hx (y := (⟨zs8, "expect", "(IIC)C"⟩ : MethodName)) hown (mvT hZ (tw hw 97 rfl)) (mvT hZ (tw hw 98 rfl)) (mvT hZ (tw hw 99 rfl)) (mvT hZ (tw hw 100 rfl)) (by decide) (backOf (W := 1) (rm19_30 l Z a0 hw []  T2.heap n0 Z2 ) hZ (tw hw 100 rfl) (tw hw 99 rfl) (by decide) (by decide)) (g := (mkF m 189 #[iv p0s, iv p1s, iv 1, iv dv3, rv w6, rv dv5, rv b6] [(.int 120), (.int 1), (.int 1), (.int 120)])) rfl (by rw [hml]; rfl) (argsL := [(.int 1), (.int 1), (.int 120)]) (rest := [(.int 120)]) (lenOf pd_7 rfl) rfl (Nat.le_of_eq rfl) (hb hby at_189) (fun _ _ => ⟨rfl, e16, (by decide : 3 + 0 ≤ _), (by decide : 10 + 0 ≤ _)⟩)
  dsimp only [Pt.U, Pt.locs, Pt.cells, Pt.slots] at X17 l17 y17 z17 st17 hQ17
  subst l17 y17 z17
  obtain ⟨rfl, N17q, e17⟩ := hQ17
  have N17 := Fr.app N16 N17q
  obtain ⟨fs, hr, hrun, hended, hW, hsame⟩ := X17.leave (v := some (.int (1 : Int32))) (fun h => by rw [hre] at h; cases h)
  refine ⟨_, _, ?_, hrun, hended, _, _, rfl, ?_, ⟨_, rfl⟩, hW, hsame.mono (by decide) (by decide)⟩
  · show SF p e below T0 (mkF m 72 #[iv p0s, iv p1s, iv 1, iv dv3, rv w6, rv dv5, .unset] []) _
    refine XS.iloadN X0.here hx rfl (hb hby at_72) rfl ?_
    show SF p e below T0 (mkF m 73 #[iv p0s, iv p1s, iv 1, iv dv3, rv w6, rv dv5, .unset] [(.int 1)]) _
    refine XS.ifYes X0.here hx rfl (pc0 := 73) (pc' := 86) rfl (hb hby at_73) rfl ((if0 _ _).trans (feq (by decide : ¬ ((1 : Int32) = (0 : Int32)))).2) (by decide) (by decide) ?_
    show SF p e below T0 (mkF m 86 #[iv p0s, iv p1s, iv 1, iv dv3, rv w6, rv dv5, .unset] []) _
    refine XS.iloadN X0.here hx rfl (hb hby at_86) rfl ?_
    refine XS.iconst X0.here hx rfl (hb hby at_87) ?_
    show SF p e below T0 (mkF m 88 #[iv p0s, iv p1s, iv 1, iv dv3, rv w6, rv dv5, .unset] [(.int 4), (.int 1)]) _
    refine XS.icmpYes X0.here hx rfl (pc0 := 88) (pc' := 101) rfl (hb hby at_88) rfl (feq (by decide : ¬ ((1 : Int32) = (4 : Int32)))).2 (by decide) (by decide) ?_
    show SF p e below T0 (mkF m 101 #[iv p0s, iv p1s, iv 1, iv dv3, rv w6, rv dv5, .unset] []) _
    refine XS.iloadN X0.here hx rfl (hb hby at_101) rfl ?_
    refine XS.iconst X0.here hx rfl (hb hby at_102) ?_
    show SF p e below T0 (mkF m 103 #[iv p0s, iv p1s, iv 1, iv dv3, rv w6, rv dv5, .unset] [(.int 2), (.int 1)]) _
    refine XS.icmpYes X0.here hx rfl (pc0 := 103) (pc' := 116) rfl (hb hby at_103) rfl (feq (by decide : ¬ ((1 : Int32) = (2 : Int32)))).2 (by decide) (by decide) ?_
    show SF p e below T0 (mkF m 116 #[iv p0s, iv p1s, iv 1, iv dv3, rv w6, rv dv5, .unset] []) _
    refine XS.iloadN X0.here hx rfl (hb hby at_116) rfl ?_
    refine XS.iconst X0.here hx rfl (hb hby at_117) ?_
    show SF p e below T0 (mkF m 118 #[iv p0s, iv p1s, iv 1, iv dv3, rv w6, rv dv5, .unset] [(.int 1), (.int 1)]) _
    refine XS.icmpNo X0.here hx rfl (hb hby at_118) rfl (teq (by decide : (1 : Int32) = (1 : Int32))).2 ?_
    show SF p e below T0 (mkF m 121 #[iv p0s, iv p1s, iv 1, iv dv3, rv w6, rv dv5, .unset] []) _
    refine XS.aload X0.here hx rfl (hb hby at_121) rfl rfl ?_
    show SF p e below T0 (mkF m 123 #[iv p0s, iv p1s, iv 1, iv dv3, rv w6, rv dv5, .unset] [(.ref w6)]) _
    refine st1 _ ?_
    show SF p e below T1 (mkF m 126 #[iv p0s, iv p1s, iv 1, iv dv3, rv w6, rv dv5, .unset] [(.ref w6), (.ref w6)]) _
    refine Jvm.RoadKit.acmp (g := (mkF m 126 #[iv p0s, iv p1s, iv 1, iv dv3, rv w6, rv dv5, .unset] [(.ref w6), (.ref w6)])) X1 hx rfl rfl rfl (pc0 := 126) (pc' := 131) (same := true) rfl (hb hby at_126) rfl (decide_eq_true rfl) (by decide) (by decide) ?_
    show SF p e below T1 (mkF m 131 #[iv p0s, iv p1s, iv 1, iv dv3, rv w6, rv dv5, .unset] []) _
    refine XS.aload X1.here hx rfl (hb hby at_131) rfl rfl ?_
    show SF p e below T1 (mkF m 133 #[iv p0s, iv p1s, iv 1, iv dv3, rv w6, rv dv5, .unset] [(.ref w6)]) _
    refine st2.trans ?_
    show SF p e below T2 (mkF m 136 #[iv p0s, iv p1s, iv 1, iv dv3, rv w6, rv dv5, .unset] [(.ref b6)]) _
    refine XS.astore X2.here hx rfl (hb hby at_136) rfl rfl (l' := #[iv p0s, iv p1s, iv 1, iv dv3, rv w6, rv dv5, rv b6]) rfl ?_
    refine XS.aload X2.here hx rfl (hb hby at_138) rfl rfl ?_
    show SF p e below T2 (mkF m 140 #[iv p0s, iv p1s, iv 1, iv dv3, rv w6, rv dv5, rv b6] [(.ref b6)]) _
    refine st5.trans ?_
    show SF p e below T5 (mkF m 143 #[iv p0s, iv p1s, iv 1, iv dv3, rv w6, rv dv5, rv b6] [(.int 3)]) _
    refine XS.iconst X5.here hx rfl (hb hby at_143) ?_
    show SF p e below T5 (mkF m 144 #[iv p0s, iv p1s, iv 1, iv dv3, rv w6, rv dv5, rv b6] [(.int 3), (.int 3)]) _
    refine XS.icmpNo X5.here hx rfl (hb hby at_144) rfl (teq (by decide : (3 : Int32) = (3 : Int32))).2 ?_
    show SF p e below T5 (mkF m 147 #[iv p0s, iv p1s, iv 1, iv dv3, rv w6, rv dv5, rv b6] []) _
    refine XS.aload X5.here hx rfl (hb hby at_147) rfl rfl ?_
    refine XS.iconst X5.here hx rfl (hb hby at_149) ?_
    show SF p e below T5 (mkF m 150 #[iv p0s, iv p1s, iv 1, iv dv3, rv w6, rv dv5, rv b6] [(.int 0), (.ref b6)]) _
    refine st8.trans ?_
    show SF p e below T8 (mkF m 153 #[iv p0s, iv p1s, iv 1, iv dv3, rv w6, rv dv5, rv b6] [(.int 45)]) _
    refine XS.iloadN X8.here hx rfl (hb hby at_153) rfl ?_
    refine XS.iconst X8.here hx rfl (hb hby at_154) ?_
    show SF p e below T8 (mkF m 155 #[iv p0s, iv p1s, iv 1, iv dv3, rv w6, rv dv5, rv b6] [(.int 4), (.int 1), (.int 45)]) _
    refine XS.bipush X8.here hx rfl (hb hby at_155) ?_
    show SF p e below T8 (mkF m 157 #[iv p0s, iv p1s, iv 1, iv dv3, rv w6, rv dv5, rv b6] [(.int 114), (.int 4), (.int 1), (.int 45)]) _
    refine st9 _ ?_
    show SF p e below T9 (mkF m 160 #[iv p0s, iv p1s, iv 1, iv dv3, rv w6, rv dv5, rv b6] [(.int 45), (.int 45)]) _
    refine XS.icmpNo X9.here hx rfl (hb hby at_160) rfl (teq (by decide : (45 : Int32) = (45 : Int32))).2 ?_
    show SF p e below T9 (mkF m 163 #[iv p0s, iv p1s, iv 1, iv dv3, rv w6, rv dv5, rv b6] []) _
    refine XS.aload X9.here hx rfl (hb hby at_163) rfl rfl ?_
    refine XS.iconst X9.here hx rfl (hb hby at_165) ?_
    show SF p e below T9 (mkF m 166 #[iv p0s, iv p1s, iv 1, iv dv3, rv w6, rv dv5, rv b6] [(.int 1), (.ref b6)]) _
    refine st12.trans ?_
    show SF p e below T12 (mkF m 169 #[iv p0s, iv p1s, iv 1, iv dv3, rv w6, rv dv5, rv b6] [(.int 45)]) _
    refine XS.iloadN X12.here hx rfl (hb hby at_169) rfl ?_
    refine XS.iconst X12.here hx rfl (hb hby at_170) ?_
    show SF p e below T12 (mkF m 171 #[iv p0s, iv p1s, iv 1, iv dv3, rv w6, rv dv5, rv b6] [(.int 2), (.int 1), (.int 45)]) _
    refine XS.bipush X12.here hx rfl (hb hby at_171) ?_
    show SF p e below T12 (mkF m 173 #[iv p0s, iv p1s, iv 1, iv dv3, rv w6, rv dv5, rv b6] [(.int 119), (.int 2), (.int 1), (.int 45)]) _
    refine st13 _ ?_
    show SF p e below T13 (mkF m 176 #[iv p0s, iv p1s, iv 1, iv dv3, rv w6, rv dv5, rv b6] [(.int 45), (.int 45)]) _
    refine XS.icmpNo X13.here hx rfl (hb hby at_176) rfl (teq (by decide : (45 : Int32) = (45 : Int32))).2 ?_
    show SF p e below T13 (mkF m 179 #[iv p0s, iv p1s, iv 1, iv dv3, rv w6, rv dv5, rv b6] []) _
    refine XS.aload X13.here hx rfl (hb hby at_179) rfl rfl ?_
    refine XS.iconst X13.here hx rfl (hb hby at_181) ?_
    show SF p e below T13 (mkF m 182 #[iv p0s, iv p1s, iv 1, iv dv3, rv w6, rv dv5, rv b6] [(.int 2), (.ref b6)]) _
    refine st16.trans ?_
    show SF p e below T16 (mkF m 185 #[iv p0s, iv p1s, iv 1, iv dv3, rv w6, rv dv5, rv b6] [(.int 120)]) _
    refine XS.iloadN X16.here hx rfl (hb hby at_185) rfl ?_
    refine XS.iconst X16.here hx rfl (hb hby at_186) ?_
    show SF p e below T16 (mkF m 187 #[iv p0s, iv p1s, iv 1, iv dv3, rv w6, rv dv5, rv b6] [(.int 1), (.int 1), (.int 120)]) _
    refine XS.bipush X16.here hx rfl (hb hby at_187) ?_
    show SF p e below T16 (mkF m 189 #[iv p0s, iv p1s, iv 1, iv dv3, rv w6, rv dv5, rv b6] [(.int 120), (.int 1), (.int 1), (.int 120)]) _
    refine st17 _ ?_
    show SF p e below T17 (mkF m 192 #[iv p0s, iv p1s, iv 1, iv dv3, rv w6, rv dv5, rv b6] [(.int 120), (.int 120)]) _
    refine XS.icmpNo X17.here hx rfl (hb hby at_192) rfl (teq (by decide : (120 : Int32) = (120 : Int32))).2 ?_
    show SF p e below T17 (mkF m 195 #[iv p0s, iv p1s, iv 1, iv dv3, rv w6, rv dv5, rv b6] []) _
    refine XS.iconst X17.here hx rfl (hb hby at_195) ?_
    refine XS.goto X17.here hx rfl (pc0 := 196) (pc' := 200) rfl (hb hby at_196) (by decide) (by decide) ?_
    show SF p e below T17 (mkF m 200 #[iv p0s, iv p1s, iv 1, iv dv3, rv w6, rv dv5, rv b6] [(.int 1)]) _
    exact retN X17 hx (t := .boolean) hre (by simp) (hb hby at_200) hr
  · exact ⟨rfl, N17⟩
set_option maxRecDepth 65536 in
set_option maxHeartbeats 400000000 in
theorem pc_4 {p : Program} {l : Launch} {e : Env} {s : State} {m : MethodId} {below : List Frame} {meth : Method} {c : Code} {T0 : State} {locs : List Loc} {Z : State} {a0 : Array Value} {h0 : Heap} {n0 : Nat} {p0s : Int32} {p1s : Int32} {GC : Int32} {GF : Value} {w4 : Addr} {w5 : Addr} {w6 : Addr} {dv3 : Int32} {dv5 : Addr} (X0 : Stand p l e room_1 s m #[(.int p0s), (.int p1s)] below meth c T0 locs 0 0) (hx : p.tables.exec = Jvm.exec) (hZ : Z.Warmed39 s.vm) (hw : HW Z a0) (hby : c.code = code) (hml : c.maxLocals = 7) (hown : s.vm.findClass zs8 = some m.cls) (hre : meth.sig.returnType = some .boolean) (hlk : meth.locks = false) (e0 : T0.heap = h0) (N0 : Fr n0 locs) (Z0 : n0 ≤ h0.size) (O0 : Old Z n0 h0) (Sg0 : Sta Z Z.heap "java/lang/String" "COMPACT_STRINGS" "Z" (.int GC)) (Sg1 : Sta Z Z.heap zs9 "SIOOBE_FORMATTER" zs5 GF) (rGF : GF.isRef = true) (nzGC : ¬ (GC = (0 : Int32))) (Sg7 : Sta Z Z.heap zs7 "READ" zs4 (.ref w4)) (Sg9 : Sta Z Z.heap zs7 "WRITE" zs4 (.ref w5)) (Sg11 : Sta Z Z.heap zs7 "EXECUTE" zs4 (.ref w6)) (E_w6 : Exa Z Z.heap w6 zs7) (F_w4_bits : Fld Z Z.heap w4 zs7 "bits" "I" (.int 4)) (F_w5_bits : Fld Z Z.heap w5 zs7 "bits" "I" (.int 2)) (F_w6_bits : Fld Z Z.heap w6 zs7 "bits" "I" (.int 1)) (P1 : ¬ ((1 : Int32) = dv3)) (P2 : w6 ≠ dv5) :
    Fine p e below s n0 (T0.setTop (mkF m 22 #[iv p0s, iv p1s, iv 1, iv dv3, rv w6, rv dv5, .unset] [])) := by
  obtain ⟨cq1, kq1, q1a, q1b, q1c⟩ := isOf hZ e0 (E_w6.ext O0.2)
  obtain ⟨_, _, ⟨T1, L1, k1x, n1⟩, -, X1, ⟨Lc1, hQ1, l1, y1, z1⟩, st1⟩ := X0.virtualBack hx (y := (⟨zs7, "bits", "()I"⟩ : MethodName)) (z := (⟨zs7, "bits", "()I"⟩ : MethodName)) hown (mvT hZ (tw hw 6 rfl)) (mvT hZ (tw hw 7 rfl)) (notFace_of_selects (args := #[]) (mvT hZ (tw hw 9 rfl))) (mvT hZ (tw hw 9 rfl)) (mvT hZ (tw hw 8 rfl)) (by decide) (backOf (W := 0) (rm2_20 l Z a0 hw [] w6 h0 n0 Z0 F_w6_bits O0) hZ (tw hw 10 rfl) (tw hw 2 rfl) (by decide) (by decide)) q1a q1c (g := (mkF m 36 #[iv p0s, iv p1s, iv 1, iv dv3, rv w6, rv dv5, .unset] [(.ref w6)])) rfl (by rw [hml]; rfl) (Steps.refl _) (argsL := []) (rest := []) (lenOf pd_1 rfl) rfl (Nat.le_of_eq rfl) (hb hby at_36) (fun _ _ => ⟨rfl, e0, (by decide : 0 + 0 ≤ _), (by decide : 0 + 0 ≤ _)⟩)
  dsimp only [Pt.U, Pt.locs, Pt.cells, Pt.slots] at X1 l1 y1 z1 st1 hQ1
  subst l1 y1 z1
  obtain ⟨rfl, N1q, e1⟩ := hQ1
  have N1 := Fr.app N0 N1q
  refine Fine.pre (fun t k => ?_) (pc_5 (dv3 := dv3) (dv5 := dv5) X1 hx hZ hw hby hml hown hre hlk e1 N1 Z0 O0 Sg0 Sg1 rGF nzGC Sg7 Sg9 Sg11 E_w6 F_w4_bits F_w5_bits F_w6_bits )
  show SF p e below T0 (mkF m 22 #[iv p0s, iv p1s, iv 1, iv dv3, rv w6, rv dv5, .unset] []) _
  refine XS.aload X0.here hx rfl (hb hby at_22) rfl rfl ?_
  show SF p e below T0 (mkF m 24 #[iv p0s, iv p1s, iv 1, iv dv3, rv w6, rv dv5, .unset] [(.ref w6)]) _
  refine XS.ifnullNo X0.here hx rfl (hb hby at_24) rfl ?_
  show SF p e below T0 (mkF m 27 #[iv p0s, iv p1s, iv 1, iv dv3, rv w6, rv dv5, .unset] []) _
  refine XS.aload X0.here hx rfl (hb hby at_27) rfl rfl ?_
  show SF p e below T0 (mkF m 29 #[iv p0s, iv p1s, iv 1, iv dv3, rv w6, rv dv5, .unset] [(.ref dv5)]) _
  refine XS.ifnonnullYes X0.here hx rfl (pc0 := 29) (pc' := 34) rfl (hb hby at_29) rfl (by decide) (by decide) ?_
  show SF p e below T0 (mkF m 34 #[iv p0s, iv p1s, iv 1, iv dv3, rv w6, rv dv5, .unset] []) _
  refine XS.aload X0.here hx rfl (hb hby at_34) rfl rfl ?_
  show SF p e below T0 (mkF m 36 #[iv p0s, iv p1s, iv 1, iv dv3, rv w6, rv dv5, .unset] [(.ref w6)]) _
  refine st1.trans ?_
  show SF p e below T1 (mkF m 39 #[iv p0s, iv p1s, iv 1, iv dv3, rv w6, rv dv5, .unset] [(.int 1)]) _
  refine XS.iloadN X1.here hx rfl (hb hby at_39) rfl ?_
  show SF p e below T1 (mkF m 40 #[iv p0s, iv p1s, iv 1, iv dv3, rv w6, rv dv5, .unset] [(.int 1), (.int 1)]) _
  refine XS.icmpYes X1.here hx rfl (pc0 := 40) (pc' := 45) rfl (hb hby at_40) rfl (teq (by decide : (1 : Int32) = (1 : Int32))).1 (by decide) (by decide) ?_
  show SF p e below T1 (mkF m 45 #[iv p0s, iv p1s, iv 1, iv dv3, rv w6, rv dv5, .unset] []) _
  refine XS.aload X1.here hx rfl (hb hby at_45) rfl rfl ?_
  refine XS.aload X1.here hx rfl (hb hby at_47) rfl rfl ?_
  show SF p e below T1 (mkF m 49 #[iv p0s, iv p1s, iv 1, iv dv3, rv w6, rv dv5, .unset] [(.ref dv5), (.ref w6)]) _
  refine Jvm.RoadKit.acmp (g := (mkF m 49 #[iv p0s, iv p1s, iv 1, iv dv3, rv w6, rv dv5, .unset] [(.ref dv5), (.ref w6)])) X1 hx rfl rfl rfl (pc0 := 49) (pc' := 56) (same := false) rfl (hb hby at_49) rfl (decide_eq_false fun q => P2 (Value.ref.inj q)) (by decide) (by decide) ?_
  show SF p e below T1 (mkF m 56 #[iv p0s, iv p1s, iv 1, iv dv3, rv w6, rv dv5, .unset] []) _
  refine XS.iconst X1.here hx rfl (hb hby at_56) ?_
  refine XS.iloadN X1.here hx rfl (hb hby at_57) rfl ?_
  show SF p e below T1 (mkF m 58 #[iv p0s, iv p1s, iv 1, iv dv3, rv w6, rv dv5, .unset] [(.int 1), (.int 0)]) _
  refine XS.iloadN X1.here hx rfl (hb hby at_58) rfl ?_
  show SF p e below T1 (mkF m 59 #[iv p0s, iv p1s, iv 1, iv dv3, rv w6, rv dv5, .unset] [(.int dv3), (.int 1), (.int 0)]) _
  refine XS.icmpYes X1.here hx rfl (pc0 := 59) (pc' := 66) rfl (hb hby at_59) rfl (feq P1).2 (by decide) (by decide) ?_
  show SF p e below T1 (mkF m 66 #[iv p0s, iv p1s, iv 1, iv dv3, rv w6, rv dv5, .unset] [(.int 0)]) _
  refine XS.iconst X1.here hx rfl (hb hby at_66) ?_
  show SF p e below T1 (mkF m 67 #[iv p0s, iv p1s, iv 1, iv dv3, rv w6, rv dv5, .unset] [(.int 0), (.int 0)]) _
  refine XS.icmpYes X1.here hx rfl (pc0 := 67) (pc' := 72) rfl (hb hby at_67) rfl (teq (by decide : (0 : Int32) = (0 : Int32))).1 (by decide) (by decide) ?_
  exact k
set_option maxRecDepth 65536 in
set_option maxHeartbeats 400000000 in
theorem pc_6 {p : Program} {l : Launch} {e : Env} {s : State} {m : MethodId} {below : List Frame} {meth : Method} {c : Code} {T0 : State} {locs : List Loc} {Z : State} {a0 : Array Value} {h0 : Heap} {n0 : Nat} {p0s : Int32} {p1s : Int32} {GC : Int32} {GF : Value} {w4 : Addr} {w5 : Addr} {w6 : Addr}  (X0 : Stand p l e room_1 s m #[(.int p0s), (.int p1s)] below meth c T0 locs 0 0) (hx : p.tables.exec = Jvm.exec) (hZ : Z.Warmed39 s.vm) (hw : HW Z a0) (hby : c.code = code) (hml : c.maxLocals = 7) (hown : s.vm.findClass zs8 = some m.cls) (hre : meth.sig.returnType = some .boolean) (hlk : meth.locks = false) (e0 : T0.heap = h0) (N0 : Fr n0 locs) (Z0 : n0 ≤ h0.size) (O0 : Old Z n0 h0) (Sg0 : Sta Z Z.heap "java/lang/String" "COMPACT_STRINGS" "Z" (.int GC)) (Sg1 : Sta Z Z.heap zs9 "SIOOBE_FORMATTER" zs5 GF) (rGF : GF.isRef = true) (nzGC : ¬ (GC = (0 : Int32))) (Sg7 : Sta Z Z.heap zs7 "READ" zs4 (.ref w4)) (Sg9 : Sta Z Z.heap zs7 "WRITE" zs4 (.ref w5)) (Sg11 : Sta Z Z.heap zs7 "EXECUTE" zs4 (.ref w6)) (E_w6 : Exa Z Z.heap w6 zs7) (F_w4_bits : Fld Z Z.heap w4 zs7 "bits" "I" (.int 4)) (F_w5_bits : Fld Z Z.heap w5 zs7 "bits" "I" (.int 2)) (F_w6_bits : Fld Z Z.heap w6 zs7 "bits" "I" (.int 1)) :
    Fine p e below s n0 (T0.setTop (mkF m 22 #[iv p0s, iv p1s, iv 1, iv 1, rv w6, rv w6, .unset] [])) := by
  obtain ⟨cq1, kq1, q1a, q1b, q1c⟩ := isOf hZ e0 (E_w6.ext O0.2)
  obtain ⟨_, _, ⟨T1, L1, k1x, n1⟩, -, X1, ⟨Lc1, hQ1, l1, y1, z1⟩, st1⟩ := X0.virtualBack hx (y := (⟨zs7, "bits", "()I"⟩ : MethodName)) (z := (⟨zs7, "bits", "()I"⟩ : MethodName)) hown (mvT hZ (tw hw 6 rfl)) (mvT hZ (tw hw 7 rfl)) (notFace_of_selects (args := #[]) (mvT hZ (tw hw 9 rfl))) (mvT hZ (tw hw 9 rfl)) (mvT hZ (tw hw 8 rfl)) (by decide) (backOf (W := 0) (rm2_20 l Z a0 hw [] w6 h0 n0 Z0 F_w6_bits O0) hZ (tw hw 10 rfl) (tw hw 2 rfl) (by decide) (by decide)) q1a q1c (g := (mkF m 36 #[iv p0s, iv p1s, iv 1, iv 1, rv w6, rv w6, .unset] [(.ref w6)])) rfl (by rw [hml]; rfl) (Steps.refl _) (argsL := []) (rest := []) (lenOf pd_1 rfl) rfl (Nat.le_of_eq rfl) (hb hby at_36) (fun _ _ => ⟨rfl, e0, (by decide : 0 + 0 ≤ _), (by decide : 0 + 0 ≤ _)⟩)
  dsimp only [Pt.U, Pt.locs, Pt.cells, Pt.slots] at X1 l1 y1 z1 st1 hQ1
  subst l1 y1 z1
  obtain ⟨rfl, N1q, e1⟩ := hQ1
  have N1 := Fr.app N0 N1q
  refine Fine.pre (fun t k => ?_) (pc_5 (dv3 := (1 : Int32)) (dv5 := w6) X1 hx hZ hw hby hml hown hre hlk e1 N1 Z0 O0 Sg0 Sg1 rGF nzGC Sg7 Sg9 Sg11 E_w6 F_w4_bits F_w5_bits F_w6_bits )
  show SF p e below T0 (mkF m 22 #[iv p0s, iv p1s, iv 1, iv 1, rv w6, rv w6, .unset] []) _
  refine XS.aload X0.here hx rfl (hb hby at_22) rfl rfl ?_
  show SF p e below T0 (mkF m 24 #[iv p0s, iv p1s, iv 1, iv 1, rv w6, rv w6, .unset] [(.ref w6)]) _
  refine XS.ifnullNo X0.here hx rfl (hb hby at_24) rfl ?_
  show SF p e below T0 (mkF m 27 #[iv p0s, iv p1s, iv 1, iv 1, rv w6, rv w6, .unset] []) _
  refine XS.aload X0.here hx rfl (hb hby at_27) rfl rfl ?_
  show SF p e below T0 (mkF m 29 #[iv p0s, iv p1s, iv 1, iv 1, rv w6, rv w6, .unset] [(.ref w6)]) _
  refine XS.ifnonnullYes X0.here hx rfl (pc0 := 29) (pc' := 34) rfl (hb hby at_29) rfl (by decide) (by decide) ?_
  show SF p e below T0 (mkF m 34 #[iv p0s, iv p1s, iv 1, iv 1, rv w6, rv w6, .unset] []) _
  refine XS.aload X0.here hx rfl (hb hby at_34) rfl rfl ?_
  show SF p e below T0 (mkF m 36 #[iv p0s, iv p1s, iv 1, iv 1, rv w6, rv w6, .unset] [(.ref w6)]) _
  refine st1.trans ?_
  show SF p e below T1 (mkF m 39 #[iv p0s, iv p1s, iv 1, iv 1, rv w6, rv w6, .unset] [(.int 1)]) _
  refine XS.iloadN X1.here hx rfl (hb hby at_39) rfl ?_
  show SF p e below T1 (mkF m 40 #[iv p0s, iv p1s, iv 1, iv 1, rv w6, rv w6, .unset] [(.int 1), (.int 1)]) _
  refine XS.icmpYes X1.here hx rfl (pc0 := 40) (pc' := 45) rfl (hb hby at_40) rfl (teq (by decide : (1 : Int32) = (1 : Int32))).1 (by decide) (by decide) ?_
  show SF p e below T1 (mkF m 45 #[iv p0s, iv p1s, iv 1, iv 1, rv w6, rv w6, .unset] []) _
  refine XS.aload X1.here hx rfl (hb hby at_45) rfl rfl ?_
  refine XS.aload X1.here hx rfl (hb hby at_47) rfl rfl ?_
  show SF p e below T1 (mkF m 49 #[iv p0s, iv p1s, iv 1, iv 1, rv w6, rv w6, .unset] [(.ref w6), (.ref w6)]) _
  refine Jvm.RoadKit.acmp (g := (mkF m 49 #[iv p0s, iv p1s, iv 1, iv 1, rv w6, rv w6, .unset] [(.ref w6), (.ref w6)])) X1 hx rfl rfl rfl (pc0 := 49) (pc' := 52) (same := true) rfl (hb hby at_49) rfl (decide_eq_true rfl) (by decide) (by decide) ?_
  show SF p e below T1 (mkF m 52 #[iv p0s, iv p1s, iv 1, iv 1, rv w6, rv w6, .unset] []) _
  refine XS.iconst X1.here hx rfl (hb hby at_52) ?_
  refine XS.goto X1.here hx rfl (pc0 := 53) (pc' := 57) rfl (hb hby at_53) (by decide) (by decide) ?_
  show SF p e below T1 (mkF m 57 #[iv p0s, iv p1s, iv 1, iv 1, rv w6, rv w6, .unset] [(.int 1)]) _
  refine XS.iloadN X1.here hx rfl (hb hby at_57) rfl ?_
  refine XS.iloadN X1.here hx rfl (hb hby at_58) rfl ?_
  show SF p e below T1 (mkF m 59 #[iv p0s, iv p1s, iv 1, iv 1, rv w6, rv w6, .unset] [(.int 1), (.int 1), (.int 1)]) _
  refine XS.icmpNo X1.here hx rfl (hb hby at_59) rfl (teq (by decide : (1 : Int32) = (1 : Int32))).2 ?_
  show SF p e below T1 (mkF m 62 #[iv p0s, iv p1s, iv 1, iv 1, rv w6, rv w6, .unset] [(.int 1)]) _
  refine XS.iconst X1.here hx rfl (hb hby at_62) ?_
  refine XS.goto X1.here hx rfl (pc0 := 63) (pc' := 67) rfl (hb hby at_63) (by decide) (by decide) ?_
  show SF p e below T1 (mkF m 67 #[iv p0s, iv p1s, iv 1, iv 1, rv w6, rv w6, .unset] [(.int 1), (.int 1)]) _
  refine XS.icmpYes X1.here hx rfl (pc0 := 67) (pc' := 72) rfl (hb hby at_67) rfl (teq (by decide : (1 : Int32) = (1 : Int32))).1 (by decide) (by decide) ?_
  exact k
-- Rights.bits 
def Q2_31 (Z : State) (w5 : Addr) (h0 : Heap) (n0 : Nat) (v : Option Value) (h : Heap) (L : List Loc) : Prop := v = some (.int 2) ∧ Fr n0 L ∧ h = h0
set_option maxRecDepth 65536 in
set_option maxHeartbeats 40000000 in
theorem rm2_31 (l : Launch) (Z : State) (a0 : Array Value) (hw : HW Z a0) (ws : List Jvm.Cond) (w5 : Addr) (h0 : Heap) (n0 : Nat) (Z0 : n0 ≤ h0.size) (F_w5_bits : Fld Z Z.heap w5 zs7 "bits" "I" (.int 2)) (P2 : Old Z n0 h0) :
    MF l Z (⟨zs7, "bits", "()I"⟩ : MethodName) (Jvm.Cond.code (⟨zs7, "bits", "()I"⟩ : MethodName) prog_35_method_3_code 1 (some .int)) ws ({ frames := 0, cells := 0, slots := 0, locals := 0 } : Room) #[(.ref w5)] h0 (Q2_31 Z w5 h0 n0) := by
  refine own_enter (plainFor_of_name pn_0) fun p e s m below meth c s₁ X0 hx hby hml hown hnm hZ e0 hre hlk => ?_
  have N0 := Fr.nil n0
  have pre0 : ∀ t, SF p e below s₁ (mkF m 0 #[rv w5] []) t → SF p e below s₁ (entryFrame m #[(.ref w5)] 1) t := fun t k => castTop (ef_1 m w5) k
  obtain ⟨T1, X1, e1, st1⟩ := getF X0 hx hZ hown (host := "") (Or.inl (tw hw 11 rfl)) Via.refl e0 (F_w5_bits.ext P2.2) (g := (mkF m 1 #[rv w5] [(.ref w5)])) rfl rfl (hb hby d2_1)
  obtain ⟨fs, hr, hrun, hended, hW, hsame⟩ := X1.leave (v := some (.int 2)) (fun h => by rw [hre] at h; cases h)
  refine ⟨_, _, pre0 _ ?_, hrun, hended, _, _, rfl, ?_, ⟨_, rfl⟩, hW, hsame.mono (by decide) (by decide)⟩
  · show SF p e below s₁ (mkF m 0 #[rv w5] []) _
    refine XS.aloadN X0.here hx rfl (hb hby d2_0) rfl rfl ?_
    show SF p e below s₁ (mkF m 1 #[rv w5] [(.ref w5)]) _
    refine st1 _ ?_
    show SF p e below T1 (mkF m 4 #[rv w5] [(.int 2)]) _
    exact retI X1 hx hre (hb hby d2_4) hr
  · show Q2_31 Z w5 h0 n0 _ T1.heap _
    rw [e1]
    exact ⟨rfl, N0, rfl⟩
-- Rights.containsAll 
def Q5_32 (Z : State) (w5 : Addr) (w4 : Addr) (h0 : Heap) (n0 : Nat) (v : Option Value) (h : Heap) (L : List Loc) : Prop := v = some (.int 0) ∧ Fr n0 L ∧ h = h0
set_option maxRecDepth 65536 in
set_option maxHeartbeats 40000000 in
theorem rm5_32 (l : Launch) (Z : State) (a0 : Array Value) (hw : HW Z a0) (ws : List Jvm.Cond) (w5 : Addr) (w4 : Addr) (h0 : Heap) (n0 : Nat) (Z0 : n0 ≤ h0.size) (F_w4_bits : Fld Z Z.heap w4 zs7 "bits" "I" (.int 4)) (P2 : Old Z n0 h0) (F_w5_bits : Fld Z Z.heap w5 zs7 "bits" "I" (.int 2)) :
    MF l Z (⟨zs7, "containsAll", zs2⟩ : MethodName) (Jvm.Cond.code (⟨zs7, "containsAll", zs2⟩ : MethodName) prog_35_method_4_code 2 (some .boolean)) ws ({ frames := 0, cells := 0, slots := 0, locals := 0 } : Room) #[(.ref w5), (.ref w4)] h0 (Q5_32 Z w5 w4 h0 n0) := by
  refine own_enter (plainFor_of_name pn_0) fun p e s m below meth c s₁ X0 hx hby hml hown hnm hZ e0 hre hlk => ?_
  have N0 := Fr.nil n0
  have pre0 : ∀ t, SF p e below s₁ (mkF m 0 #[rv w5, rv w4] []) t → SF p e below s₁ (entryFrame m #[(.ref w5), (.ref w4)] 2) t := fun t k => castTop (ef_2 m w5 w4) k
  obtain ⟨T1, X1, e1, st1⟩ := getF X0 hx hZ hown (host := "") (Or.inl (tw hw 11 rfl)) Via.refl e0 (F_w4_bits.ext P2.2) (g := (mkF m 1 #[rv w5, rv w4] [(.ref w4)])) rfl rfl (hb hby d5_1)
  obtain ⟨T2, X2, e2, st2⟩ := getF X1 hx hZ hown (host := "") (Or.inl (tw hw 11 rfl)) Via.refl e1 (F_w5_bits.ext P2.2) (g := (mkF m 5 #[rv w5, rv w4] [(.ref w5), (.int 4)])) rfl rfl (hb hby d5_5)
  obtain ⟨fs, hr, hrun, hended, hW, hsame⟩ := X2.leave (v := some (.int 0)) (fun h => by rw [hre] at h; cases h)
  refine ⟨_, _, pre0 _ ?_, hrun, hended, _, _, rfl, ?_, ⟨_, rfl⟩, hW, hsame.mono (by decide) (by decide)⟩
  · show SF p e below s₁ (mkF m 0 #[rv w5, rv w4] []) _
    refine XS.aloadN X0.here hx rfl (hb hby d5_0) rfl rfl ?_
    show SF p e below s₁ (mkF m 1 #[rv w5, rv w4] [(.ref w4)]) _
    refine st1 _ ?_
    show SF p e below T1 (mkF m 4 #[rv w5, rv w4] [(.int 4)]) _
    refine XS.aloadN X1.here hx rfl (hb hby d5_4) rfl rfl ?_
    show SF p e below T1 (mkF m 5 #[rv w5, rv w4] [(.ref w5), (.int 4)]) _
    refine st2 _ ?_
    show SF p e below T2 (mkF m 8 #[rv w5, rv w4] [(.int 2), (.int 4)]) _
    refine XS.iconst X2.here hx rfl (hb hby d5_8) ?_
    show SF p e below T2 (mkF m 9 #[rv w5, rv w4] [(.int (-1)), (.int 2), (.int 4)]) _
    refine XS.ixor X2.here hx rfl (hb hby d5_9) rfl ?_
    show SF p e below T2 (mkF m 10 #[rv w5, rv w4] [(.int ((2 : Int32) ^^^ (-1 : Int32))), (.int 4)]) _
    rw [show ((2 : Int32) ^^^ (-1 : Int32)) = (-3 : Int32) from by decide]
    show SF p e below T2 (mkF m 10 #[rv w5, rv w4] [(.int (-3)), (.int 4)]) _
    refine XS.iand X2.here hx rfl (hb hby d5_10) rfl ?_
    show SF p e below T2 (mkF m 11 #[rv w5, rv w4] [(.int ((4 : Int32) &&& (-3 : Int32)))]) _
    rw [show ((4 : Int32) &&& (-3 : Int32)) = (4 : Int32) from by decide]
    show SF p e below T2 (mkF m 11 #[rv w5, rv w4] [(.int 4)]) _
    refine XS.ifYes X2.here hx rfl (pc0 := 11) (pc' := 18) rfl (hb hby d5_11) rfl ((if0 _ _).trans (feq (by decide : ¬ ((4 : Int32) = (0 : Int32)))).2) (by decide) (by decide) ?_
    show SF p e below T2 (mkF m 18 #[rv w5, rv w4] []) _
    refine XS.iconst X2.here hx rfl (hb hby d5_18) ?_
    show SF p e below T2 (mkF m 19 #[rv w5, rv w4] [(.int 0)]) _
    exact retN X2 hx (t := .boolean) hre (by simp) (hb hby d5_19) hr
  · show Q5_32 Z w5 w4 h0 n0 _ T2.heap _
    rw [e2]
    exact ⟨rfl, N0, rfl⟩
-- Rights.letter 
def Q4_33 (Z : State) (w5 : Addr) (w4 : Addr) (h0 : Heap) (n0 : Nat) (v : Option Value) (h : Heap) (L : List Loc) : Prop := v = some (.int 45) ∧ Fr n0 L ∧ h = h0
set_option maxRecDepth 65536 in
set_option maxHeartbeats 40000000 in
theorem rm4_33 (l : Launch) (Z : State) (a0 : Array Value) (hw : HW Z a0) (ws : List Jvm.Cond) (w5 : Addr) (w4 : Addr) (h0 : Heap) (n0 : Nat) (Z0 : n0 ≤ h0.size) (E_w5 : Exa Z Z.heap w5 zs7) (P2 : Old Z n0 h0) (F_w4_bits : Fld Z Z.heap w4 zs7 "bits" "I" (.int 4)) (F_w5_bits : Fld Z Z.heap w5 zs7 "bits" "I" (.int 2)) :
    MF l Z (⟨zs7, "letter", zs3⟩ : MethodName) (Jvm.Cond.code (⟨zs7, "letter", zs3⟩ : MethodName) prog_35_method_6_code 3 (some .char)) ws ({ frames := 1, cells := 0, slots := 0, locals := 13 } : Room) #[(.ref w5), (.ref w4), (.int 114)] h0 (Q4_33 Z w5 w4 h0 n0) := by
  refine own_enter (plainFor_of_name pn_0) fun p e s m below meth c s₁ X0 hx hby hml hown hnm hZ e0 hre hlk => ?_
  have N0 := Fr.nil n0
  have pre0 : ∀ t, SF p e below s₁ (mkF m 0 #[rv w5, rv w4, iv 114] []) t → SF p e below s₁ (entryFrame m #[(.ref w5), (.ref w4), (.int 114)] 3) t := fun t k => castTop (ef_3 m w5 w4 (114 : Int32)) k
  obtain ⟨cq1, kq1, q1a, q1b, q1c⟩ := isOf hZ e0 (E_w5.ext P2.2)
  obtain ⟨_, _, ⟨T1, L1, k1x, n1⟩, -, X1, ⟨Lc1, hQ1, l1, y1, z1⟩, st1⟩ := X0.virtualBack hx (y := (⟨zs7, "containsAll", zs2⟩ : MethodName)) (z := (⟨zs7, "containsAll", zs2⟩ : MethodName)) hown (mvT hZ (tw hw 30 rfl)) (mvT hZ (tw hw 31 rfl)) (notFace_of_selects (args := #[]) (mvT hZ (tw hw 33 rfl))) (mvT hZ (tw hw 33 rfl)) (mvT hZ (tw hw 32 rfl)) (by decide) (backOf (W := 0) (rm5_32 l Z a0 hw [] w5 w4 h0 n0 Z0 F_w4_bits P2 F_w5_bits) hZ (tw hw 34 rfl) (tw hw 2 rfl) (by decide) (by decide)) q1a q1c (g := (mkF m 2 #[rv w5, rv w4, iv 114] [(.ref w4), (.ref w5)])) rfl (by rw [hml]; rfl) (Steps.refl _) (argsL := [(.ref w4)]) (rest := []) (lenOf pd_2 rfl) rfl (Nat.le_of_eq rfl) (hb hby d4_2) (fun _ _ => ⟨rfl, e0, (by decide : 0 + 0 ≤ _), (by decide : 0 + 0 ≤ _)⟩)
  dsimp only [Pt.U, Pt.locs, Pt.cells, Pt.slots] at X1 l1 y1 z1 st1 hQ1
  subst l1 y1 z1
  obtain ⟨rfl, N1q, e1⟩ := hQ1
  have N1 := Fr.app N0 N1q
  obtain ⟨fs, hr, hrun, hended, hW, hsame⟩ := X1.leave (v := some (.int 45)) (fun h => by rw [hre] at h; cases h)
  refine ⟨_, _, pre0 _ ?_, hrun, hended, _, _, rfl, ?_, ⟨_, rfl⟩, hW, hsame.mono (by decide) (by decide)⟩
  · show SF p e below s₁ (mkF m 0 #[rv w5, rv w4, iv 114] []) _
    refine XS.aloadN X0.here hx rfl (hb hby d4_0) rfl rfl ?_
    refine XS.aloadN X0.here hx rfl (hb hby d4_1) rfl rfl ?_
    show SF p e below s₁ (mkF m 2 #[rv w5, rv w4, iv 114] [(.ref w4), (.ref w5)]) _
    refine st1.trans ?_
    show SF p e below T1 (mkF m 5 #[rv w5, rv w4, iv 114] [(.int 0)]) _
    refine XS.ifYes X1.here hx rfl (pc0 := 5) (pc' := 12) rfl (hb hby d4_5) rfl ((if0 _ _).trans (teq (by decide : (0 : Int32) = (0 : Int32))).1) (by decide) (by decide) ?_
    show SF p e below T1 (mkF m 12 #[rv w5, rv w4, iv 114] []) _
    refine XS.bipush X1.here hx rfl (hb hby d4_12) ?_
    show SF p e below T1 (mkF m 14 #[rv w5, rv w4, iv 114] [(.int 45)]) _
    exact retN X1 hx (t := .char) hre (by simp) (hb hby d4_14) hr
  · show Q4_33 Z w5 w4 h0 n0 _ T1.heap _
    rw [e1]
    exact ⟨rfl, N1, rfl⟩
-- Rights.containsAll 
def Q5_34 (Z : State) (w5 : Addr) (h0 : Heap) (n0 : Nat) (v : Option Value) (h : Heap) (L : List Loc) : Prop := v = some (.int 1) ∧ Fr n0 L ∧ h = h0
set_option maxRecDepth 65536 in
set_option maxHeartbeats 40000000 in
theorem rm5_34 (l : Launch) (Z : State) (a0 : Array Value) (hw : HW Z a0) (ws : List Jvm.Cond) (w5 : Addr) (h0 : Heap) (n0 : Nat) (Z0 : n0 ≤ h0.size) (F_w5_bits : Fld Z Z.heap w5 zs7 "bits" "I" (.int 2)) (P2 : Old Z n0 h0) :
    MF l Z (⟨zs7, "containsAll", zs2⟩ : MethodName) (Jvm.Cond.code (⟨zs7, "containsAll", zs2⟩ : MethodName) prog_35_method_4_code 2 (some .boolean)) ws ({ frames := 0, cells := 0, slots := 0, locals := 0 } : Room) #[(.ref w5), (.ref w5)] h0 (Q5_34 Z w5 h0 n0) := by
  refine own_enter (plainFor_of_name pn_0) fun p e s m below meth c s₁ X0 hx hby hml hown hnm hZ e0 hre hlk => ?_
  have N0 := Fr.nil n0
  have pre0 : ∀ t, SF p e below s₁ (mkF m 0 #[rv w5, rv w5] []) t → SF p e below s₁ (entryFrame m #[(.ref w5), (.ref w5)] 2) t := fun t k => castTop (ef_2 m w5 w5) k
  obtain ⟨T1, X1, e1, st1⟩ := getF X0 hx hZ hown (host := "") (Or.inl (tw hw 11 rfl)) Via.refl e0 (F_w5_bits.ext P2.2) (g := (mkF m 1 #[rv w5, rv w5] [(.ref w5)])) rfl rfl (hb hby d5_1)
  obtain ⟨T2, X2, e2, st2⟩ := getF X1 hx hZ hown (host := "") (Or.inl (tw hw 11 rfl)) Via.refl e1 (F_w5_bits.ext P2.2) (g := (mkF m 5 #[rv w5, rv w5] [(.ref w5), (.int 2)])) rfl rfl (hb hby d5_5)
  obtain ⟨fs, hr, hrun, hended, hW, hsame⟩ := X2.leave (v := some (.int 1)) (fun h => by rw [hre] at h; cases h)
  refine ⟨_, _, pre0 _ ?_, hrun, hended, _, _, rfl, ?_, ⟨_, rfl⟩, hW, hsame.mono (by decide) (by decide)⟩
  · show SF p e below s₁ (mkF m 0 #[rv w5, rv w5] []) _
    refine XS.aloadN X0.here hx rfl (hb hby d5_0) rfl rfl ?_
    show SF p e below s₁ (mkF m 1 #[rv w5, rv w5] [(.ref w5)]) _
    refine st1 _ ?_
    show SF p e below T1 (mkF m 4 #[rv w5, rv w5] [(.int 2)]) _
    refine XS.aloadN X1.here hx rfl (hb hby d5_4) rfl rfl ?_
    show SF p e below T1 (mkF m 5 #[rv w5, rv w5] [(.ref w5), (.int 2)]) _
    refine st2 _ ?_
    show SF p e below T2 (mkF m 8 #[rv w5, rv w5] [(.int 2), (.int 2)]) _
    refine XS.iconst X2.here hx rfl (hb hby d5_8) ?_
    show SF p e below T2 (mkF m 9 #[rv w5, rv w5] [(.int (-1)), (.int 2), (.int 2)]) _
    refine XS.ixor X2.here hx rfl (hb hby d5_9) rfl ?_
    show SF p e below T2 (mkF m 10 #[rv w5, rv w5] [(.int ((2 : Int32) ^^^ (-1 : Int32))), (.int 2)]) _
    rw [show ((2 : Int32) ^^^ (-1 : Int32)) = (-3 : Int32) from by decide]
    show SF p e below T2 (mkF m 10 #[rv w5, rv w5] [(.int (-3)), (.int 2)]) _
    refine XS.iand X2.here hx rfl (hb hby d5_10) rfl ?_
    show SF p e below T2 (mkF m 11 #[rv w5, rv w5] [(.int ((2 : Int32) &&& (-3 : Int32)))]) _
    rw [show ((2 : Int32) &&& (-3 : Int32)) = (0 : Int32) from by decide]
    show SF p e below T2 (mkF m 11 #[rv w5, rv w5] [(.int 0)]) _
    refine XS.ifNo X2.here hx rfl (hb hby d5_11) rfl ((if0 _ _).trans (teq (by decide : (0 : Int32) = (0 : Int32))).2) ?_
    show SF p e below T2 (mkF m 14 #[rv w5, rv w5] []) _
    refine XS.iconst X2.here hx rfl (hb hby d5_14) ?_
    refine XS.goto X2.here hx rfl (pc0 := 15) (pc' := 19) rfl (hb hby d5_15) (by decide) (by decide) ?_
    show SF p e below T2 (mkF m 19 #[rv w5, rv w5] [(.int 1)]) _
    exact retN X2 hx (t := .boolean) hre (by simp) (hb hby d5_19) hr
  · show Q5_34 Z w5 h0 n0 _ T2.heap _
    rw [e2]
    exact ⟨rfl, N0, rfl⟩
-- Rights.letter 
def Q4_35 (Z : State) (w5 : Addr) (h0 : Heap) (n0 : Nat) (v : Option Value) (h : Heap) (L : List Loc) : Prop := v = some (.int 119) ∧ Fr n0 L ∧ h = h0
set_option maxRecDepth 65536 in
set_option maxHeartbeats 40000000 in
theorem rm4_35 (l : Launch) (Z : State) (a0 : Array Value) (hw : HW Z a0) (ws : List Jvm.Cond) (w5 : Addr) (h0 : Heap) (n0 : Nat) (Z0 : n0 ≤ h0.size) (E_w5 : Exa Z Z.heap w5 zs7) (P2 : Old Z n0 h0) (F_w5_bits : Fld Z Z.heap w5 zs7 "bits" "I" (.int 2)) :
    MF l Z (⟨zs7, "letter", zs3⟩ : MethodName) (Jvm.Cond.code (⟨zs7, "letter", zs3⟩ : MethodName) prog_35_method_6_code 3 (some .char)) ws ({ frames := 1, cells := 0, slots := 0, locals := 13 } : Room) #[(.ref w5), (.ref w5), (.int 119)] h0 (Q4_35 Z w5 h0 n0) := by
  refine own_enter (plainFor_of_name pn_0) fun p e s m below meth c s₁ X0 hx hby hml hown hnm hZ e0 hre hlk => ?_
  have N0 := Fr.nil n0
  have pre0 : ∀ t, SF p e below s₁ (mkF m 0 #[rv w5, rv w5, iv 119] []) t → SF p e below s₁ (entryFrame m #[(.ref w5), (.ref w5), (.int 119)] 3) t := fun t k => castTop (ef_3 m w5 w5 (119 : Int32)) k
  obtain ⟨cq1, kq1, q1a, q1b, q1c⟩ := isOf hZ e0 (E_w5.ext P2.2)
  obtain ⟨_, _, ⟨T1, L1, k1x, n1⟩, -, X1, ⟨Lc1, hQ1, l1, y1, z1⟩, st1⟩ := X0.virtualBack hx (y := (⟨zs7, "containsAll", zs2⟩ : MethodName)) (z := (⟨zs7, "containsAll", zs2⟩ : MethodName)) hown (mvT hZ (tw hw 30 rfl)) (mvT hZ (tw hw 31 rfl)) (notFace_of_selects (args := #[]) (mvT hZ (tw hw 33 rfl))) (mvT hZ (tw hw 33 rfl)) (mvT hZ (tw hw 32 rfl)) (by decide) (backOf (W := 0) (rm5_34 l Z a0 hw [] w5 h0 n0 Z0 F_w5_bits P2) hZ (tw hw 34 rfl) (tw hw 2 rfl) (by decide) (by decide)) q1a q1c (g := (mkF m 2 #[rv w5, rv w5, iv 119] [(.ref w5), (.ref w5)])) rfl (by rw [hml]; rfl) (Steps.refl _) (argsL := [(.ref w5)]) (rest := []) (lenOf pd_2 rfl) rfl (Nat.le_of_eq rfl) (hb hby d4_2) (fun _ _ => ⟨rfl, e0, (by decide : 0 + 0 ≤ _), (by decide : 0 + 0 ≤ _)⟩)
  dsimp only [Pt.U, Pt.locs, Pt.cells, Pt.slots] at X1 l1 y1 z1 st1 hQ1
  subst l1 y1 z1
  obtain ⟨rfl, N1q, e1⟩ := hQ1
  have N1 := Fr.app N0 N1q
  obtain ⟨fs, hr, hrun, hended, hW, hsame⟩ := X1.leave (v := some (.int 119)) (fun h => by rw [hre] at h; cases h)
  refine ⟨_, _, pre0 _ ?_, hrun, hended, _, _, rfl, ?_, ⟨_, rfl⟩, hW, hsame.mono (by decide) (by decide)⟩
  · show SF p e below s₁ (mkF m 0 #[rv w5, rv w5, iv 119] []) _
    refine XS.aloadN X0.here hx rfl (hb hby d4_0) rfl rfl ?_
    refine XS.aloadN X0.here hx rfl (hb hby d4_1) rfl rfl ?_
    show SF p e below s₁ (mkF m 2 #[rv w5, rv w5, iv 119] [(.ref w5), (.ref w5)]) _
    refine st1.trans ?_
    show SF p e below T1 (mkF m 5 #[rv w5, rv w5, iv 119] [(.int 1)]) _
    refine XS.ifNo X1.here hx rfl (hb hby d4_5) rfl ((if0 _ _).trans (feq (by decide : ¬ ((1 : Int32) = (0 : Int32)))).1) ?_
    show SF p e below T1 (mkF m 8 #[rv w5, rv w5, iv 119] []) _
    refine XS.iloadN X1.here hx rfl (hb hby d4_8) rfl ?_
    refine XS.goto X1.here hx rfl (pc0 := 9) (pc' := 14) rfl (hb hby d4_9) (by decide) (by decide) ?_
    show SF p e below T1 (mkF m 14 #[rv w5, rv w5, iv 119] [(.int 119)]) _
    exact retN X1 hx (t := .char) hre (by simp) (hb hby d4_14) hr
  · show Q4_35 Z w5 h0 n0 _ T1.heap _
    rw [e1]
    exact ⟨rfl, N1, rfl⟩
-- Rights.containsAll 
def Q5_36 (Z : State) (w5 : Addr) (w6 : Addr) (h0 : Heap) (n0 : Nat) (v : Option Value) (h : Heap) (L : List Loc) : Prop := v = some (.int 0) ∧ Fr n0 L ∧ h = h0
set_option maxRecDepth 65536 in
set_option maxHeartbeats 40000000 in
theorem rm5_36 (l : Launch) (Z : State) (a0 : Array Value) (hw : HW Z a0) (ws : List Jvm.Cond) (w5 : Addr) (w6 : Addr) (h0 : Heap) (n0 : Nat) (Z0 : n0 ≤ h0.size) (F_w6_bits : Fld Z Z.heap w6 zs7 "bits" "I" (.int 1)) (P2 : Old Z n0 h0) (F_w5_bits : Fld Z Z.heap w5 zs7 "bits" "I" (.int 2)) :
    MF l Z (⟨zs7, "containsAll", zs2⟩ : MethodName) (Jvm.Cond.code (⟨zs7, "containsAll", zs2⟩ : MethodName) prog_35_method_4_code 2 (some .boolean)) ws ({ frames := 0, cells := 0, slots := 0, locals := 0 } : Room) #[(.ref w5), (.ref w6)] h0 (Q5_36 Z w5 w6 h0 n0) := by
  refine own_enter (plainFor_of_name pn_0) fun p e s m below meth c s₁ X0 hx hby hml hown hnm hZ e0 hre hlk => ?_
  have N0 := Fr.nil n0
  have pre0 : ∀ t, SF p e below s₁ (mkF m 0 #[rv w5, rv w6] []) t → SF p e below s₁ (entryFrame m #[(.ref w5), (.ref w6)] 2) t := fun t k => castTop (ef_2 m w5 w6) k
  obtain ⟨T1, X1, e1, st1⟩ := getF X0 hx hZ hown (host := "") (Or.inl (tw hw 11 rfl)) Via.refl e0 (F_w6_bits.ext P2.2) (g := (mkF m 1 #[rv w5, rv w6] [(.ref w6)])) rfl rfl (hb hby d5_1)
  obtain ⟨T2, X2, e2, st2⟩ := getF X1 hx hZ hown (host := "") (Or.inl (tw hw 11 rfl)) Via.refl e1 (F_w5_bits.ext P2.2) (g := (mkF m 5 #[rv w5, rv w6] [(.ref w5), (.int 1)])) rfl rfl (hb hby d5_5)
  obtain ⟨fs, hr, hrun, hended, hW, hsame⟩ := X2.leave (v := some (.int 0)) (fun h => by rw [hre] at h; cases h)
  refine ⟨_, _, pre0 _ ?_, hrun, hended, _, _, rfl, ?_, ⟨_, rfl⟩, hW, hsame.mono (by decide) (by decide)⟩
  · show SF p e below s₁ (mkF m 0 #[rv w5, rv w6] []) _
    refine XS.aloadN X0.here hx rfl (hb hby d5_0) rfl rfl ?_
    show SF p e below s₁ (mkF m 1 #[rv w5, rv w6] [(.ref w6)]) _
    refine st1 _ ?_
    show SF p e below T1 (mkF m 4 #[rv w5, rv w6] [(.int 1)]) _
    refine XS.aloadN X1.here hx rfl (hb hby d5_4) rfl rfl ?_
    show SF p e below T1 (mkF m 5 #[rv w5, rv w6] [(.ref w5), (.int 1)]) _
    refine st2 _ ?_
    show SF p e below T2 (mkF m 8 #[rv w5, rv w6] [(.int 2), (.int 1)]) _
    refine XS.iconst X2.here hx rfl (hb hby d5_8) ?_
    show SF p e below T2 (mkF m 9 #[rv w5, rv w6] [(.int (-1)), (.int 2), (.int 1)]) _
    refine XS.ixor X2.here hx rfl (hb hby d5_9) rfl ?_
    show SF p e below T2 (mkF m 10 #[rv w5, rv w6] [(.int ((2 : Int32) ^^^ (-1 : Int32))), (.int 1)]) _
    rw [show ((2 : Int32) ^^^ (-1 : Int32)) = (-3 : Int32) from by decide]
    show SF p e below T2 (mkF m 10 #[rv w5, rv w6] [(.int (-3)), (.int 1)]) _
    refine XS.iand X2.here hx rfl (hb hby d5_10) rfl ?_
    show SF p e below T2 (mkF m 11 #[rv w5, rv w6] [(.int ((1 : Int32) &&& (-3 : Int32)))]) _
    rw [show ((1 : Int32) &&& (-3 : Int32)) = (1 : Int32) from by decide]
    show SF p e below T2 (mkF m 11 #[rv w5, rv w6] [(.int 1)]) _
    refine XS.ifYes X2.here hx rfl (pc0 := 11) (pc' := 18) rfl (hb hby d5_11) rfl ((if0 _ _).trans (feq (by decide : ¬ ((1 : Int32) = (0 : Int32)))).2) (by decide) (by decide) ?_
    show SF p e below T2 (mkF m 18 #[rv w5, rv w6] []) _
    refine XS.iconst X2.here hx rfl (hb hby d5_18) ?_
    show SF p e below T2 (mkF m 19 #[rv w5, rv w6] [(.int 0)]) _
    exact retN X2 hx (t := .boolean) hre (by simp) (hb hby d5_19) hr
  · show Q5_36 Z w5 w6 h0 n0 _ T2.heap _
    rw [e2]
    exact ⟨rfl, N0, rfl⟩
-- Rights.letter 
def Q4_37 (Z : State) (w5 : Addr) (w6 : Addr) (h0 : Heap) (n0 : Nat) (v : Option Value) (h : Heap) (L : List Loc) : Prop := v = some (.int 45) ∧ Fr n0 L ∧ h = h0
set_option maxRecDepth 65536 in
set_option maxHeartbeats 40000000 in
theorem rm4_37 (l : Launch) (Z : State) (a0 : Array Value) (hw : HW Z a0) (ws : List Jvm.Cond) (w5 : Addr) (w6 : Addr) (h0 : Heap) (n0 : Nat) (Z0 : n0 ≤ h0.size) (E_w5 : Exa Z Z.heap w5 zs7) (P2 : Old Z n0 h0) (F_w6_bits : Fld Z Z.heap w6 zs7 "bits" "I" (.int 1)) (F_w5_bits : Fld Z Z.heap w5 zs7 "bits" "I" (.int 2)) :
    MF l Z (⟨zs7, "letter", zs3⟩ : MethodName) (Jvm.Cond.code (⟨zs7, "letter", zs3⟩ : MethodName) prog_35_method_6_code 3 (some .char)) ws ({ frames := 1, cells := 0, slots := 0, locals := 13 } : Room) #[(.ref w5), (.ref w6), (.int 120)] h0 (Q4_37 Z w5 w6 h0 n0) := by
  refine own_enter (plainFor_of_name pn_0) fun p e s m below meth c s₁ X0 hx hby hml hown hnm hZ e0 hre hlk => ?_
  have N0 := Fr.nil n0
  have pre0 : ∀ t, SF p e below s₁ (mkF m 0 #[rv w5, rv w6, iv 120] []) t → SF p e below s₁ (entryFrame m #[(.ref w5), (.ref w6), (.int 120)] 3) t := fun t k => castTop (ef_3 m w5 w6 (120 : Int32)) k
  obtain ⟨cq1, kq1, q1a, q1b, q1c⟩ := isOf hZ e0 (E_w5.ext P2.2)
  obtain ⟨_, _, ⟨T1, L1, k1x, n1⟩, -, X1, ⟨Lc1, hQ1, l1, y1, z1⟩, st1⟩ := X0.virtualBack hx (y := (⟨zs7, "containsAll", zs2⟩ : MethodName)) (z := (⟨zs7, "containsAll", zs2⟩ : MethodName)) hown (mvT hZ (tw hw 30 rfl)) (mvT hZ (tw hw 31 rfl)) (notFace_of_selects (args := #[]) (mvT hZ (tw hw 33 rfl))) (mvT hZ (tw hw 33 rfl)) (mvT hZ (tw hw 32 rfl)) (by decide) (backOf (W := 0) (rm5_36 l Z a0 hw [] w5 w6 h0 n0 Z0 F_w6_bits P2 F_w5_bits) hZ (tw hw 34 rfl) (tw hw 2 rfl) (by decide) (by decide)) q1a q1c (g := (mkF m 2 #[rv w5, rv w6, iv 120] [(.ref w6), (.ref w5)])) rfl (by rw [hml]; rfl) (Steps.refl _) (argsL := [(.ref w6)]) (rest := []) (lenOf pd_2 rfl) rfl (Nat.le_of_eq rfl) (hb hby d4_2) (fun _ _ => ⟨rfl, e0, (by decide : 0 + 0 ≤ _), (by decide : 0 + 0 ≤ _)⟩)
  dsimp only [Pt.U, Pt.locs, Pt.cells, Pt.slots] at X1 l1 y1 z1 st1 hQ1
  subst l1 y1 z1
  obtain ⟨rfl, N1q, e1⟩ := hQ1
  have N1 := Fr.app N0 N1q
  obtain ⟨fs, hr, hrun, hended, hW, hsame⟩ := X1.leave (v := some (.int 45)) (fun h => by rw [hre] at h; cases h)
  refine ⟨_, _, pre0 _ ?_, hrun, hended, _, _, rfl, ?_, ⟨_, rfl⟩, hW, hsame.mono (by decide) (by decide)⟩
  · show SF p e below s₁ (mkF m 0 #[rv w5, rv w6, iv 120] []) _
    refine XS.aloadN X0.here hx rfl (hb hby d4_0) rfl rfl ?_
    refine XS.aloadN X0.here hx rfl (hb hby d4_1) rfl rfl ?_
    show SF p e below s₁ (mkF m 2 #[rv w5, rv w6, iv 120] [(.ref w6), (.ref w5)]) _
    refine st1.trans ?_
    show SF p e below T1 (mkF m 5 #[rv w5, rv w6, iv 120] [(.int 0)]) _
    refine XS.ifYes X1.here hx rfl (pc0 := 5) (pc' := 12) rfl (hb hby d4_5) rfl ((if0 _ _).trans (teq (by decide : (0 : Int32) = (0 : Int32))).1) (by decide) (by decide) ?_
    show SF p e below T1 (mkF m 12 #[rv w5, rv w6, iv 120] []) _
    refine XS.bipush X1.here hx rfl (hb hby d4_12) ?_
    show SF p e below T1 (mkF m 14 #[rv w5, rv w6, iv 120] [(.int 45)]) _
    exact retN X1 hx (t := .char) hre (by simp) (hb hby d4_14) hr
  · show Q4_37 Z w5 w6 h0 n0 _ T1.heap _
    rw [e1]
    exact ⟨rfl, N1, rfl⟩
-- Rights.toString 
def Q3_38 (Z : State) (w5 : Addr) (w4 : Addr) (w6 : Addr) (GC : Int32) (h0 : Heap) (n0 : Nat) (v : Option Value) (h : Heap) (L : List Loc) : Prop := ∃ e1x : Addr, ∃ e2x : Addr, ∃ e3x : ClassId, h0.size ≤ e1x ∧ h0.size ≤ e2x ∧ e1x ≠ e2x ∧ v = some (.ref e1x) ∧ Fr n0 L ∧ Keep h0 h [] ∧ Exa Z h e1x "java/lang/String" ∧ Fld Z h e1x "java/lang/String" "coder" "B" (.int 0) ∧ Fld Z h e1x "java/lang/String" "value" "[B" (.ref e2x) ∧ Arv Z h e2x e3x .byte (3 : Int32) (((([(45 : Int32), (119 : Int32), (45 : Int32)] : List Int32)).map (fun c => c.toInt8.toInt32)).map Value.int) (.int (0 : Int32))
set_option maxRecDepth 65536 in
set_option maxHeartbeats 40000000 in
theorem rm3_38 (l : Launch) (Z : State) (a0 : Array Value) (hw : HW Z a0) (ws : List Jvm.Cond) (w5 : Addr) (w4 : Addr) (w6 : Addr) (GC : Int32) (h0 : Heap) (n0 : Nat) (Z0 : n0 ≤ h0.size) (Sg7 : Sta Z Z.heap zs7 "READ" zs4 (.ref w4)) (P2 : Old Z n0 h0) (E_w5 : Exa Z Z.heap w5 zs7) (F_w4_bits : Fld Z Z.heap w4 zs7 "bits" "I" (.int 4)) (F_w5_bits : Fld Z Z.heap w5 zs7 "bits" "I" (.int 2)) (Sg9 : Sta Z Z.heap zs7 "WRITE" zs4 (.ref w5)) (Sg11 : Sta Z Z.heap zs7 "EXECUTE" zs4 (.ref w6)) (F_w6_bits : Fld Z Z.heap w6 zs7 "bits" "I" (.int 1)) (Sg0 : Sta Z Z.heap "java/lang/String" "COMPACT_STRINGS" "Z" (.int GC)) (nzGC : ¬ (GC = (0 : Int32))) :
    MF l Z (⟨zs7, "toString", zs0⟩ : MethodName) (Jvm.Cond.code (⟨zs7, "toString", zs0⟩ : MethodName) prog_35_method_5_code 1 (some (.object "java/lang/String"))) ws ({ frames := 4, cells := 3, slots := 10, locals := 66 } : Room) #[(.ref w5)] h0 (Q3_38 Z w5 w4 w6 GC h0 n0) := by
  refine own_enter (plainFor_of_name pn_0) fun p e s m below meth c s₁ X0 hx hby hml hown hnm hZ e0 hre hlk => ?_
  have N0 := Fr.nil n0
  have pre0 : ∀ t, SF p e below s₁ (mkF m 0 #[rv w5] []) t → SF p e below s₁ (entryFrame m #[(.ref w5)] 1) t := fun t k => castTop (ef_4 m w5) k
  obtain ⟨T1, h1, X1, e1, E1, A1, D1, -, st1⟩ := newO X0 hx hZ hown (tw hw 20 rfl) (tw hw 21 rfl) (tw hw 22 rfl) e0 (g := (mkF m 0 #[rv w5] [])) rfl (hb hby d3_0) (by decide) (by decide)
  obtain ⟨e1x, g1⟩ : ∃ z, z = h0.size := ⟨_, rfl⟩
  rw [← g1] at A1 D1 st1
  have K1 : Keep h0 h1 [] := (Keep.refl h0 []).ext E1
  have Fn2 : Fld Z h1 e1x "java/lang/String" "coder" "B" (.int 0) := D1 (Or.inr (tw hw 62 rfl)) (ty := .byte) (by decide)
  have Fn3 : Fld Z h1 e1x "java/lang/String" "value" "[B" .null := D1 (Or.inr (tw hw 64 rfl)) (ty := (.array .byte)) (by decide)
  obtain ⟨T4, h4, w5x, X4, e4, E4, A4, st4⟩ := newP X1 hx hZ (tw hw 23 rfl) e1 (g := (mkF m 5 #[rv w5] [(.int 3), (.ref e1x), (.ref e1x)])) rfl (hb hby d3_5) rfl (by decide) (cap := 3) (by decide) (by decide) (by decide) (by decide)
  obtain ⟨w4x, g4⟩ : ∃ z, z = h1.size := ⟨_, rfl⟩
  rw [← g4] at A4 st4
  have K4 : Keep h0 h4 [] := K1.ext E4
  have V4 : Arv Z h4 w4x w5x .char (3 : Int32) [(.int 0), (.int 0), (.int 0)] (.int (0 : Int32)) := (Arv.new A4 (by decide)).pad (pad_rep [] (.int (0 : Int32)) 3)
  have O1 : Old Z n0 h1 := P2.ext E1
  have O4 : Old Z n0 h4 := O1.ext E4
  obtain ⟨T5, X5, e5, st5⟩ := getS2 X4 hx hZ hown (host := "") (Or.inl (tw hw 24 rfl)) Via.refl e4 (Sg7.ext O4.2) (g := (mkF m 10 #[rv w5] [(.ref w5), (.int 0), (.ref w4x), (.ref w4x), (.ref e1x), (.ref e1x)])) rfl (hb hby d3_10)
  have Z1 : n0 ≤ h1.size := Nat.le_trans Z0 E1.1
  have Z4 : n0 ≤ h4.size := Nat.le_trans Z1 E4.1
  obtain ⟨cq6, q6, q6'⟩ := (E_w5.ext O4.2).cell
  obtain ⟨_, _, ⟨T6, L6, k6x, n6⟩, -, X6, ⟨Lc6, hQ6, l6, y6, z6⟩, st6⟩ := X5.privateBack hx (y := (⟨zs7, "letter", zs3⟩ : MethodName)) hown (mvT hZ (tw hw 26 rfl)) (mvT hZ (tw hw 27 rfl)) (own_selQ hZ (tw hw 9 rfl) (tw hw 28 rfl) (tw hw 27 rfl) (by decide)) (Cond.privateMethod_at (mvP hZ (tw hw 28 rfl) (args := #[]))) (mvT hZ (tw hw 29 rfl)) (by decide) (backOf (W := 5) (rm4_33 l Z a0 hw [] w5 w4 h4 n0 Z4 E_w5 O4 F_w4_bits F_w5_bits) hZ (tw hw 29 rfl) (tw hw 2 rfl) (by decide) (by decide)) (g := (mkF m 15 #[rv w5] [(.int 114), (.ref w4), (.ref w5), (.int 0), (.ref w4x), (.ref w4x), (.ref e1x), (.ref e1x)])) rfl (by rw [hml]; rfl) (Steps.refl _) (a := w5) (by rw [e5]; exact q6) q6' (argsL := [(.ref w4), (.int 114)]) (rest := [(.int 0), (.ref w4x), (.ref w4x), (.ref e1x), (.ref e1x)]) (lenOf pd_3 rfl) rfl (Nat.le_of_eq rfl) (hb hby d3_15) (fun _ _ => ⟨rfl, e5, (by decide : 2 + 0 ≤ _), (by decide : 7 + 0 ≤ _)⟩)
  dsimp only [Pt.U, Pt.locs, Pt.cells, Pt.slots] at X6 l6 y6 z6 st6 hQ6
  subst l6 y6 z6
  obtain ⟨rfl, N6q, e6⟩ := hQ6
  have N6 := Fr.app N0 N6q
  obtain ⟨cl7, Ar7, q7, S7, N7z, H7, G7⟩ := id V4
  have hin7 : ¬ ((0 : Int32) < 0 ∨ cl7.slots.size ≤ ((0 : Int32)).toNatClampNeg) := inb_of S7 ⟨by decide, by decide⟩
  obtain ⟨T8, h8, X8, e8, W8, st8⟩ := stC X6 hx hZ e6 Ar7 (j := (0 : Int32)) hin7 (g := (mkF m 18 #[rv w5] [(.int 45), (.int 0), (.ref w4x), (.ref w4x), (.ref e1x), (.ref e1x)])) rfl rfl (hb hby d3_18)
  have g_b3 : n0 ≤ w4x := Nat.le_trans Z1 (Nat.le_of_eq g4.symm)
  have sz0_b3 : h0.size ≤ w4x := Nat.le_trans K1.1 (Nat.le_of_eq g4.symm)
  have K8 : Keep h0 h8 [] := K4.wr W8 (Or.inr sz0_b3)
  have N8 := Fr.snoc X8 N6 g_b3
  have V8 : Arv Z h8 w4x w5x .char (3 : Int32) [(.int 45), (.int 0), (.int 0)] (.int (0 : Int32)) := Arv.set Ar7 q7 S7 N7z H7 G7 (by decide) W8 0 rfl (Nat.le_of_ble_eq_true rfl)
  have O8 : Old Z n0 h8 := O4.wr W8 g_b3
  obtain ⟨T9, X9, e9, st9⟩ := getS2 X8 hx hZ hown (host := "") (Or.inl (tw hw 35 rfl)) Via.refl e8 (Sg9.ext O8.2) (g := (mkF m 22 #[rv w5] [(.ref w5), (.int 1), (.ref w4x), (.ref w4x), (.ref e1x), (.ref e1x)])) rfl (hb hby d3_22)
  have Z8 : n0 ≤ h8.size := Nat.le_trans Z4 (Keep.of_wr W8).1
  obtain ⟨cq10, q10, q10'⟩ := (E_w5.ext O8.2).cell
  obtain ⟨_, _, ⟨T10, L10, k10x, n10⟩, -, X10, ⟨Lc10, hQ10, l10, y10, z10⟩, st10⟩ := X9.privateBack hx (y := (⟨zs7, "letter", zs3⟩ : MethodName)) hown (mvT hZ (tw hw 26 rfl)) (mvT hZ (tw hw 27 rfl)) (own_selQ hZ (tw hw 9 rfl) (tw hw 28 rfl) (tw hw 27 rfl) (by decide)) (Cond.privateMethod_at (mvP hZ (tw hw 28 rfl) (args := #[]))) (mvT hZ (tw hw 29 rfl)) (by decide) (backOf (W := 5) (rm4_35 l Z a0 hw [] w5 h8 n0 Z8 E_w5 O8 F_w5_bits) hZ (tw hw 29 rfl) (tw hw 2 rfl) (by decide) (by decide)) (g := (mkF m 27 #[rv w5] [(.int 119), (.ref w5), (.ref w5), (.int 1), (.ref w4x), (.ref w4x), (.ref e1x), (.ref e1x)])) rfl (by rw [hml]; rfl) (Steps.refl _) (a := w5) (by rw [e9]; exact q10) q10' (argsL := [(.ref w5), (.int 119)]) (rest := [(.int 1), (.ref w4x), (.ref w4x), (.ref e1x), (.ref e1x)]) (lenOf pd_3 rfl) rfl (Nat.le_of_eq rfl) (hb hby d3_27) (fun _ _ => ⟨rfl, e9, (by decide : 2 + 0 ≤ _), (by decide : 7 + 0 ≤ _)⟩)
  dsimp only [Pt.U, Pt.locs, Pt.cells, Pt.slots] at X10 l10 y10 z10 st10 hQ10
  subst l10 y10 z10
  obtain ⟨rfl, N10q, e10⟩ := hQ10
  have N10 := Fr.app N8 N10q
  obtain ⟨cl11, Ar11, q11, S11, N11z, H11, G11⟩ := id V8
  have hin11 : ¬ ((1 : Int32) < 0 ∨ cl11.slots.size ≤ ((1 : Int32)).toNatClampNeg) := inb_of S11 ⟨by decide, by decide⟩
  obtain ⟨T12, h12, X12, e12, W12, st12⟩ := stC X10 hx hZ e10 Ar11 (j := (1 : Int32)) hin11 (g := (mkF m 30 #[rv w5] [(.int 119), (.int 1), (.ref w4x), (.ref w4x), (.ref e1x), (.ref e1x)])) rfl rfl (hb hby d3_30)
  have K12 : Keep h0 h12 [] := K8.wr W12 (Or.inr sz0_b3)
  have N12 := Fr.snoc X12 N10 g_b3
  have V12 : Arv Z h12 w4x w5x .char (3 : Int32) [(.int 45), (.int 119), (.int 0)] (.int (0 : Int32)) := Arv.set Ar11 q11 S11 N11z H11 G11 (by decide) W12 1 rfl (Nat.le_of_ble_eq_true rfl)
  have O12 : Old Z n0 h12 := O8.wr W12 g_b3
  obtain ⟨T13, X13, e13, st13⟩ := getS2 X12 hx hZ hown (host := "") (Or.inl (tw hw 37 rfl)) Via.refl e12 (Sg11.ext O12.2) (g := (mkF m 34 #[rv w5] [(.ref w5), (.int 2), (.ref w4x), (.ref w4x), (.ref e1x), (.ref e1x)])) rfl (hb hby d3_34)
  have Z12 : n0 ≤ h12.size := Nat.le_trans Z8 (Keep.of_wr W12).1
  obtain ⟨cq14, q14, q14'⟩ := (E_w5.ext O12.2).cell
  obtain ⟨_, _, ⟨T14, L14, k14x, n14⟩, -, X14, ⟨Lc14, hQ14, l14, y14, z14⟩, st14⟩ := X13.privateBack hx (y := (⟨zs7, "letter", zs3⟩ : MethodName)) hown (mvT hZ (tw hw 26 rfl)) (mvT hZ (tw hw 27 rfl)) (own_selQ hZ (tw hw 9 rfl) (tw hw 28 rfl) (tw hw 27 rfl) (by decide)) (Cond.privateMethod_at (mvP hZ (tw hw 28 rfl) (args := #[]))) (mvT hZ (tw hw 29 rfl)) (by decide) (backOf (W := 5) (rm4_37 l Z a0 hw [] w5 w6 h12 n0 Z12 E_w5 O12 F_w6_bits F_w5_bits) hZ (tw hw 29 rfl) (tw hw 2 rfl) (by decide) (by decide)) (g := (mkF m 39 #[rv w5] [(.int 120), (.ref w6), (.ref w5), (.int 2), (.ref w4x), (.ref w4x), (.ref e1x), (.ref e1x)])) rfl (by rw [hml]; rfl) (Steps.refl _) (a := w5) (by rw [e13]; exact q14) q14' (argsL := [(.ref w6), (.int 120)]) (rest := [(.int 2), (.ref w4x), (.ref w4x), (.ref e1x), (.ref e1x)]) (lenOf pd_3 rfl) rfl (Nat.le_of_eq rfl) (hb hby d3_39) (fun _ _ => ⟨rfl, e13, (by decide : 2 + 0 ≤ _), (by decide : 7 + 0 ≤ _)⟩)
  dsimp only [Pt.U, Pt.locs, Pt.cells, Pt.slots] at X14 l14 y14 z14 st14 hQ14
  subst l14 y14 z14
  obtain ⟨rfl, N14q, e14⟩ := hQ14
  have N14 := Fr.app N12 N14q
  obtain ⟨cl15, Ar15, q15, S15, N15z, H15, G15⟩ := id V12
  have hin15 : ¬ ((2 : Int32) < 0 ∨ cl15.slots.size ≤ ((2 : Int32)).toNatClampNeg) := inb_of S15 ⟨by decide, by decide⟩
  obtain ⟨T16, h16, X16, e16, W16, st16⟩ := stC X14 hx hZ e14 Ar15 (j := (2 : Int32)) hin15 (g := (mkF m 42 #[rv w5] [(.int 45), (.int 2), (.ref w4x), (.ref w4x), (.ref e1x), (.ref e1x)])) rfl rfl (hb hby d3_42)
  have K16 : Keep h0 h16 [] := K12.wr W16 (Or.inr sz0_b3)
  have N16 := Fr.snoc X16 N14 g_b3
  have V16 : Arv Z h16 w4x w5x .char (3 : Int32) [(.int 45), (.int 119), (.int 45)] (.int (0 : Int32)) := Arv.set Ar15 q15 S15 N15z H15 G15 (by decide) W16 2 rfl (Nat.le_of_ble_eq_true rfl)
  have F2_17 : Exa Z h4 e1x "java/lang/String" := A1.ext E4
  have F3_18 : Exa Z h8 e1x "java/lang/String" := F2_17.wr W8
  have F4_19 : Exa Z h12 e1x "java/lang/String" := F3_18.wr W12
  have F5_20 : Exa Z h16 e1x "java/lang/String" := F4_19.wr W16
  have F2_21 : Fld Z h4 e1x "java/lang/String" "value" "[B" .null := Fn3.ext E4
  have F3_22 : Fld Z h8 e1x "java/lang/String" "value" "[B" .null := F2_21.other W8 (Or.inl (Nat.ne_of_lt (Nat.lt_of_lt_of_le A1.lt (Nat.le_of_eq g4.symm))))
  have F4_23 : Fld Z h12 e1x "java/lang/String" "value" "[B" .null := F3_22.other W12 (Or.inl (Nat.ne_of_lt (Nat.lt_of_lt_of_le A1.lt (Nat.le_of_eq g4.symm))))
  have F5_24 : Fld Z h16 e1x "java/lang/String" "value" "[B" .null := F4_23.other W16 (Or.inl (Nat.ne_of_lt (Nat.lt_of_lt_of_le A1.lt (Nat.le_of_eq g4.symm))))
  have F2_25 : Fld Z h4 e1x "java/lang/String" "coder" "B" (.int 0) := Fn2.ext E4
  have F3_26 : Fld Z h8 e1x "java/lang/String" "coder" "B" (.int 0) := F2_25.other W8 (Or.inl (Nat.ne_of_lt (Nat.lt_of_lt_of_le A1.lt (Nat.le_of_eq g4.symm))))
  have F4_27 : Fld Z h12 e1x "java/lang/String" "coder" "B" (.int 0) := F3_26.other W12 (Or.inl (Nat.ne_of_lt (Nat.lt_of_lt_of_le A1.lt (Nat.le_of_eq g4.symm))))
  have F5_28 : Fld Z h16 e1x "java/lang/String" "coder" "B" (.int 0) := F4_27.other W16 (Or.inl (Nat.ne_of_lt (Nat.lt_of_lt_of_le A1.lt (Nat.le_of_eq g4.symm))))
  have hwwords : ∀ d ∈ StrChars.Road.words, d.before a0 Z = true := fun d hd => hw d (own_words d hd)
  have hp29 : ∀ c ∈ ([(45 : Int32), (119 : Int32), (45 : Int32)] : List Int32), ¬ c < 0 ∧ ¬ (255 : Int32) < c := by
    intro c hc
    simp only [List.mem_cons, List.not_mem_nil, or_false] at hc
    rcases hc with rfl | rfl | rfl
    · decide
    · decide
    · decide
  have O16 : Old Z n0 h16 := O12.wr W16 g_b3
  have g_b1 : n0 ≤ e1x := Nat.le_trans Z0 (Nat.le_of_eq g1.symm)
  have Z16 : n0 ≤ h16.size := Nat.le_trans Z12 (Keep.of_wr W16).1
  obtain ⟨_, _, ⟨T30, L30, k30x, n30⟩, -, X30, ⟨Lc30, hQ30, l30, y30, z30⟩, st30⟩ := X16.specialBack hx (y := (⟨"java/lang/String", "<init>", "([C)V"⟩ : MethodName)) rfl hown (mvT hZ (tw hw 39 rfl)) (mvT hZ (tw hw 40 rfl)) (mvT hZ (tw hw 41 rfl)) (by decide) (StrChars.Road.backV (W := 1) hZ hwwords (kI := 4) (tw hw 21 rfl) (cs := ([(45 : Int32), (119 : Int32), (45 : Int32)] : List Int32)) (bs := ((([(45 : Int32), (119 : Int32), (45 : Int32)] : List Int32)).map (fun c => c.toInt8.toInt32))) (n := 3) g_b1 Z16 F5_20 F5_24 F5_28 V16 (Sg0.ext O16.2) nzGC rfl rfl (by decide) (by decide) hp29 rfl (by decide) (by decide)) (g := (mkF m 43 #[rv w5] [(.ref w4x), (.ref e1x), (.ref e1x)])) rfl (by rw [hml]; rfl) (Steps.refl _) (a := e1x) (argsL := [(.ref w4x)]) (rest := [(.ref e1x)]) (lenOf pd_4 rfl) rfl (Nat.le_of_eq rfl) (hb hby d3_43) (fun _ _ => ⟨rfl, e16, (by decide : 2 + 1 ≤ _), (by decide : 7 + 3 ≤ _)⟩)
  dsimp only [Pt.U, Pt.locs, Pt.cells, Pt.slots] at X30 l30 y30 z30 st30 hQ30
  subst l30 y30 z30
  obtain ⟨rfl, N30q, K30c, Fx30, Fc30, e2x, e3x, gt30, bz_b4, ne30, Fv30, Va30⟩ := hQ30
  have sz0_b1 : h0.size ≤ e1x := Nat.le_trans (Keep.refl h0 []).1 (Nat.le_of_eq g1.symm)
  have K30 : Keep h0 T30.heap [] := K16.trans K30c (allS (Or.inr sz0_b1) all0)
  have N30 := Fr.app N16 N30q
  have sz0_b4 : h0.size ≤ e2x := Nat.le_trans K16.1 bz_b4
  have lt_b1_2 : e1x < h4.size := Nat.lt_of_lt_of_le A1.lt E4.1
  have lt_b1_3 : e1x < h8.size := Nat.lt_of_lt_of_le lt_b1_2 (Keep.of_wr W8).1
  have lt_b1_4 : e1x < h12.size := Nat.lt_of_lt_of_le lt_b1_3 (Keep.of_wr W12).1
  have lt_b1_5 : e1x < h16.size := Nat.lt_of_lt_of_le lt_b1_4 (Keep.of_wr W16).1
  obtain ⟨fs, hr, hrun, hended, hW, hsame⟩ := X30.leave (v := some (.ref e1x)) (fun h => by rw [hre] at h; cases h)
  refine ⟨_, _, pre0 _ ?_, hrun, hended, _, _, rfl, ?_, ⟨_, rfl⟩, hW, hsame.mono (by decide) (by decide)⟩
  · show SF p e below s₁ (mkF m 0 #[rv w5] []) _
    refine st1 _ ?_
    show SF p e below T1 (mkF m 3 #[rv w5] [(.ref e1x)]) _
    refine XS.dup X1.here hx rfl (hb hby d3_3) rfl rfl ?_
    refine XS.iconst X1.here hx rfl (hb hby d3_4) ?_
    show SF p e below T1 (mkF m 5 #[rv w5] [(.int 3), (.ref e1x), (.ref e1x)]) _
    refine st4 _ ?_
    show SF p e below T4 (mkF m 7 #[rv w5] [(.ref w4x), (.ref e1x), (.ref e1x)]) _
    refine XS.dup X4.here hx rfl (hb hby d3_7) rfl rfl ?_
    refine XS.iconst X4.here hx rfl (hb hby d3_8) ?_
    show SF p e below T4 (mkF m 9 #[rv w5] [(.int 0), (.ref w4x), (.ref w4x), (.ref e1x), (.ref e1x)]) _
    refine XS.aloadN X4.here hx rfl (hb hby d3_9) rfl rfl ?_
    show SF p e below T4 (mkF m 10 #[rv w5] [(.ref w5), (.int 0), (.ref w4x), (.ref w4x), (.ref e1x), (.ref e1x)]) _
    refine st5 _ ?_
    show SF p e below T5 (mkF m 13 #[rv w5] [(.ref w4), (.ref w5), (.int 0), (.ref w4x), (.ref w4x), (.ref e1x), (.ref e1x)]) _
    refine XS.bipush X5.here hx rfl (hb hby d3_13) ?_
    show SF p e below T5 (mkF m 15 #[rv w5] [(.int 114), (.ref w4), (.ref w5), (.int 0), (.ref w4x), (.ref w4x), (.ref e1x), (.ref e1x)]) _
    refine st6.trans ?_
    show SF p e below T6 (mkF m 18 #[rv w5] [(.int 45), (.int 0), (.ref w4x), (.ref w4x), (.ref e1x), (.ref e1x)]) _
    refine st8 _ ?_
    show SF p e below T8 (mkF m 19 #[rv w5] [(.ref w4x), (.ref e1x), (.ref e1x)]) _
    refine XS.dup X8.here hx rfl (hb hby d3_19) rfl rfl ?_
    refine XS.iconst X8.here hx rfl (hb hby d3_20) ?_
    show SF p e below T8 (mkF m 21 #[rv w5] [(.int 1), (.ref w4x), (.ref w4x), (.ref e1x), (.ref e1x)]) _
    refine XS.aloadN X8.here hx rfl (hb hby d3_21) rfl rfl ?_
    show SF p e below T8 (mkF m 22 #[rv w5] [(.ref w5), (.int 1), (.ref w4x), (.ref w4x), (.ref e1x), (.ref e1x)]) _
    refine st9 _ ?_
    show SF p e below T9 (mkF m 25 #[rv w5] [(.ref w5), (.ref w5), (.int 1), (.ref w4x), (.ref w4x), (.ref e1x), (.ref e1x)]) _
    refine XS.bipush X9.here hx rfl (hb hby d3_25) ?_
    show SF p e below T9 (mkF m 27 #[rv w5] [(.int 119), (.ref w5), (.ref w5), (.int 1), (.ref w4x), (.ref w4x), (.ref e1x), (.ref e1x)]) _
    refine st10.trans ?_
    show SF p e below T10 (mkF m 30 #[rv w5] [(.int 119), (.int 1), (.ref w4x), (.ref w4x), (.ref e1x), (.ref e1x)]) _
    refine st12 _ ?_
    show SF p e below T12 (mkF m 31 #[rv w5] [(.ref w4x), (.ref e1x), (.ref e1x)]) _
    refine XS.dup X12.here hx rfl (hb hby d3_31) rfl rfl ?_
    refine XS.iconst X12.here hx rfl (hb hby d3_32) ?_
    show SF p e below T12 (mkF m 33 #[rv w5] [(.int 2), (.ref w4x), (.ref w4x), (.ref e1x), (.ref e1x)]) _
    refine XS.aloadN X12.here hx rfl (hb hby d3_33) rfl rfl ?_
    show SF p e below T12 (mkF m 34 #[rv w5] [(.ref w5), (.int 2), (.ref w4x), (.ref w4x), (.ref e1x), (.ref e1x)]) _
    refine st13 _ ?_
    show SF p e below T13 (mkF m 37 #[rv w5] [(.ref w6), (.ref w5), (.int 2), (.ref w4x), (.ref w4x), (.ref e1x), (.ref e1x)]) _
    refine XS.bipush X13.here hx rfl (hb hby d3_37) ?_
    show SF p e below T13 (mkF m 39 #[rv w5] [(.int 120), (.ref w6), (.ref w5), (.int 2), (.ref w4x), (.ref w4x), (.ref e1x), (.ref e1x)]) _
    refine st14.trans ?_
    show SF p e below T14 (mkF m 42 #[rv w5] [(.int 45), (.int 2), (.ref w4x), (.ref w4x), (.ref e1x), (.ref e1x)]) _
    refine st16 _ ?_
    show SF p e below T16 (mkF m 43 #[rv w5] [(.ref w4x), (.ref e1x), (.ref e1x)]) _
    refine st30.trans ?_
    show SF p e below T30 (mkF m 46 #[rv w5] [(.ref e1x)]) _
    exact own_retR X30 hx hre rfl rfl (hb hby d3_46) hr
  · show Q3_38 Z w5 w4 w6 GC h0 n0 _ T30.heap _
    exact ⟨e1x, e2x, e3x, sz0_b1, sz0_b4, (Nat.ne_of_lt (Nat.lt_of_lt_of_le lt_b1_5 bz_b4)), rfl, N30, K30, Fx30, Fc30, Fv30, Va30⟩
-- RightsOfPinLaw.expect 
def Q19_39 (Z : State)  (h0 : Heap) (n0 : Nat) (v : Option Value) (h : Heap) (L : List Loc) : Prop := v = some (.int 45) ∧ Fr n0 L ∧ h = h0
set_option maxRecDepth 65536 in
set_option maxHeartbeats 40000000 in
theorem rm19_39 (l : Launch) (Z : State) (a0 : Array Value) (hw : HW Z a0) (ws : List Jvm.Cond)  (h0 : Heap) (n0 : Nat) (Z0 : n0 ≤ h0.size) :
    MF l Z (⟨zs8, "expect", "(IIC)C"⟩ : MethodName) (Jvm.Cond.code (⟨zs8, "expect", "(IIC)C"⟩ : MethodName) method_2_code 3 (some .char)) ws ({ frames := 0, cells := 0, slots := 0, locals := 0 } : Room) #[(.int 2), (.int 4), (.int 114)] h0 (Q19_39 Z  h0 n0) := by
  refine own_enter (plainFor_of_name pn_1) fun p e s m below meth c s₁ X0 hx hby hml hown hnm hZ e0 hre hlk => ?_
  have N0 := Fr.nil n0
  have pre0 : ∀ t, SF p e below s₁ (mkF m 0 #[iv 2, iv 4, iv 114] []) t → SF p e below s₁ (entryFrame m #[(.int 2), (.int 4), (.int 114)] 3) t := fun t k => castTop (ef_5 m (2 : Int32) (4 : Int32) (114 : Int32)) k
  obtain ⟨fs, hr, hrun, hended, hW, hsame⟩ := X0.leave (v := some (.int 45)) (fun h => by rw [hre] at h; cases h)
  refine ⟨_, _, pre0 _ ?_, hrun, hended, _, _, rfl, ?_, ⟨_, rfl⟩, hW, hsame.mono (by decide) (by decide)⟩
  · show SF p e below s₁ (mkF m 0 #[iv 2, iv 4, iv 114] []) _
    refine XS.iloadN X0.here hx rfl (hb hby d19_0) rfl ?_
    refine XS.iloadN X0.here hx rfl (hb hby d19_1) rfl ?_
    show SF p e below s₁ (mkF m 2 #[iv 2, iv 4, iv 114] [(.int 4), (.int 2)]) _
    refine XS.iand X0.here hx rfl (hb hby d19_2) rfl ?_
    show SF p e below s₁ (mkF m 3 #[iv 2, iv 4, iv 114] [(.int ((2 : Int32) &&& (4 : Int32)))]) _
    rw [show ((2 : Int32) &&& (4 : Int32)) = (0 : Int32) from by decide]
    show SF p e below s₁ (mkF m 3 #[iv 2, iv 4, iv 114] [(.int 0)]) _
    refine XS.ifYes X0.here hx rfl (pc0 := 3) (pc' := 10) rfl (hb hby d19_3) rfl ((if0 _ _).trans (teq (by decide : (0 : Int32) = (0 : Int32))).1) (by decide) (by decide) ?_
    show SF p e below s₁ (mkF m 10 #[iv 2, iv 4, iv 114] []) _
    refine XS.bipush X0.here hx rfl (hb hby d19_10) ?_
    show SF p e below s₁ (mkF m 12 #[iv 2, iv 4, iv 114] [(.int 45)]) _
    exact retN X0 hx (t := .char) hre (by simp) (hb hby d19_12) hr
  · show Q19_39 Z  h0 n0 _ s₁.heap _
    rw [e0]
    exact ⟨rfl, N0, rfl⟩
-- RightsOfPinLaw.expect 
def Q19_40 (Z : State)  (h0 : Heap) (n0 : Nat) (v : Option Value) (h : Heap) (L : List Loc) : Prop := v = some (.int 119) ∧ Fr n0 L ∧ h = h0
set_option maxRecDepth 65536 in
set_option maxHeartbeats 40000000 in
theorem rm19_40 (l : Launch) (Z : State) (a0 : Array Value) (hw : HW Z a0) (ws : List Jvm.Cond)  (h0 : Heap) (n0 : Nat) (Z0 : n0 ≤ h0.size) :
    MF l Z (⟨zs8, "expect", "(IIC)C"⟩ : MethodName) (Jvm.Cond.code (⟨zs8, "expect", "(IIC)C"⟩ : MethodName) method_2_code 3 (some .char)) ws ({ frames := 0, cells := 0, slots := 0, locals := 0 } : Room) #[(.int 2), (.int 2), (.int 119)] h0 (Q19_40 Z  h0 n0) := by
  refine own_enter (plainFor_of_name pn_1) fun p e s m below meth c s₁ X0 hx hby hml hown hnm hZ e0 hre hlk => ?_
  have N0 := Fr.nil n0
  have pre0 : ∀ t, SF p e below s₁ (mkF m 0 #[iv 2, iv 2, iv 119] []) t → SF p e below s₁ (entryFrame m #[(.int 2), (.int 2), (.int 119)] 3) t := fun t k => castTop (ef_5 m (2 : Int32) (2 : Int32) (119 : Int32)) k
  obtain ⟨fs, hr, hrun, hended, hW, hsame⟩ := X0.leave (v := some (.int 119)) (fun h => by rw [hre] at h; cases h)
  refine ⟨_, _, pre0 _ ?_, hrun, hended, _, _, rfl, ?_, ⟨_, rfl⟩, hW, hsame.mono (by decide) (by decide)⟩
  · show SF p e below s₁ (mkF m 0 #[iv 2, iv 2, iv 119] []) _
    refine XS.iloadN X0.here hx rfl (hb hby d19_0) rfl ?_
    refine XS.iloadN X0.here hx rfl (hb hby d19_1) rfl ?_
    show SF p e below s₁ (mkF m 2 #[iv 2, iv 2, iv 119] [(.int 2), (.int 2)]) _
    refine XS.iand X0.here hx rfl (hb hby d19_2) rfl ?_
    show SF p e below s₁ (mkF m 3 #[iv 2, iv 2, iv 119] [(.int ((2 : Int32) &&& (2 : Int32)))]) _
    rw [show ((2 : Int32) &&& (2 : Int32)) = (2 : Int32) from by decide]
    show SF p e below s₁ (mkF m 3 #[iv 2, iv 2, iv 119] [(.int 2)]) _
    refine XS.ifNo X0.here hx rfl (hb hby d19_3) rfl ((if0 _ _).trans (feq (by decide : ¬ ((2 : Int32) = (0 : Int32)))).1) ?_
    show SF p e below s₁ (mkF m 6 #[iv 2, iv 2, iv 119] []) _
    refine XS.iloadN X0.here hx rfl (hb hby d19_6) rfl ?_
    refine XS.goto X0.here hx rfl (pc0 := 7) (pc' := 12) rfl (hb hby d19_7) (by decide) (by decide) ?_
    show SF p e below s₁ (mkF m 12 #[iv 2, iv 2, iv 119] [(.int 119)]) _
    exact retN X0 hx (t := .char) hre (by simp) (hb hby d19_12) hr
  · show Q19_40 Z  h0 n0 _ s₁.heap _
    rw [e0]
    exact ⟨rfl, N0, rfl⟩
-- RightsOfPinLaw.expect 
def Q19_41 (Z : State)  (h0 : Heap) (n0 : Nat) (v : Option Value) (h : Heap) (L : List Loc) : Prop := v = some (.int 45) ∧ Fr n0 L ∧ h = h0
set_option maxRecDepth 65536 in
set_option maxHeartbeats 40000000 in
theorem rm19_41 (l : Launch) (Z : State) (a0 : Array Value) (hw : HW Z a0) (ws : List Jvm.Cond)  (h0 : Heap) (n0 : Nat) (Z0 : n0 ≤ h0.size) :
    MF l Z (⟨zs8, "expect", "(IIC)C"⟩ : MethodName) (Jvm.Cond.code (⟨zs8, "expect", "(IIC)C"⟩ : MethodName) method_2_code 3 (some .char)) ws ({ frames := 0, cells := 0, slots := 0, locals := 0 } : Room) #[(.int 2), (.int 1), (.int 120)] h0 (Q19_41 Z  h0 n0) := by
  refine own_enter (plainFor_of_name pn_1) fun p e s m below meth c s₁ X0 hx hby hml hown hnm hZ e0 hre hlk => ?_
  have N0 := Fr.nil n0
  have pre0 : ∀ t, SF p e below s₁ (mkF m 0 #[iv 2, iv 1, iv 120] []) t → SF p e below s₁ (entryFrame m #[(.int 2), (.int 1), (.int 120)] 3) t := fun t k => castTop (ef_5 m (2 : Int32) (1 : Int32) (120 : Int32)) k
  obtain ⟨fs, hr, hrun, hended, hW, hsame⟩ := X0.leave (v := some (.int 45)) (fun h => by rw [hre] at h; cases h)
  refine ⟨_, _, pre0 _ ?_, hrun, hended, _, _, rfl, ?_, ⟨_, rfl⟩, hW, hsame.mono (by decide) (by decide)⟩
  · show SF p e below s₁ (mkF m 0 #[iv 2, iv 1, iv 120] []) _
    refine XS.iloadN X0.here hx rfl (hb hby d19_0) rfl ?_
    refine XS.iloadN X0.here hx rfl (hb hby d19_1) rfl ?_
    show SF p e below s₁ (mkF m 2 #[iv 2, iv 1, iv 120] [(.int 1), (.int 2)]) _
    refine XS.iand X0.here hx rfl (hb hby d19_2) rfl ?_
    show SF p e below s₁ (mkF m 3 #[iv 2, iv 1, iv 120] [(.int ((2 : Int32) &&& (1 : Int32)))]) _
    rw [show ((2 : Int32) &&& (1 : Int32)) = (0 : Int32) from by decide]
    show SF p e below s₁ (mkF m 3 #[iv 2, iv 1, iv 120] [(.int 0)]) _
    refine XS.ifYes X0.here hx rfl (pc0 := 3) (pc' := 10) rfl (hb hby d19_3) rfl ((if0 _ _).trans (teq (by decide : (0 : Int32) = (0 : Int32))).1) (by decide) (by decide) ?_
    show SF p e below s₁ (mkF m 10 #[iv 2, iv 1, iv 120] []) _
    refine XS.bipush X0.here hx rfl (hb hby d19_10) ?_
    show SF p e below s₁ (mkF m 12 #[iv 2, iv 1, iv 120] [(.int 45)]) _
    exact retN X0 hx (t := .char) hre (by simp) (hb hby d19_12) hr
  · show Q19_41 Z  h0 n0 _ s₁.heap _
    rw [e0]
    exact ⟨rfl, N0, rfl⟩
set_option maxRecDepth 65536 in
set_option maxHeartbeats 400000000 in
theorem pc_8 {p : Program} {l : Launch} {e : Env} {s : State} {m : MethodId} {below : List Frame} {meth : Method} {c : Code} {T0 : State} {locs : List Loc} {Z : State} {a0 : Array Value} {h0 : Heap} {n0 : Nat} {p0s : Int32} {p1s : Int32} {GC : Int32} {GF : Value} {w4 : Addr} {w5 : Addr} {w6 : Addr} {dv3 : Int32} {dv5 : Addr} (X0 : Stand p l e room_1 s m #[(.int p0s), (.int p1s)] below meth c T0 locs 0 0) (hx : p.tables.exec = Jvm.exec) (hZ : Z.Warmed39 s.vm) (hw : HW Z a0) (hby : c.code = code) (hml : c.maxLocals = 7) (hown : s.vm.findClass zs8 = some m.cls) (hre : meth.sig.returnType = some .boolean) (hlk : meth.locks = false) (e0 : T0.heap = h0) (N0 : Fr n0 locs) (Z0 : n0 ≤ h0.size) (O0 : Old Z n0 h0) (Sg0 : Sta Z Z.heap "java/lang/String" "COMPACT_STRINGS" "Z" (.int GC)) (Sg1 : Sta Z Z.heap zs9 "SIOOBE_FORMATTER" zs5 GF) (rGF : GF.isRef = true) (nzGC : ¬ (GC = (0 : Int32))) (Sg7 : Sta Z Z.heap zs7 "READ" zs4 (.ref w4)) (Sg9 : Sta Z Z.heap zs7 "WRITE" zs4 (.ref w5)) (E_w5 : Exa Z Z.heap w5 zs7) (Sg11 : Sta Z Z.heap zs7 "EXECUTE" zs4 (.ref w6)) (F_w4_bits : Fld Z Z.heap w4 zs7 "bits" "I" (.int 4)) (F_w5_bits : Fld Z Z.heap w5 zs7 "bits" "I" (.int 2)) (F_w6_bits : Fld Z Z.heap w6 zs7 "bits" "I" (.int 1)) :
    Fine p e below s n0 (T0.setTop (mkF m 72 #[iv p0s, iv p1s, iv 2, iv dv3, rv w5, rv dv5, .unset] [])) := by
  obtain ⟨T1, X1, e1, st1⟩ := getS2 X0 hx hZ hown (host := "") (Or.inl (tw hw 103 rfl)) Via.refl e0 (Sg9.ext O0.2) (g := (mkF m 108 #[iv p0s, iv p1s, iv 2, iv dv3, rv w5, rv dv5, .unset] [(.ref w5)])) rfl (hb hby at_108)
  obtain ⟨cq2, kq2, q2a, q2b, q2c⟩ := isOf hZ e1 (E_w5.ext O0.2)
  obtain ⟨_, _, ⟨T2, L2, k2x, n2⟩, -, X2, ⟨Lc2, hQ2, l2, y2, z2⟩, st2⟩ := X1.virtualBack hx (y := (⟨zs7, "toString", zs0⟩ : MethodName)) (z := (⟨zs7, "toString", zs0⟩ : MethodName)) hown (mvT hZ (tw hw 15 rfl)) (mvT hZ (tw hw 16 rfl)) (notFace_of_selects (args := #[]) (mvT hZ (tw hw 18 rfl))) (mvT hZ (tw hw 18 rfl)) (mvT hZ (tw hw 17 rfl)) (by decide) (backOf (W := 0) (rm3_38 l Z a0 hw [] w5 w4 w6 GC h0 n0 Z0 Sg7 O0 E_w5 F_w4_bits F_w5_bits Sg9 Sg11 F_w6_bits Sg0 nzGC) hZ (tw hw 19 rfl) (tw hw 2 rfl) (by decide) (by decide)) q2a q2c (g := (mkF m 133 #[iv p0s, iv p1s, iv 2, iv dv3, rv w5, rv dv5, .unset] [(.ref w5)])) rfl (by rw [hml]; rfl) (Steps.refl _) (argsL := []) (rest := []) (lenOf pd_5 rfl) rfl (Nat.le_of_eq rfl) (hb hby at_133) (fun _ _ => ⟨rfl, e1, (by decide : 0 + 3 ≤ _), (by decide : 0 + 10 ≤ _)⟩)
  dsimp only [Pt.U, Pt.locs, Pt.cells, Pt.slots] at X2 l2 y2 z2 st2 hQ2
  subst l2 y2 z2
  obtain ⟨b6, b7, k8, bz_b6, bz_b7, bn2_0, rfl, N2q, K2c, Fq2_0, Fq2_1, Fq2_2, Fq2_3⟩ := hQ2
  have N2 := Fr.app N0 N2q
  have hwwordsLen : ∀ d ∈ StrChars.Road.wordsLen, d.before a0 Z = true := fun d hd => hw d (own_wordsLen d hd)
  have hp3 : ∀ c ∈ ([(45 : Int32), (119 : Int32), (45 : Int32)] : List Int32), ¬ c < 0 ∧ ¬ (255 : Int32) < c := by
    intro c hc
    simp only [List.mem_cons, List.not_mem_nil, or_false] at hc
    rcases hc with rfl | rfl | rfl
    · decide
    · decide
    · decide
  have hcd4 : StrChars.Road.CodA ([(45 : Int32), (119 : Int32), (45 : Int32)] : List Int32) 0 (3 : Int32) (((([(45 : Int32), (119 : Int32), (45 : Int32)] : List Int32)).map (fun c => c.toInt8.toInt32)).map Value.int) := StrChars.Road.codOf (n := 3) rfl (fun c hc => (hp3 c hc).2)
  have hbd4 : ∀ c ∈ ([(45 : Int32), (119 : Int32), (45 : Int32)] : List Int32), ¬ c < 0 ∧ ¬ (65535 : Int32) < c := own_up _ hp3
  have O2 : Old Z n0 T2.heap := O0.keep K2c all0
  obtain ⟨cq5, kq5, q5a, q5b, q5c⟩ := isOf hZ rfl Fq2_0
  obtain ⟨_, _, ⟨T5, L5, k5x, n5⟩, -, X5, ⟨Lc5, hQ5, l5, y5, z5⟩, st5⟩ := X2.virtualBack hx (y := (⟨"java/lang/String", "length", "()I"⟩ : MethodName)) (z := (⟨"java/lang/String", "length", "()I"⟩ : MethodName)) hown (mvT hZ (tw hw 65 rfl)) (mvT hZ (tw hw 66 rfl)) (notFace_of_selects (args := #[]) (mvT hZ (tw hw 68 rfl))) (mvT hZ (tw hw 68 rfl)) (mvT hZ (tw hw 67 rfl)) (by decide) (StrChars.Road.lenW (W := 0) hZ hwwordsLen (kI := 4) (tw hw 21 rfl) Fq2_0 Fq2_2 Fq2_1 Fq2_3 hcd4 hbd4 (Sg0.ext O2.2) nzGC (Nat.le_of_ble_eq_true rfl) (by decide) (by decide)) q5a q5c (g := (mkF m 140 #[iv p0s, iv p1s, iv 2, iv dv3, rv w5, rv dv5, rv b6] [(.ref b6)])) rfl (by rw [hml]; rfl) (Steps.refl _) (argsL := []) (rest := []) (lenOf pd_1 rfl) rfl (Nat.le_of_eq rfl) (hb hby at_140) (fun _ _ => ⟨rfl, rfl, (by decide : 3 + 0 ≤ _), (by decide : 10 + 0 ≤ _)⟩)
  dsimp only [Pt.U, Pt.locs, Pt.cells, Pt.slots] at X5 l5 y5 z5 st5 hQ5
  subst l5 y5 z5
  obtain ⟨rfl, rfl, e5⟩ := hQ5
  have N5 := Fr.app N2 (Fr.nil n0)
  have hwwordsChN : ∀ d ∈ StrChars.Road.wordsChN, d.before a0 Z = true := fun d hd => hw d (own_wordsChN d hd)
  have hp6 : ∀ c ∈ ([(45 : Int32), (119 : Int32), (45 : Int32)] : List Int32), ¬ c < 0 ∧ ¬ (255 : Int32) < c := by
    intro c hc
    simp only [List.mem_cons, List.not_mem_nil, or_false] at hc
    rcases hc with rfl | rfl | rfl
    · decide
    · decide
    · decide
  have hcd7 : StrChars.Road.CodA ([(45 : Int32), (119 : Int32), (45 : Int32)] : List Int32) 0 (3 : Int32) (((([(45 : Int32), (119 : Int32), (45 : Int32)] : List Int32)).map (fun c => c.toInt8.toInt32)).map Value.int) := StrChars.Road.codOf (n := 3) rfl (fun c hc => (hp6 c hc).2)
  have hbd7 : ∀ c ∈ ([(45 : Int32), (119 : Int32), (45 : Int32)] : List Int32), ¬ c < 0 ∧ ¬ (65535 : Int32) < c := own_up _ hp6
  obtain ⟨cq8, kq8, q8a, q8b, q8c⟩ := isOf hZ e5 Fq2_0
  obtain ⟨_, _, ⟨T8, L8, k8x, n8⟩, -, X8, ⟨Lc8, hQ8, l8, y8, z8⟩, st8⟩ := X5.virtualBack hx (y := (⟨"java/lang/String", "charAt", "(I)C"⟩ : MethodName)) (z := (⟨"java/lang/String", "charAt", "(I)C"⟩ : MethodName)) hown (mvT hZ (tw hw 75 rfl)) (mvT hZ (tw hw 76 rfl)) (notFace_of_selects (args := #[]) (mvT hZ (tw hw 78 rfl))) (mvT hZ (tw hw 78 rfl)) (mvT hZ (tw hw 77 rfl)) (by decide) (StrChars.Road.chN (W := 0) hZ hwwordsChN (kI := 4) (tw hw 21 rfl) Fq2_0 Fq2_2 Fq2_1 Fq2_3 hcd7 hbd7 (Sg0.ext O2.2) nzGC (Sg1.ext O2.2) rGF (Nat.le_of_ble_eq_true rfl) (i := 0) (Nat.le_of_ble_eq_true rfl) (j := (0 : Int32)) rfl (by decide) (by decide)) q8a q8c (g := (mkF m 150 #[iv p0s, iv p1s, iv 2, iv dv3, rv w5, rv dv5, rv b6] [(.int 0), (.ref b6)])) rfl (by rw [hml]; rfl) (Steps.refl _) (argsL := [(.int 0)]) (rest := []) (lenOf pd_6 rfl) rfl (Nat.le_of_eq rfl) (hb hby at_150) (fun _ _ => ⟨rfl, e5, (by decide : 3 + 0 ≤ _), (by decide : 10 + 0 ≤ _)⟩)
  dsimp only [Pt.U, Pt.locs, Pt.cells, Pt.slots] at X8 l8 y8 z8 st8 hQ8
  subst l8 y8 z8
  obtain ⟨rfl, rfl, e8⟩ := hQ8
  have N8 := Fr.app N5 (Fr.nil n0)
  have Z2 : n0 ≤ T2.heap.size := Nat.le_trans Z0 K2c.1
  obtain ⟨_, _, ⟨T9, L9, k9x, n9⟩, -, X9, ⟨Lc9, hQ9, l9, y9, z9⟩, st9⟩ := Jvm.LawKit.callS X8 hx (y := (⟨zs8, "expect", "(IIC)C"⟩ : MethodName)) hown (mvT hZ (tw hw 97 rfl)) (mvT hZ (tw hw 98 rfl)) (mvT hZ (tw hw 99 rfl)) (mvT hZ (tw hw 100 rfl)) (by decide) (backOf (W := 1) (rm19_39 l Z a0 hw []  T2.heap n0 Z2 ) hZ (tw hw 100 rfl) (tw hw 99 rfl) (by decide) (by decide)) (g := (mkF m 157 #[iv p0s, iv p1s, iv 2, iv dv3, rv w5, rv dv5, rv b6] [(.int 114), (.int 4), (.int 2), (.int 45)])) rfl (by rw [hml]; rfl) (argsL := [(.int 2), (.int 4), (.int 114)]) (rest := [(.int 45)]) (lenOf pd_7 rfl) rfl (Nat.le_of_eq rfl) (hb hby at_157) (fun _ _ => ⟨rfl, e8, (by decide : 3 + 0 ≤ _), (by decide : 10 + 0 ≤ _)⟩)
  dsimp only [Pt.U, Pt.locs, Pt.cells, Pt.slots] at X9 l9 y9 z9 st9 hQ9
  subst l9 y9 z9
  obtain ⟨rfl, N9q, e9⟩ := hQ9
  have N9 := Fr.app N8 N9q
  have hp10 : ∀ c ∈ ([(45 : Int32), (119 : Int32), (45 : Int32)] : List Int32), ¬ c < 0 ∧ ¬ (255 : Int32) < c := by
    intro c hc
    simp only [List.mem_cons, List.not_mem_nil, or_false] at hc
    rcases hc with rfl | rfl | rfl
    · decide
    · decide
    · decide
  have hcd11 : StrChars.Road.CodA ([(45 : Int32), (119 : Int32), (45 : Int32)] : List Int32) 0 (3 : Int32) (((([(45 : Int32), (119 : Int32), (45 : Int32)] : List Int32)).map (fun c => c.toInt8.toInt32)).map Value.int) := StrChars.Road.codOf (n := 3) rfl (fun c hc => (hp10 c hc).2)
  have hbd11 : ∀ c ∈ ([(45 : Int32), (119 : Int32), (45 : Int32)] : List Int32), ¬ c < 0 ∧ ¬ (65535 : Int32) < c := own_up _ hp10
  obtain ⟨cq12, kq12, q12a, q12b, q12c⟩ := isOf hZ e9 Fq2_0
  obtain ⟨_, _, ⟨T12, L12, k12x, n12⟩, -, X12, ⟨Lc12, hQ12, l12, y12, z12⟩, st12⟩ := X9.virtualBack hx (y := (⟨"java/lang/String", "charAt", "(I)C"⟩ : MethodName)) (z := (⟨"java/lang/String", "charAt", "(I)C"⟩ : MethodName)) hown (mvT hZ (tw hw 75 rfl)) (mvT hZ (tw hw 76 rfl)) (notFace_of_selects (args := #[]) (mvT hZ (tw hw 78 rfl))) (mvT hZ (tw hw 78 rfl)) (mvT hZ (tw hw 77 rfl)) (by decide) (StrChars.Road.chN (W := 0) hZ hwwordsChN (kI := 4) (tw hw 21 rfl) Fq2_0 Fq2_2 Fq2_1 Fq2_3 hcd11 hbd11 (Sg0.ext O2.2) nzGC (Sg1.ext O2.2) rGF (Nat.le_of_ble_eq_true rfl) (i := 1) (Nat.le_of_ble_eq_true rfl) (j := (1 : Int32)) rfl (by decide) (by decide)) q12a q12c (g := (mkF m 166 #[iv p0s, iv p1s, iv 2, iv dv3, rv w5, rv dv5, rv b6] [(.int 1), (.ref b6)])) rfl (by rw [hml]; rfl) (Steps.refl _) (argsL := [(.int 1)]) (rest := []) (lenOf pd_6 rfl) rfl (Nat.le_of_eq rfl) (hb hby at_166) (fun _ _ => ⟨rfl, e9, (by decide : 3 + 0 ≤ _), (by decide : 10 + 0 ≤ _)⟩)
  dsimp only [Pt.U, Pt.locs, Pt.cells, Pt.slots] at X12 l12 y12 z12 st12 hQ12
  subst l12 y12 z12
  obtain ⟨rfl, rfl, e12⟩ := hQ12
  have N12 := Fr.app N9 (Fr.nil n0)
  obtain ⟨_, _, ⟨T13, L13, k13x, n13⟩, -, X13, ⟨Lc13, hQ13, l13, y13, z13⟩, st13⟩ := Jvm.LawKit.callS X12 hx (y := (⟨zs8, "expect", "(IIC)C"⟩ : MethodName)) hown (mvT hZ (tw hw 97 rfl)) (mvT hZ (tw hw 98 rfl)) (mvT hZ (tw hw 99 rfl)) (mvT hZ (tw hw 100 rfl)) (by decide) (backOf (W := 1) (rm19_40 l Z a0 hw []  T2.heap n0 Z2 ) hZ (tw hw 100 rfl) (tw hw 99 rfl) (by decide) (by decide)) (g := (mkF m 173 #[iv p0s, iv p1s, iv 2, iv dv3, rv w5, rv dv5, rv b6] [(.int 119), (.int 2), (.int 2), (.int 119)])) rfl (by rw [hml]; rfl) (argsL := [(.int 2), (.int 2), (.int 119)]) (rest := [(.int 119)]) (lenOf pd_7 rfl) rfl (Nat.le_of_eq rfl) (hb hby at_173) (fun _ _ => ⟨rfl, e12, (by decide : 3 + 0 ≤ _), (by decide : 10 + 0 ≤ _)⟩)
  dsimp only [Pt.U, Pt.locs, Pt.cells, Pt.slots] at X13 l13 y13 z13 st13 hQ13
  subst l13 y13 z13
  obtain ⟨rfl, N13q, e13⟩ := hQ13
  have N13 := Fr.app N12 N13q
  have hp14 : ∀ c ∈ ([(45 : Int32), (119 : Int32), (45 : Int32)] : List Int32), ¬ c < 0 ∧ ¬ (255 : Int32) < c := by
    intro c hc
    simp only [List.mem_cons, List.not_mem_nil, or_false] at hc
    rcases hc with rfl | rfl | rfl
    · decide
    · decide
    · decide
  have hcd15 : StrChars.Road.CodA ([(45 : Int32), (119 : Int32), (45 : Int32)] : List Int32) 0 (3 : Int32) (((([(45 : Int32), (119 : Int32), (45 : Int32)] : List Int32)).map (fun c => c.toInt8.toInt32)).map Value.int) := StrChars.Road.codOf (n := 3) rfl (fun c hc => (hp14 c hc).2)
  have hbd15 : ∀ c ∈ ([(45 : Int32), (119 : Int32), (45 : Int32)] : List Int32), ¬ c < 0 ∧ ¬ (65535 : Int32) < c := own_up _ hp14
  obtain ⟨cq16, kq16, q16a, q16b, q16c⟩ := isOf hZ e13 Fq2_0
  obtain ⟨_, _, ⟨T16, L16, k16x, n16⟩, -, X16, ⟨Lc16, hQ16, l16, y16, z16⟩, st16⟩ := X13.virtualBack hx (y := (⟨"java/lang/String", "charAt", "(I)C"⟩ : MethodName)) (z := (⟨"java/lang/String", "charAt", "(I)C"⟩ : MethodName)) hown (mvT hZ (tw hw 75 rfl)) (mvT hZ (tw hw 76 rfl)) (notFace_of_selects (args := #[]) (mvT hZ (tw hw 78 rfl))) (mvT hZ (tw hw 78 rfl)) (mvT hZ (tw hw 77 rfl)) (by decide) (StrChars.Road.chN (W := 0) hZ hwwordsChN (kI := 4) (tw hw 21 rfl) Fq2_0 Fq2_2 Fq2_1 Fq2_3 hcd15 hbd15 (Sg0.ext O2.2) nzGC (Sg1.ext O2.2) rGF (Nat.le_of_ble_eq_true rfl) (i := 2) (Nat.le_of_ble_eq_true rfl) (j := (2 : Int32)) rfl (by decide) (by decide)) q16a q16c (g := (mkF m 182 #[iv p0s, iv p1s, iv 2, iv dv3, rv w5, rv dv5, rv b6] [(.int 2), (.ref b6)])) rfl (by rw [hml]; rfl) (Steps.refl _) (argsL := [(.int 2)]) (rest := []) (lenOf pd_6 rfl) rfl (Nat.le_of_eq rfl) (hb hby at_182) (fun _ _ => ⟨rfl, e13, (by decide : 3 + 0 ≤ _), (by decide : 10 + 0 ≤ _)⟩)
  dsimp only [Pt.U, Pt.locs, Pt.cells, Pt.slots] at X16 l16 y16 z16 st16 hQ16
  subst l16 y16 z16
  obtain ⟨rfl, rfl, e16⟩ := hQ16
  have N16 := Fr.app N13 (Fr.nil n0)
  obtain ⟨_, _, ⟨T17, L17, k17x, n17⟩, -, X17, ⟨Lc17, hQ17, l17, y17, z17⟩, st17⟩ := Jvm.LawKit.callS X16 hx (y := (⟨zs8, "expect", "(IIC)C"⟩ : MethodName)) hown (mvT hZ (tw hw 97 rfl)) (mvT hZ (tw hw 98 rfl)) (mvT hZ (tw hw 99 rfl)) (mvT hZ (tw hw 100 rfl)) (by decide) (backOf (W := 1) (rm19_41 l Z a0 hw []  T2.heap n0 Z2 ) hZ (tw hw 100 rfl) (tw hw 99 rfl) (by decide) (by decide)) (g := (mkF m 189 #[iv p0s, iv p1s, iv 2, iv dv3, rv w5, rv dv5, rv b6] [(.int 120), (.int 1), (.int 2), (.int 45)])) rfl (by rw [hml]; rfl) (argsL := [(.int 2), (.int 1), (.int 120)]) (rest := [(.int 45)]) (lenOf pd_7 rfl) rfl (Nat.le_of_eq rfl) (hb hby at_189) (fun _ _ => ⟨rfl, e16, (by decide : 3 + 0 ≤ _), (by decide : 10 + 0 ≤ _)⟩)
  dsimp only [Pt.U, Pt.locs, Pt.cells, Pt.slots] at X17 l17 y17 z17 st17 hQ17
  subst l17 y17 z17
  obtain ⟨rfl, N17q, e17⟩ := hQ17
  have N17 := Fr.app N16 N17q
  obtain ⟨fs, hr, hrun, hended, hW, hsame⟩ := X17.leave (v := some (.int (1 : Int32))) (fun h => by rw [hre] at h; cases h)
  refine ⟨_, _, ?_, hrun, hended, _, _, rfl, ?_, ⟨_, rfl⟩, hW, hsame.mono (by decide) (by decide)⟩
  · show SF p e below T0 (mkF m 72 #[iv p0s, iv p1s, iv 2, iv dv3, rv w5, rv dv5, .unset] []) _
    refine XS.iloadN X0.here hx rfl (hb hby at_72) rfl ?_
    show SF p e below T0 (mkF m 73 #[iv p0s, iv p1s, iv 2, iv dv3, rv w5, rv dv5, .unset] [(.int 2)]) _
    refine XS.ifYes X0.here hx rfl (pc0 := 73) (pc' := 86) rfl (hb hby at_73) rfl ((if0 _ _).trans (feq (by decide : ¬ ((2 : Int32) = (0 : Int32)))).2) (by decide) (by decide) ?_
    show SF p e below T0 (mkF m 86 #[iv p0s, iv p1s, iv 2, iv dv3, rv w5, rv dv5, .unset] []) _
    refine XS.iloadN X0.here hx rfl (hb hby at_86) rfl ?_
    refine XS.iconst X0.here hx rfl (hb hby at_87) ?_
    show SF p e below T0 (mkF m 88 #[iv p0s, iv p1s, iv 2, iv dv3, rv w5, rv dv5, .unset] [(.int 4), (.int 2)]) _
    refine XS.icmpYes X0.here hx rfl (pc0 := 88) (pc' := 101) rfl (hb hby at_88) rfl (feq (by decide : ¬ ((2 : Int32) = (4 : Int32)))).2 (by decide) (by decide) ?_
    show SF p e below T0 (mkF m 101 #[iv p0s, iv p1s, iv 2, iv dv3, rv w5, rv dv5, .unset] []) _
    refine XS.iloadN X0.here hx rfl (hb hby at_101) rfl ?_
    refine XS.iconst X0.here hx rfl (hb hby at_102) ?_
    show SF p e below T0 (mkF m 103 #[iv p0s, iv p1s, iv 2, iv dv3, rv w5, rv dv5, .unset] [(.int 2), (.int 2)]) _
    refine XS.icmpNo X0.here hx rfl (hb hby at_103) rfl (teq (by decide : (2 : Int32) = (2 : Int32))).2 ?_
    show SF p e below T0 (mkF m 106 #[iv p0s, iv p1s, iv 2, iv dv3, rv w5, rv dv5, .unset] []) _
    refine XS.aload X0.here hx rfl (hb hby at_106) rfl rfl ?_
    show SF p e below T0 (mkF m 108 #[iv p0s, iv p1s, iv 2, iv dv3, rv w5, rv dv5, .unset] [(.ref w5)]) _
    refine st1 _ ?_
    show SF p e below T1 (mkF m 111 #[iv p0s, iv p1s, iv 2, iv dv3, rv w5, rv dv5, .unset] [(.ref w5), (.ref w5)]) _
    refine Jvm.RoadKit.acmp (g := (mkF m 111 #[iv p0s, iv p1s, iv 2, iv dv3, rv w5, rv dv5, .unset] [(.ref w5), (.ref w5)])) X1 hx rfl rfl rfl (pc0 := 111) (pc' := 116) (same := true) rfl (hb hby at_111) rfl (decide_eq_true rfl) (by decide) (by decide) ?_
    show SF p e below T1 (mkF m 116 #[iv p0s, iv p1s, iv 2, iv dv3, rv w5, rv dv5, .unset] []) _
    refine XS.iloadN X1.here hx rfl (hb hby at_116) rfl ?_
    refine XS.iconst X1.here hx rfl (hb hby at_117) ?_
    show SF p e below T1 (mkF m 118 #[iv p0s, iv p1s, iv 2, iv dv3, rv w5, rv dv5, .unset] [(.int 1), (.int 2)]) _
    refine XS.icmpYes X1.here hx rfl (pc0 := 118) (pc' := 131) rfl (hb hby at_118) rfl (feq (by decide : ¬ ((2 : Int32) = (1 : Int32)))).2 (by decide) (by decide) ?_
    show SF p e below T1 (mkF m 131 #[iv p0s, iv p1s, iv 2, iv dv3, rv w5, rv dv5, .unset] []) _
    refine XS.aload X1.here hx rfl (hb hby at_131) rfl rfl ?_
    show SF p e below T1 (mkF m 133 #[iv p0s, iv p1s, iv 2, iv dv3, rv w5, rv dv5, .unset] [(.ref w5)]) _
    refine st2.trans ?_
    show SF p e below T2 (mkF m 136 #[iv p0s, iv p1s, iv 2, iv dv3, rv w5, rv dv5, .unset] [(.ref b6)]) _
    refine XS.astore X2.here hx rfl (hb hby at_136) rfl rfl (l' := #[iv p0s, iv p1s, iv 2, iv dv3, rv w5, rv dv5, rv b6]) rfl ?_
    refine XS.aload X2.here hx rfl (hb hby at_138) rfl rfl ?_
    show SF p e below T2 (mkF m 140 #[iv p0s, iv p1s, iv 2, iv dv3, rv w5, rv dv5, rv b6] [(.ref b6)]) _
    refine st5.trans ?_
    show SF p e below T5 (mkF m 143 #[iv p0s, iv p1s, iv 2, iv dv3, rv w5, rv dv5, rv b6] [(.int 3)]) _
    refine XS.iconst X5.here hx rfl (hb hby at_143) ?_
    show SF p e below T5 (mkF m 144 #[iv p0s, iv p1s, iv 2, iv dv3, rv w5, rv dv5, rv b6] [(.int 3), (.int 3)]) _
    refine XS.icmpNo X5.here hx rfl (hb hby at_144) rfl (teq (by decide : (3 : Int32) = (3 : Int32))).2 ?_
    show SF p e below T5 (mkF m 147 #[iv p0s, iv p1s, iv 2, iv dv3, rv w5, rv dv5, rv b6] []) _
    refine XS.aload X5.here hx rfl (hb hby at_147) rfl rfl ?_
    refine XS.iconst X5.here hx rfl (hb hby at_149) ?_
    show SF p e below T5 (mkF m 150 #[iv p0s, iv p1s, iv 2, iv dv3, rv w5, rv dv5, rv b6] [(.int 0), (.ref b6)]) _
    refine st8.trans ?_
    show SF p e below T8 (mkF m 153 #[iv p0s, iv p1s, iv 2, iv dv3, rv w5, rv dv5, rv b6] [(.int 45)]) _
    refine XS.iloadN X8.here hx rfl (hb hby at_153) rfl ?_
    refine XS.iconst X8.here hx rfl (hb hby at_154) ?_
    show SF p e below T8 (mkF m 155 #[iv p0s, iv p1s, iv 2, iv dv3, rv w5, rv dv5, rv b6] [(.int 4), (.int 2), (.int 45)]) _
    refine XS.bipush X8.here hx rfl (hb hby at_155) ?_
    show SF p e below T8 (mkF m 157 #[iv p0s, iv p1s, iv 2, iv dv3, rv w5, rv dv5, rv b6] [(.int 114), (.int 4), (.int 2), (.int 45)]) _
    refine st9 _ ?_
    show SF p e below T9 (mkF m 160 #[iv p0s, iv p1s, iv 2, iv dv3, rv w5, rv dv5, rv b6] [(.int 45), (.int 45)]) _
    refine XS.icmpNo X9.here hx rfl (hb hby at_160) rfl (teq (by decide : (45 : Int32) = (45 : Int32))).2 ?_
    show SF p e below T9 (mkF m 163 #[iv p0s, iv p1s, iv 2, iv dv3, rv w5, rv dv5, rv b6] []) _
    refine XS.aload X9.here hx rfl (hb hby at_163) rfl rfl ?_
    refine XS.iconst X9.here hx rfl (hb hby at_165) ?_
    show SF p e below T9 (mkF m 166 #[iv p0s, iv p1s, iv 2, iv dv3, rv w5, rv dv5, rv b6] [(.int 1), (.ref b6)]) _
    refine st12.trans ?_
    show SF p e below T12 (mkF m 169 #[iv p0s, iv p1s, iv 2, iv dv3, rv w5, rv dv5, rv b6] [(.int 119)]) _
    refine XS.iloadN X12.here hx rfl (hb hby at_169) rfl ?_
    refine XS.iconst X12.here hx rfl (hb hby at_170) ?_
    show SF p e below T12 (mkF m 171 #[iv p0s, iv p1s, iv 2, iv dv3, rv w5, rv dv5, rv b6] [(.int 2), (.int 2), (.int 119)]) _
    refine XS.bipush X12.here hx rfl (hb hby at_171) ?_
    show SF p e below T12 (mkF m 173 #[iv p0s, iv p1s, iv 2, iv dv3, rv w5, rv dv5, rv b6] [(.int 119), (.int 2), (.int 2), (.int 119)]) _
    refine st13 _ ?_
    show SF p e below T13 (mkF m 176 #[iv p0s, iv p1s, iv 2, iv dv3, rv w5, rv dv5, rv b6] [(.int 119), (.int 119)]) _
    refine XS.icmpNo X13.here hx rfl (hb hby at_176) rfl (teq (by decide : (119 : Int32) = (119 : Int32))).2 ?_
    show SF p e below T13 (mkF m 179 #[iv p0s, iv p1s, iv 2, iv dv3, rv w5, rv dv5, rv b6] []) _
    refine XS.aload X13.here hx rfl (hb hby at_179) rfl rfl ?_
    refine XS.iconst X13.here hx rfl (hb hby at_181) ?_
    show SF p e below T13 (mkF m 182 #[iv p0s, iv p1s, iv 2, iv dv3, rv w5, rv dv5, rv b6] [(.int 2), (.ref b6)]) _
    refine st16.trans ?_
    show SF p e below T16 (mkF m 185 #[iv p0s, iv p1s, iv 2, iv dv3, rv w5, rv dv5, rv b6] [(.int 45)]) _
    refine XS.iloadN X16.here hx rfl (hb hby at_185) rfl ?_
    refine XS.iconst X16.here hx rfl (hb hby at_186) ?_
    show SF p e below T16 (mkF m 187 #[iv p0s, iv p1s, iv 2, iv dv3, rv w5, rv dv5, rv b6] [(.int 1), (.int 2), (.int 45)]) _
    refine XS.bipush X16.here hx rfl (hb hby at_187) ?_
    show SF p e below T16 (mkF m 189 #[iv p0s, iv p1s, iv 2, iv dv3, rv w5, rv dv5, rv b6] [(.int 120), (.int 1), (.int 2), (.int 45)]) _
    refine st17 _ ?_
    show SF p e below T17 (mkF m 192 #[iv p0s, iv p1s, iv 2, iv dv3, rv w5, rv dv5, rv b6] [(.int 45), (.int 45)]) _
    refine XS.icmpNo X17.here hx rfl (hb hby at_192) rfl (teq (by decide : (45 : Int32) = (45 : Int32))).2 ?_
    show SF p e below T17 (mkF m 195 #[iv p0s, iv p1s, iv 2, iv dv3, rv w5, rv dv5, rv b6] []) _
    refine XS.iconst X17.here hx rfl (hb hby at_195) ?_
    refine XS.goto X17.here hx rfl (pc0 := 196) (pc' := 200) rfl (hb hby at_196) (by decide) (by decide) ?_
    show SF p e below T17 (mkF m 200 #[iv p0s, iv p1s, iv 2, iv dv3, rv w5, rv dv5, rv b6] [(.int 1)]) _
    exact retN X17 hx (t := .boolean) hre (by simp) (hb hby at_200) hr
  · exact ⟨rfl, N17⟩
set_option maxRecDepth 65536 in
set_option maxHeartbeats 400000000 in
theorem pc_7 {p : Program} {l : Launch} {e : Env} {s : State} {m : MethodId} {below : List Frame} {meth : Method} {c : Code} {T0 : State} {locs : List Loc} {Z : State} {a0 : Array Value} {h0 : Heap} {n0 : Nat} {p0s : Int32} {p1s : Int32} {GC : Int32} {GF : Value} {w4 : Addr} {w5 : Addr} {w6 : Addr} {dv3 : Int32} {dv5 : Addr} (X0 : Stand p l e room_1 s m #[(.int p0s), (.int p1s)] below meth c T0 locs 0 0) (hx : p.tables.exec = Jvm.exec) (hZ : Z.Warmed39 s.vm) (hw : HW Z a0) (hby : c.code = code) (hml : c.maxLocals = 7) (hown : s.vm.findClass zs8 = some m.cls) (hre : meth.sig.returnType = some .boolean) (hlk : meth.locks = false) (e0 : T0.heap = h0) (N0 : Fr n0 locs) (Z0 : n0 ≤ h0.size) (O0 : Old Z n0 h0) (Sg0 : Sta Z Z.heap "java/lang/String" "COMPACT_STRINGS" "Z" (.int GC)) (Sg1 : Sta Z Z.heap zs9 "SIOOBE_FORMATTER" zs5 GF) (rGF : GF.isRef = true) (nzGC : ¬ (GC = (0 : Int32))) (Sg7 : Sta Z Z.heap zs7 "READ" zs4 (.ref w4)) (Sg9 : Sta Z Z.heap zs7 "WRITE" zs4 (.ref w5)) (E_w5 : Exa Z Z.heap w5 zs7) (Sg11 : Sta Z Z.heap zs7 "EXECUTE" zs4 (.ref w6)) (F_w4_bits : Fld Z Z.heap w4 zs7 "bits" "I" (.int 4)) (F_w5_bits : Fld Z Z.heap w5 zs7 "bits" "I" (.int 2)) (F_w6_bits : Fld Z Z.heap w6 zs7 "bits" "I" (.int 1)) (P1 : ¬ ((2 : Int32) = dv3)) (P2 : w5 ≠ dv5) :
    Fine p e below s n0 (T0.setTop (mkF m 22 #[iv p0s, iv p1s, iv 2, iv dv3, rv w5, rv dv5, .unset] [])) := by
  obtain ⟨cq1, kq1, q1a, q1b, q1c⟩ := isOf hZ e0 (E_w5.ext O0.2)
  obtain ⟨_, _, ⟨T1, L1, k1x, n1⟩, -, X1, ⟨Lc1, hQ1, l1, y1, z1⟩, st1⟩ := X0.virtualBack hx (y := (⟨zs7, "bits", "()I"⟩ : MethodName)) (z := (⟨zs7, "bits", "()I"⟩ : MethodName)) hown (mvT hZ (tw hw 6 rfl)) (mvT hZ (tw hw 7 rfl)) (notFace_of_selects (args := #[]) (mvT hZ (tw hw 9 rfl))) (mvT hZ (tw hw 9 rfl)) (mvT hZ (tw hw 8 rfl)) (by decide) (backOf (W := 0) (rm2_31 l Z a0 hw [] w5 h0 n0 Z0 F_w5_bits O0) hZ (tw hw 10 rfl) (tw hw 2 rfl) (by decide) (by decide)) q1a q1c (g := (mkF m 36 #[iv p0s, iv p1s, iv 2, iv dv3, rv w5, rv dv5, .unset] [(.ref w5)])) rfl (by rw [hml]; rfl) (Steps.refl _) (argsL := []) (rest := []) (lenOf pd_1 rfl) rfl (Nat.le_of_eq rfl) (hb hby at_36) (fun _ _ => ⟨rfl, e0, (by decide : 0 + 0 ≤ _), (by decide : 0 + 0 ≤ _)⟩)
  dsimp only [Pt.U, Pt.locs, Pt.cells, Pt.slots] at X1 l1 y1 z1 st1 hQ1
  subst l1 y1 z1
  obtain ⟨rfl, N1q, e1⟩ := hQ1
  have N1 := Fr.app N0 N1q
  refine Fine.pre (fun t k => ?_) (pc_8 (dv3 := dv3) (dv5 := dv5) X1 hx hZ hw hby hml hown hre hlk e1 N1 Z0 O0 Sg0 Sg1 rGF nzGC Sg7 Sg9 E_w5 Sg11 F_w4_bits F_w5_bits F_w6_bits )
  show SF p e below T0 (mkF m 22 #[iv p0s, iv p1s, iv 2, iv dv3, rv w5, rv dv5, .unset] []) _
  refine XS.aload X0.here hx rfl (hb hby at_22) rfl rfl ?_
  show SF p e below T0 (mkF m 24 #[iv p0s, iv p1s, iv 2, iv dv3, rv w5, rv dv5, .unset] [(.ref w5)]) _
  refine XS.ifnullNo X0.here hx rfl (hb hby at_24) rfl ?_
  show SF p e below T0 (mkF m 27 #[iv p0s, iv p1s, iv 2, iv dv3, rv w5, rv dv5, .unset] []) _
  refine XS.aload X0.here hx rfl (hb hby at_27) rfl rfl ?_
  show SF p e below T0 (mkF m 29 #[iv p0s, iv p1s, iv 2, iv dv3, rv w5, rv dv5, .unset] [(.ref dv5)]) _
  refine XS.ifnonnullYes X0.here hx rfl (pc0 := 29) (pc' := 34) rfl (hb hby at_29) rfl (by decide) (by decide) ?_
  show SF p e below T0 (mkF m 34 #[iv p0s, iv p1s, iv 2, iv dv3, rv w5, rv dv5, .unset] []) _
  refine XS.aload X0.here hx rfl (hb hby at_34) rfl rfl ?_
  show SF p e below T0 (mkF m 36 #[iv p0s, iv p1s, iv 2, iv dv3, rv w5, rv dv5, .unset] [(.ref w5)]) _
  refine st1.trans ?_
  show SF p e below T1 (mkF m 39 #[iv p0s, iv p1s, iv 2, iv dv3, rv w5, rv dv5, .unset] [(.int 2)]) _
  refine XS.iloadN X1.here hx rfl (hb hby at_39) rfl ?_
  show SF p e below T1 (mkF m 40 #[iv p0s, iv p1s, iv 2, iv dv3, rv w5, rv dv5, .unset] [(.int 2), (.int 2)]) _
  refine XS.icmpYes X1.here hx rfl (pc0 := 40) (pc' := 45) rfl (hb hby at_40) rfl (teq (by decide : (2 : Int32) = (2 : Int32))).1 (by decide) (by decide) ?_
  show SF p e below T1 (mkF m 45 #[iv p0s, iv p1s, iv 2, iv dv3, rv w5, rv dv5, .unset] []) _
  refine XS.aload X1.here hx rfl (hb hby at_45) rfl rfl ?_
  refine XS.aload X1.here hx rfl (hb hby at_47) rfl rfl ?_
  show SF p e below T1 (mkF m 49 #[iv p0s, iv p1s, iv 2, iv dv3, rv w5, rv dv5, .unset] [(.ref dv5), (.ref w5)]) _
  refine Jvm.RoadKit.acmp (g := (mkF m 49 #[iv p0s, iv p1s, iv 2, iv dv3, rv w5, rv dv5, .unset] [(.ref dv5), (.ref w5)])) X1 hx rfl rfl rfl (pc0 := 49) (pc' := 56) (same := false) rfl (hb hby at_49) rfl (decide_eq_false fun q => P2 (Value.ref.inj q)) (by decide) (by decide) ?_
  show SF p e below T1 (mkF m 56 #[iv p0s, iv p1s, iv 2, iv dv3, rv w5, rv dv5, .unset] []) _
  refine XS.iconst X1.here hx rfl (hb hby at_56) ?_
  refine XS.iloadN X1.here hx rfl (hb hby at_57) rfl ?_
  show SF p e below T1 (mkF m 58 #[iv p0s, iv p1s, iv 2, iv dv3, rv w5, rv dv5, .unset] [(.int 2), (.int 0)]) _
  refine XS.iloadN X1.here hx rfl (hb hby at_58) rfl ?_
  show SF p e below T1 (mkF m 59 #[iv p0s, iv p1s, iv 2, iv dv3, rv w5, rv dv5, .unset] [(.int dv3), (.int 2), (.int 0)]) _
  refine XS.icmpYes X1.here hx rfl (pc0 := 59) (pc' := 66) rfl (hb hby at_59) rfl (feq P1).2 (by decide) (by decide) ?_
  show SF p e below T1 (mkF m 66 #[iv p0s, iv p1s, iv 2, iv dv3, rv w5, rv dv5, .unset] [(.int 0)]) _
  refine XS.iconst X1.here hx rfl (hb hby at_66) ?_
  show SF p e below T1 (mkF m 67 #[iv p0s, iv p1s, iv 2, iv dv3, rv w5, rv dv5, .unset] [(.int 0), (.int 0)]) _
  refine XS.icmpYes X1.here hx rfl (pc0 := 67) (pc' := 72) rfl (hb hby at_67) rfl (teq (by decide : (0 : Int32) = (0 : Int32))).1 (by decide) (by decide) ?_
  exact k
set_option maxRecDepth 65536 in
set_option maxHeartbeats 400000000 in
theorem pc_9 {p : Program} {l : Launch} {e : Env} {s : State} {m : MethodId} {below : List Frame} {meth : Method} {c : Code} {T0 : State} {locs : List Loc} {Z : State} {a0 : Array Value} {h0 : Heap} {n0 : Nat} {p0s : Int32} {p1s : Int32} {GC : Int32} {GF : Value} {w4 : Addr} {w5 : Addr} {w6 : Addr}  (X0 : Stand p l e room_1 s m #[(.int p0s), (.int p1s)] below meth c T0 locs 0 0) (hx : p.tables.exec = Jvm.exec) (hZ : Z.Warmed39 s.vm) (hw : HW Z a0) (hby : c.code = code) (hml : c.maxLocals = 7) (hown : s.vm.findClass zs8 = some m.cls) (hre : meth.sig.returnType = some .boolean) (hlk : meth.locks = false) (e0 : T0.heap = h0) (N0 : Fr n0 locs) (Z0 : n0 ≤ h0.size) (O0 : Old Z n0 h0) (Sg0 : Sta Z Z.heap "java/lang/String" "COMPACT_STRINGS" "Z" (.int GC)) (Sg1 : Sta Z Z.heap zs9 "SIOOBE_FORMATTER" zs5 GF) (rGF : GF.isRef = true) (nzGC : ¬ (GC = (0 : Int32))) (Sg7 : Sta Z Z.heap zs7 "READ" zs4 (.ref w4)) (Sg9 : Sta Z Z.heap zs7 "WRITE" zs4 (.ref w5)) (E_w5 : Exa Z Z.heap w5 zs7) (Sg11 : Sta Z Z.heap zs7 "EXECUTE" zs4 (.ref w6)) (F_w4_bits : Fld Z Z.heap w4 zs7 "bits" "I" (.int 4)) (F_w5_bits : Fld Z Z.heap w5 zs7 "bits" "I" (.int 2)) (F_w6_bits : Fld Z Z.heap w6 zs7 "bits" "I" (.int 1)) :
    Fine p e below s n0 (T0.setTop (mkF m 22 #[iv p0s, iv p1s, iv 2, iv 2, rv w5, rv w5, .unset] [])) := by
  obtain ⟨cq1, kq1, q1a, q1b, q1c⟩ := isOf hZ e0 (E_w5.ext O0.2)
  obtain ⟨_, _, ⟨T1, L1, k1x, n1⟩, -, X1, ⟨Lc1, hQ1, l1, y1, z1⟩, st1⟩ := X0.virtualBack hx (y := (⟨zs7, "bits", "()I"⟩ : MethodName)) (z := (⟨zs7, "bits", "()I"⟩ : MethodName)) hown (mvT hZ (tw hw 6 rfl)) (mvT hZ (tw hw 7 rfl)) (notFace_of_selects (args := #[]) (mvT hZ (tw hw 9 rfl))) (mvT hZ (tw hw 9 rfl)) (mvT hZ (tw hw 8 rfl)) (by decide) (backOf (W := 0) (rm2_31 l Z a0 hw [] w5 h0 n0 Z0 F_w5_bits O0) hZ (tw hw 10 rfl) (tw hw 2 rfl) (by decide) (by decide)) q1a q1c (g := (mkF m 36 #[iv p0s, iv p1s, iv 2, iv 2, rv w5, rv w5, .unset] [(.ref w5)])) rfl (by rw [hml]; rfl) (Steps.refl _) (argsL := []) (rest := []) (lenOf pd_1 rfl) rfl (Nat.le_of_eq rfl) (hb hby at_36) (fun _ _ => ⟨rfl, e0, (by decide : 0 + 0 ≤ _), (by decide : 0 + 0 ≤ _)⟩)
  dsimp only [Pt.U, Pt.locs, Pt.cells, Pt.slots] at X1 l1 y1 z1 st1 hQ1
  subst l1 y1 z1
  obtain ⟨rfl, N1q, e1⟩ := hQ1
  have N1 := Fr.app N0 N1q
  refine Fine.pre (fun t k => ?_) (pc_8 (dv3 := (2 : Int32)) (dv5 := w5) X1 hx hZ hw hby hml hown hre hlk e1 N1 Z0 O0 Sg0 Sg1 rGF nzGC Sg7 Sg9 E_w5 Sg11 F_w4_bits F_w5_bits F_w6_bits )
  show SF p e below T0 (mkF m 22 #[iv p0s, iv p1s, iv 2, iv 2, rv w5, rv w5, .unset] []) _
  refine XS.aload X0.here hx rfl (hb hby at_22) rfl rfl ?_
  show SF p e below T0 (mkF m 24 #[iv p0s, iv p1s, iv 2, iv 2, rv w5, rv w5, .unset] [(.ref w5)]) _
  refine XS.ifnullNo X0.here hx rfl (hb hby at_24) rfl ?_
  show SF p e below T0 (mkF m 27 #[iv p0s, iv p1s, iv 2, iv 2, rv w5, rv w5, .unset] []) _
  refine XS.aload X0.here hx rfl (hb hby at_27) rfl rfl ?_
  show SF p e below T0 (mkF m 29 #[iv p0s, iv p1s, iv 2, iv 2, rv w5, rv w5, .unset] [(.ref w5)]) _
  refine XS.ifnonnullYes X0.here hx rfl (pc0 := 29) (pc' := 34) rfl (hb hby at_29) rfl (by decide) (by decide) ?_
  show SF p e below T0 (mkF m 34 #[iv p0s, iv p1s, iv 2, iv 2, rv w5, rv w5, .unset] []) _
  refine XS.aload X0.here hx rfl (hb hby at_34) rfl rfl ?_
  show SF p e below T0 (mkF m 36 #[iv p0s, iv p1s, iv 2, iv 2, rv w5, rv w5, .unset] [(.ref w5)]) _
  refine st1.trans ?_
  show SF p e below T1 (mkF m 39 #[iv p0s, iv p1s, iv 2, iv 2, rv w5, rv w5, .unset] [(.int 2)]) _
  refine XS.iloadN X1.here hx rfl (hb hby at_39) rfl ?_
  show SF p e below T1 (mkF m 40 #[iv p0s, iv p1s, iv 2, iv 2, rv w5, rv w5, .unset] [(.int 2), (.int 2)]) _
  refine XS.icmpYes X1.here hx rfl (pc0 := 40) (pc' := 45) rfl (hb hby at_40) rfl (teq (by decide : (2 : Int32) = (2 : Int32))).1 (by decide) (by decide) ?_
  show SF p e below T1 (mkF m 45 #[iv p0s, iv p1s, iv 2, iv 2, rv w5, rv w5, .unset] []) _
  refine XS.aload X1.here hx rfl (hb hby at_45) rfl rfl ?_
  refine XS.aload X1.here hx rfl (hb hby at_47) rfl rfl ?_
  show SF p e below T1 (mkF m 49 #[iv p0s, iv p1s, iv 2, iv 2, rv w5, rv w5, .unset] [(.ref w5), (.ref w5)]) _
  refine Jvm.RoadKit.acmp (g := (mkF m 49 #[iv p0s, iv p1s, iv 2, iv 2, rv w5, rv w5, .unset] [(.ref w5), (.ref w5)])) X1 hx rfl rfl rfl (pc0 := 49) (pc' := 52) (same := true) rfl (hb hby at_49) rfl (decide_eq_true rfl) (by decide) (by decide) ?_
  show SF p e below T1 (mkF m 52 #[iv p0s, iv p1s, iv 2, iv 2, rv w5, rv w5, .unset] []) _
  refine XS.iconst X1.here hx rfl (hb hby at_52) ?_
  refine XS.goto X1.here hx rfl (pc0 := 53) (pc' := 57) rfl (hb hby at_53) (by decide) (by decide) ?_
  show SF p e below T1 (mkF m 57 #[iv p0s, iv p1s, iv 2, iv 2, rv w5, rv w5, .unset] [(.int 1)]) _
  refine XS.iloadN X1.here hx rfl (hb hby at_57) rfl ?_
  refine XS.iloadN X1.here hx rfl (hb hby at_58) rfl ?_
  show SF p e below T1 (mkF m 59 #[iv p0s, iv p1s, iv 2, iv 2, rv w5, rv w5, .unset] [(.int 2), (.int 2), (.int 1)]) _
  refine XS.icmpNo X1.here hx rfl (hb hby at_59) rfl (teq (by decide : (2 : Int32) = (2 : Int32))).2 ?_
  show SF p e below T1 (mkF m 62 #[iv p0s, iv p1s, iv 2, iv 2, rv w5, rv w5, .unset] [(.int 1)]) _
  refine XS.iconst X1.here hx rfl (hb hby at_62) ?_
  refine XS.goto X1.here hx rfl (pc0 := 63) (pc' := 67) rfl (hb hby at_63) (by decide) (by decide) ?_
  show SF p e below T1 (mkF m 67 #[iv p0s, iv p1s, iv 2, iv 2, rv w5, rv w5, .unset] [(.int 1), (.int 1)]) _
  refine XS.icmpYes X1.here hx rfl (pc0 := 67) (pc' := 72) rfl (hb hby at_67) rfl (teq (by decide : (1 : Int32) = (1 : Int32))).1 (by decide) (by decide) ?_
  exact k
-- Rights.bits 
def Q2_42 (Z : State) (w3 : Addr) (h0 : Heap) (n0 : Nat) (v : Option Value) (h : Heap) (L : List Loc) : Prop := v = some (.int 3) ∧ Fr n0 L ∧ h = h0
set_option maxRecDepth 65536 in
set_option maxHeartbeats 40000000 in
theorem rm2_42 (l : Launch) (Z : State) (a0 : Array Value) (hw : HW Z a0) (ws : List Jvm.Cond) (w3 : Addr) (h0 : Heap) (n0 : Nat) (Z0 : n0 ≤ h0.size) (F_w3_bits : Fld Z Z.heap w3 zs7 "bits" "I" (.int 3)) (P2 : Old Z n0 h0) :
    MF l Z (⟨zs7, "bits", "()I"⟩ : MethodName) (Jvm.Cond.code (⟨zs7, "bits", "()I"⟩ : MethodName) prog_35_method_3_code 1 (some .int)) ws ({ frames := 0, cells := 0, slots := 0, locals := 0 } : Room) #[(.ref w3)] h0 (Q2_42 Z w3 h0 n0) := by
  refine own_enter (plainFor_of_name pn_0) fun p e s m below meth c s₁ X0 hx hby hml hown hnm hZ e0 hre hlk => ?_
  have N0 := Fr.nil n0
  have pre0 : ∀ t, SF p e below s₁ (mkF m 0 #[rv w3] []) t → SF p e below s₁ (entryFrame m #[(.ref w3)] 1) t := fun t k => castTop (ef_1 m w3) k
  obtain ⟨T1, X1, e1, st1⟩ := getF X0 hx hZ hown (host := "") (Or.inl (tw hw 11 rfl)) Via.refl e0 (F_w3_bits.ext P2.2) (g := (mkF m 1 #[rv w3] [(.ref w3)])) rfl rfl (hb hby d2_1)
  obtain ⟨fs, hr, hrun, hended, hW, hsame⟩ := X1.leave (v := some (.int 3)) (fun h => by rw [hre] at h; cases h)
  refine ⟨_, _, pre0 _ ?_, hrun, hended, _, _, rfl, ?_, ⟨_, rfl⟩, hW, hsame.mono (by decide) (by decide)⟩
  · show SF p e below s₁ (mkF m 0 #[rv w3] []) _
    refine XS.aloadN X0.here hx rfl (hb hby d2_0) rfl rfl ?_
    show SF p e below s₁ (mkF m 1 #[rv w3] [(.ref w3)]) _
    refine st1 _ ?_
    show SF p e below T1 (mkF m 4 #[rv w3] [(.int 3)]) _
    exact retI X1 hx hre (hb hby d2_4) hr
  · show Q2_42 Z w3 h0 n0 _ T1.heap _
    rw [e1]
    exact ⟨rfl, N0, rfl⟩
-- Rights.containsAll 
def Q5_43 (Z : State) (w3 : Addr) (w4 : Addr) (h0 : Heap) (n0 : Nat) (v : Option Value) (h : Heap) (L : List Loc) : Prop := v = some (.int 0) ∧ Fr n0 L ∧ h = h0
set_option maxRecDepth 65536 in
set_option maxHeartbeats 40000000 in
theorem rm5_43 (l : Launch) (Z : State) (a0 : Array Value) (hw : HW Z a0) (ws : List Jvm.Cond) (w3 : Addr) (w4 : Addr) (h0 : Heap) (n0 : Nat) (Z0 : n0 ≤ h0.size) (F_w4_bits : Fld Z Z.heap w4 zs7 "bits" "I" (.int 4)) (P2 : Old Z n0 h0) (F_w3_bits : Fld Z Z.heap w3 zs7 "bits" "I" (.int 3)) :
    MF l Z (⟨zs7, "containsAll", zs2⟩ : MethodName) (Jvm.Cond.code (⟨zs7, "containsAll", zs2⟩ : MethodName) prog_35_method_4_code 2 (some .boolean)) ws ({ frames := 0, cells := 0, slots := 0, locals := 0 } : Room) #[(.ref w3), (.ref w4)] h0 (Q5_43 Z w3 w4 h0 n0) := by
  refine own_enter (plainFor_of_name pn_0) fun p e s m below meth c s₁ X0 hx hby hml hown hnm hZ e0 hre hlk => ?_
  have N0 := Fr.nil n0
  have pre0 : ∀ t, SF p e below s₁ (mkF m 0 #[rv w3, rv w4] []) t → SF p e below s₁ (entryFrame m #[(.ref w3), (.ref w4)] 2) t := fun t k => castTop (ef_2 m w3 w4) k
  obtain ⟨T1, X1, e1, st1⟩ := getF X0 hx hZ hown (host := "") (Or.inl (tw hw 11 rfl)) Via.refl e0 (F_w4_bits.ext P2.2) (g := (mkF m 1 #[rv w3, rv w4] [(.ref w4)])) rfl rfl (hb hby d5_1)
  obtain ⟨T2, X2, e2, st2⟩ := getF X1 hx hZ hown (host := "") (Or.inl (tw hw 11 rfl)) Via.refl e1 (F_w3_bits.ext P2.2) (g := (mkF m 5 #[rv w3, rv w4] [(.ref w3), (.int 4)])) rfl rfl (hb hby d5_5)
  obtain ⟨fs, hr, hrun, hended, hW, hsame⟩ := X2.leave (v := some (.int 0)) (fun h => by rw [hre] at h; cases h)
  refine ⟨_, _, pre0 _ ?_, hrun, hended, _, _, rfl, ?_, ⟨_, rfl⟩, hW, hsame.mono (by decide) (by decide)⟩
  · show SF p e below s₁ (mkF m 0 #[rv w3, rv w4] []) _
    refine XS.aloadN X0.here hx rfl (hb hby d5_0) rfl rfl ?_
    show SF p e below s₁ (mkF m 1 #[rv w3, rv w4] [(.ref w4)]) _
    refine st1 _ ?_
    show SF p e below T1 (mkF m 4 #[rv w3, rv w4] [(.int 4)]) _
    refine XS.aloadN X1.here hx rfl (hb hby d5_4) rfl rfl ?_
    show SF p e below T1 (mkF m 5 #[rv w3, rv w4] [(.ref w3), (.int 4)]) _
    refine st2 _ ?_
    show SF p e below T2 (mkF m 8 #[rv w3, rv w4] [(.int 3), (.int 4)]) _
    refine XS.iconst X2.here hx rfl (hb hby d5_8) ?_
    show SF p e below T2 (mkF m 9 #[rv w3, rv w4] [(.int (-1)), (.int 3), (.int 4)]) _
    refine XS.ixor X2.here hx rfl (hb hby d5_9) rfl ?_
    show SF p e below T2 (mkF m 10 #[rv w3, rv w4] [(.int ((3 : Int32) ^^^ (-1 : Int32))), (.int 4)]) _
    rw [show ((3 : Int32) ^^^ (-1 : Int32)) = (-4 : Int32) from by decide]
    show SF p e below T2 (mkF m 10 #[rv w3, rv w4] [(.int (-4)), (.int 4)]) _
    refine XS.iand X2.here hx rfl (hb hby d5_10) rfl ?_
    show SF p e below T2 (mkF m 11 #[rv w3, rv w4] [(.int ((4 : Int32) &&& (-4 : Int32)))]) _
    rw [show ((4 : Int32) &&& (-4 : Int32)) = (4 : Int32) from by decide]
    show SF p e below T2 (mkF m 11 #[rv w3, rv w4] [(.int 4)]) _
    refine XS.ifYes X2.here hx rfl (pc0 := 11) (pc' := 18) rfl (hb hby d5_11) rfl ((if0 _ _).trans (feq (by decide : ¬ ((4 : Int32) = (0 : Int32)))).2) (by decide) (by decide) ?_
    show SF p e below T2 (mkF m 18 #[rv w3, rv w4] []) _
    refine XS.iconst X2.here hx rfl (hb hby d5_18) ?_
    show SF p e below T2 (mkF m 19 #[rv w3, rv w4] [(.int 0)]) _
    exact retN X2 hx (t := .boolean) hre (by simp) (hb hby d5_19) hr
  · show Q5_43 Z w3 w4 h0 n0 _ T2.heap _
    rw [e2]
    exact ⟨rfl, N0, rfl⟩
-- Rights.letter 
def Q4_44 (Z : State) (w3 : Addr) (w4 : Addr) (h0 : Heap) (n0 : Nat) (v : Option Value) (h : Heap) (L : List Loc) : Prop := v = some (.int 45) ∧ Fr n0 L ∧ h = h0
set_option maxRecDepth 65536 in
set_option maxHeartbeats 40000000 in
theorem rm4_44 (l : Launch) (Z : State) (a0 : Array Value) (hw : HW Z a0) (ws : List Jvm.Cond) (w3 : Addr) (w4 : Addr) (h0 : Heap) (n0 : Nat) (Z0 : n0 ≤ h0.size) (E_w3 : Exa Z Z.heap w3 zs7) (P2 : Old Z n0 h0) (F_w4_bits : Fld Z Z.heap w4 zs7 "bits" "I" (.int 4)) (F_w3_bits : Fld Z Z.heap w3 zs7 "bits" "I" (.int 3)) :
    MF l Z (⟨zs7, "letter", zs3⟩ : MethodName) (Jvm.Cond.code (⟨zs7, "letter", zs3⟩ : MethodName) prog_35_method_6_code 3 (some .char)) ws ({ frames := 1, cells := 0, slots := 0, locals := 13 } : Room) #[(.ref w3), (.ref w4), (.int 114)] h0 (Q4_44 Z w3 w4 h0 n0) := by
  refine own_enter (plainFor_of_name pn_0) fun p e s m below meth c s₁ X0 hx hby hml hown hnm hZ e0 hre hlk => ?_
  have N0 := Fr.nil n0
  have pre0 : ∀ t, SF p e below s₁ (mkF m 0 #[rv w3, rv w4, iv 114] []) t → SF p e below s₁ (entryFrame m #[(.ref w3), (.ref w4), (.int 114)] 3) t := fun t k => castTop (ef_3 m w3 w4 (114 : Int32)) k
  obtain ⟨cq1, kq1, q1a, q1b, q1c⟩ := isOf hZ e0 (E_w3.ext P2.2)
  obtain ⟨_, _, ⟨T1, L1, k1x, n1⟩, -, X1, ⟨Lc1, hQ1, l1, y1, z1⟩, st1⟩ := X0.virtualBack hx (y := (⟨zs7, "containsAll", zs2⟩ : MethodName)) (z := (⟨zs7, "containsAll", zs2⟩ : MethodName)) hown (mvT hZ (tw hw 30 rfl)) (mvT hZ (tw hw 31 rfl)) (notFace_of_selects (args := #[]) (mvT hZ (tw hw 33 rfl))) (mvT hZ (tw hw 33 rfl)) (mvT hZ (tw hw 32 rfl)) (by decide) (backOf (W := 0) (rm5_43 l Z a0 hw [] w3 w4 h0 n0 Z0 F_w4_bits P2 F_w3_bits) hZ (tw hw 34 rfl) (tw hw 2 rfl) (by decide) (by decide)) q1a q1c (g := (mkF m 2 #[rv w3, rv w4, iv 114] [(.ref w4), (.ref w3)])) rfl (by rw [hml]; rfl) (Steps.refl _) (argsL := [(.ref w4)]) (rest := []) (lenOf pd_2 rfl) rfl (Nat.le_of_eq rfl) (hb hby d4_2) (fun _ _ => ⟨rfl, e0, (by decide : 0 + 0 ≤ _), (by decide : 0 + 0 ≤ _)⟩)
  dsimp only [Pt.U, Pt.locs, Pt.cells, Pt.slots] at X1 l1 y1 z1 st1 hQ1
  subst l1 y1 z1
  obtain ⟨rfl, N1q, e1⟩ := hQ1
  have N1 := Fr.app N0 N1q
  obtain ⟨fs, hr, hrun, hended, hW, hsame⟩ := X1.leave (v := some (.int 45)) (fun h => by rw [hre] at h; cases h)
  refine ⟨_, _, pre0 _ ?_, hrun, hended, _, _, rfl, ?_, ⟨_, rfl⟩, hW, hsame.mono (by decide) (by decide)⟩
  · show SF p e below s₁ (mkF m 0 #[rv w3, rv w4, iv 114] []) _
    refine XS.aloadN X0.here hx rfl (hb hby d4_0) rfl rfl ?_
    refine XS.aloadN X0.here hx rfl (hb hby d4_1) rfl rfl ?_
    show SF p e below s₁ (mkF m 2 #[rv w3, rv w4, iv 114] [(.ref w4), (.ref w3)]) _
    refine st1.trans ?_
    show SF p e below T1 (mkF m 5 #[rv w3, rv w4, iv 114] [(.int 0)]) _
    refine XS.ifYes X1.here hx rfl (pc0 := 5) (pc' := 12) rfl (hb hby d4_5) rfl ((if0 _ _).trans (teq (by decide : (0 : Int32) = (0 : Int32))).1) (by decide) (by decide) ?_
    show SF p e below T1 (mkF m 12 #[rv w3, rv w4, iv 114] []) _
    refine XS.bipush X1.here hx rfl (hb hby d4_12) ?_
    show SF p e below T1 (mkF m 14 #[rv w3, rv w4, iv 114] [(.int 45)]) _
    exact retN X1 hx (t := .char) hre (by simp) (hb hby d4_14) hr
  · show Q4_44 Z w3 w4 h0 n0 _ T1.heap _
    rw [e1]
    exact ⟨rfl, N1, rfl⟩
-- Rights.containsAll 
def Q5_45 (Z : State) (w3 : Addr) (w5 : Addr) (h0 : Heap) (n0 : Nat) (v : Option Value) (h : Heap) (L : List Loc) : Prop := v = some (.int 1) ∧ Fr n0 L ∧ h = h0
set_option maxRecDepth 65536 in
set_option maxHeartbeats 40000000 in
theorem rm5_45 (l : Launch) (Z : State) (a0 : Array Value) (hw : HW Z a0) (ws : List Jvm.Cond) (w3 : Addr) (w5 : Addr) (h0 : Heap) (n0 : Nat) (Z0 : n0 ≤ h0.size) (F_w5_bits : Fld Z Z.heap w5 zs7 "bits" "I" (.int 2)) (P2 : Old Z n0 h0) (F_w3_bits : Fld Z Z.heap w3 zs7 "bits" "I" (.int 3)) :
    MF l Z (⟨zs7, "containsAll", zs2⟩ : MethodName) (Jvm.Cond.code (⟨zs7, "containsAll", zs2⟩ : MethodName) prog_35_method_4_code 2 (some .boolean)) ws ({ frames := 0, cells := 0, slots := 0, locals := 0 } : Room) #[(.ref w3), (.ref w5)] h0 (Q5_45 Z w3 w5 h0 n0) := by
  refine own_enter (plainFor_of_name pn_0) fun p e s m below meth c s₁ X0 hx hby hml hown hnm hZ e0 hre hlk => ?_
  have N0 := Fr.nil n0
  have pre0 : ∀ t, SF p e below s₁ (mkF m 0 #[rv w3, rv w5] []) t → SF p e below s₁ (entryFrame m #[(.ref w3), (.ref w5)] 2) t := fun t k => castTop (ef_2 m w3 w5) k
  obtain ⟨T1, X1, e1, st1⟩ := getF X0 hx hZ hown (host := "") (Or.inl (tw hw 11 rfl)) Via.refl e0 (F_w5_bits.ext P2.2) (g := (mkF m 1 #[rv w3, rv w5] [(.ref w5)])) rfl rfl (hb hby d5_1)
  obtain ⟨T2, X2, e2, st2⟩ := getF X1 hx hZ hown (host := "") (Or.inl (tw hw 11 rfl)) Via.refl e1 (F_w3_bits.ext P2.2) (g := (mkF m 5 #[rv w3, rv w5] [(.ref w3), (.int 2)])) rfl rfl (hb hby d5_5)
  obtain ⟨fs, hr, hrun, hended, hW, hsame⟩ := X2.leave (v := some (.int 1)) (fun h => by rw [hre] at h; cases h)
  refine ⟨_, _, pre0 _ ?_, hrun, hended, _, _, rfl, ?_, ⟨_, rfl⟩, hW, hsame.mono (by decide) (by decide)⟩
  · show SF p e below s₁ (mkF m 0 #[rv w3, rv w5] []) _
    refine XS.aloadN X0.here hx rfl (hb hby d5_0) rfl rfl ?_
    show SF p e below s₁ (mkF m 1 #[rv w3, rv w5] [(.ref w5)]) _
    refine st1 _ ?_
    show SF p e below T1 (mkF m 4 #[rv w3, rv w5] [(.int 2)]) _
    refine XS.aloadN X1.here hx rfl (hb hby d5_4) rfl rfl ?_
    show SF p e below T1 (mkF m 5 #[rv w3, rv w5] [(.ref w3), (.int 2)]) _
    refine st2 _ ?_
    show SF p e below T2 (mkF m 8 #[rv w3, rv w5] [(.int 3), (.int 2)]) _
    refine XS.iconst X2.here hx rfl (hb hby d5_8) ?_
    show SF p e below T2 (mkF m 9 #[rv w3, rv w5] [(.int (-1)), (.int 3), (.int 2)]) _
    refine XS.ixor X2.here hx rfl (hb hby d5_9) rfl ?_
    show SF p e below T2 (mkF m 10 #[rv w3, rv w5] [(.int ((3 : Int32) ^^^ (-1 : Int32))), (.int 2)]) _
    rw [show ((3 : Int32) ^^^ (-1 : Int32)) = (-4 : Int32) from by decide]
    show SF p e below T2 (mkF m 10 #[rv w3, rv w5] [(.int (-4)), (.int 2)]) _
    refine XS.iand X2.here hx rfl (hb hby d5_10) rfl ?_
    show SF p e below T2 (mkF m 11 #[rv w3, rv w5] [(.int ((2 : Int32) &&& (-4 : Int32)))]) _
    rw [show ((2 : Int32) &&& (-4 : Int32)) = (0 : Int32) from by decide]
    show SF p e below T2 (mkF m 11 #[rv w3, rv w5] [(.int 0)]) _
    refine XS.ifNo X2.here hx rfl (hb hby d5_11) rfl ((if0 _ _).trans (teq (by decide : (0 : Int32) = (0 : Int32))).2) ?_
    show SF p e below T2 (mkF m 14 #[rv w3, rv w5] []) _
    refine XS.iconst X2.here hx rfl (hb hby d5_14) ?_
    refine XS.goto X2.here hx rfl (pc0 := 15) (pc' := 19) rfl (hb hby d5_15) (by decide) (by decide) ?_
    show SF p e below T2 (mkF m 19 #[rv w3, rv w5] [(.int 1)]) _
    exact retN X2 hx (t := .boolean) hre (by simp) (hb hby d5_19) hr
  · show Q5_45 Z w3 w5 h0 n0 _ T2.heap _
    rw [e2]
    exact ⟨rfl, N0, rfl⟩
-- Rights.letter 
def Q4_46 (Z : State) (w3 : Addr) (w5 : Addr) (h0 : Heap) (n0 : Nat) (v : Option Value) (h : Heap) (L : List Loc) : Prop := v = some (.int 119) ∧ Fr n0 L ∧ h = h0
set_option maxRecDepth 65536 in
set_option maxHeartbeats 40000000 in
theorem rm4_46 (l : Launch) (Z : State) (a0 : Array Value) (hw : HW Z a0) (ws : List Jvm.Cond) (w3 : Addr) (w5 : Addr) (h0 : Heap) (n0 : Nat) (Z0 : n0 ≤ h0.size) (E_w3 : Exa Z Z.heap w3 zs7) (P2 : Old Z n0 h0) (F_w5_bits : Fld Z Z.heap w5 zs7 "bits" "I" (.int 2)) (F_w3_bits : Fld Z Z.heap w3 zs7 "bits" "I" (.int 3)) :
    MF l Z (⟨zs7, "letter", zs3⟩ : MethodName) (Jvm.Cond.code (⟨zs7, "letter", zs3⟩ : MethodName) prog_35_method_6_code 3 (some .char)) ws ({ frames := 1, cells := 0, slots := 0, locals := 13 } : Room) #[(.ref w3), (.ref w5), (.int 119)] h0 (Q4_46 Z w3 w5 h0 n0) := by
  refine own_enter (plainFor_of_name pn_0) fun p e s m below meth c s₁ X0 hx hby hml hown hnm hZ e0 hre hlk => ?_
  have N0 := Fr.nil n0
  have pre0 : ∀ t, SF p e below s₁ (mkF m 0 #[rv w3, rv w5, iv 119] []) t → SF p e below s₁ (entryFrame m #[(.ref w3), (.ref w5), (.int 119)] 3) t := fun t k => castTop (ef_3 m w3 w5 (119 : Int32)) k
  obtain ⟨cq1, kq1, q1a, q1b, q1c⟩ := isOf hZ e0 (E_w3.ext P2.2)
  obtain ⟨_, _, ⟨T1, L1, k1x, n1⟩, -, X1, ⟨Lc1, hQ1, l1, y1, z1⟩, st1⟩ := X0.virtualBack hx (y := (⟨zs7, "containsAll", zs2⟩ : MethodName)) (z := (⟨zs7, "containsAll", zs2⟩ : MethodName)) hown (mvT hZ (tw hw 30 rfl)) (mvT hZ (tw hw 31 rfl)) (notFace_of_selects (args := #[]) (mvT hZ (tw hw 33 rfl))) (mvT hZ (tw hw 33 rfl)) (mvT hZ (tw hw 32 rfl)) (by decide) (backOf (W := 0) (rm5_45 l Z a0 hw [] w3 w5 h0 n0 Z0 F_w5_bits P2 F_w3_bits) hZ (tw hw 34 rfl) (tw hw 2 rfl) (by decide) (by decide)) q1a q1c (g := (mkF m 2 #[rv w3, rv w5, iv 119] [(.ref w5), (.ref w3)])) rfl (by rw [hml]; rfl) (Steps.refl _) (argsL := [(.ref w5)]) (rest := []) (lenOf pd_2 rfl) rfl (Nat.le_of_eq rfl) (hb hby d4_2) (fun _ _ => ⟨rfl, e0, (by decide : 0 + 0 ≤ _), (by decide : 0 + 0 ≤ _)⟩)
  dsimp only [Pt.U, Pt.locs, Pt.cells, Pt.slots] at X1 l1 y1 z1 st1 hQ1
  subst l1 y1 z1
  obtain ⟨rfl, N1q, e1⟩ := hQ1
  have N1 := Fr.app N0 N1q
  obtain ⟨fs, hr, hrun, hended, hW, hsame⟩ := X1.leave (v := some (.int 119)) (fun h => by rw [hre] at h; cases h)
  refine ⟨_, _, pre0 _ ?_, hrun, hended, _, _, rfl, ?_, ⟨_, rfl⟩, hW, hsame.mono (by decide) (by decide)⟩
  · show SF p e below s₁ (mkF m 0 #[rv w3, rv w5, iv 119] []) _
    refine XS.aloadN X0.here hx rfl (hb hby d4_0) rfl rfl ?_
    refine XS.aloadN X0.here hx rfl (hb hby d4_1) rfl rfl ?_
    show SF p e below s₁ (mkF m 2 #[rv w3, rv w5, iv 119] [(.ref w5), (.ref w3)]) _
    refine st1.trans ?_
    show SF p e below T1 (mkF m 5 #[rv w3, rv w5, iv 119] [(.int 1)]) _
    refine XS.ifNo X1.here hx rfl (hb hby d4_5) rfl ((if0 _ _).trans (feq (by decide : ¬ ((1 : Int32) = (0 : Int32)))).1) ?_
    show SF p e below T1 (mkF m 8 #[rv w3, rv w5, iv 119] []) _
    refine XS.iloadN X1.here hx rfl (hb hby d4_8) rfl ?_
    refine XS.goto X1.here hx rfl (pc0 := 9) (pc' := 14) rfl (hb hby d4_9) (by decide) (by decide) ?_
    show SF p e below T1 (mkF m 14 #[rv w3, rv w5, iv 119] [(.int 119)]) _
    exact retN X1 hx (t := .char) hre (by simp) (hb hby d4_14) hr
  · show Q4_46 Z w3 w5 h0 n0 _ T1.heap _
    rw [e1]
    exact ⟨rfl, N1, rfl⟩
-- Rights.containsAll 
def Q5_47 (Z : State) (w3 : Addr) (w6 : Addr) (h0 : Heap) (n0 : Nat) (v : Option Value) (h : Heap) (L : List Loc) : Prop := v = some (.int 1) ∧ Fr n0 L ∧ h = h0
set_option maxRecDepth 65536 in
set_option maxHeartbeats 40000000 in
theorem rm5_47 (l : Launch) (Z : State) (a0 : Array Value) (hw : HW Z a0) (ws : List Jvm.Cond) (w3 : Addr) (w6 : Addr) (h0 : Heap) (n0 : Nat) (Z0 : n0 ≤ h0.size) (F_w6_bits : Fld Z Z.heap w6 zs7 "bits" "I" (.int 1)) (P2 : Old Z n0 h0) (F_w3_bits : Fld Z Z.heap w3 zs7 "bits" "I" (.int 3)) :
    MF l Z (⟨zs7, "containsAll", zs2⟩ : MethodName) (Jvm.Cond.code (⟨zs7, "containsAll", zs2⟩ : MethodName) prog_35_method_4_code 2 (some .boolean)) ws ({ frames := 0, cells := 0, slots := 0, locals := 0 } : Room) #[(.ref w3), (.ref w6)] h0 (Q5_47 Z w3 w6 h0 n0) := by
  refine own_enter (plainFor_of_name pn_0) fun p e s m below meth c s₁ X0 hx hby hml hown hnm hZ e0 hre hlk => ?_
  have N0 := Fr.nil n0
  have pre0 : ∀ t, SF p e below s₁ (mkF m 0 #[rv w3, rv w6] []) t → SF p e below s₁ (entryFrame m #[(.ref w3), (.ref w6)] 2) t := fun t k => castTop (ef_2 m w3 w6) k
  obtain ⟨T1, X1, e1, st1⟩ := getF X0 hx hZ hown (host := "") (Or.inl (tw hw 11 rfl)) Via.refl e0 (F_w6_bits.ext P2.2) (g := (mkF m 1 #[rv w3, rv w6] [(.ref w6)])) rfl rfl (hb hby d5_1)
  obtain ⟨T2, X2, e2, st2⟩ := getF X1 hx hZ hown (host := "") (Or.inl (tw hw 11 rfl)) Via.refl e1 (F_w3_bits.ext P2.2) (g := (mkF m 5 #[rv w3, rv w6] [(.ref w3), (.int 1)])) rfl rfl (hb hby d5_5)
  obtain ⟨fs, hr, hrun, hended, hW, hsame⟩ := X2.leave (v := some (.int 1)) (fun h => by rw [hre] at h; cases h)
  refine ⟨_, _, pre0 _ ?_, hrun, hended, _, _, rfl, ?_, ⟨_, rfl⟩, hW, hsame.mono (by decide) (by decide)⟩
  · show SF p e below s₁ (mkF m 0 #[rv w3, rv w6] []) _
    refine XS.aloadN X0.here hx rfl (hb hby d5_0) rfl rfl ?_
    show SF p e below s₁ (mkF m 1 #[rv w3, rv w6] [(.ref w6)]) _
    refine st1 _ ?_
    show SF p e below T1 (mkF m 4 #[rv w3, rv w6] [(.int 1)]) _
    refine XS.aloadN X1.here hx rfl (hb hby d5_4) rfl rfl ?_
    show SF p e below T1 (mkF m 5 #[rv w3, rv w6] [(.ref w3), (.int 1)]) _
    refine st2 _ ?_
    show SF p e below T2 (mkF m 8 #[rv w3, rv w6] [(.int 3), (.int 1)]) _
    refine XS.iconst X2.here hx rfl (hb hby d5_8) ?_
    show SF p e below T2 (mkF m 9 #[rv w3, rv w6] [(.int (-1)), (.int 3), (.int 1)]) _
    refine XS.ixor X2.here hx rfl (hb hby d5_9) rfl ?_
    show SF p e below T2 (mkF m 10 #[rv w3, rv w6] [(.int ((3 : Int32) ^^^ (-1 : Int32))), (.int 1)]) _
    rw [show ((3 : Int32) ^^^ (-1 : Int32)) = (-4 : Int32) from by decide]
    show SF p e below T2 (mkF m 10 #[rv w3, rv w6] [(.int (-4)), (.int 1)]) _
    refine XS.iand X2.here hx rfl (hb hby d5_10) rfl ?_
    show SF p e below T2 (mkF m 11 #[rv w3, rv w6] [(.int ((1 : Int32) &&& (-4 : Int32)))]) _
    rw [show ((1 : Int32) &&& (-4 : Int32)) = (0 : Int32) from by decide]
    show SF p e below T2 (mkF m 11 #[rv w3, rv w6] [(.int 0)]) _
    refine XS.ifNo X2.here hx rfl (hb hby d5_11) rfl ((if0 _ _).trans (teq (by decide : (0 : Int32) = (0 : Int32))).2) ?_
    show SF p e below T2 (mkF m 14 #[rv w3, rv w6] []) _
    refine XS.iconst X2.here hx rfl (hb hby d5_14) ?_
    refine XS.goto X2.here hx rfl (pc0 := 15) (pc' := 19) rfl (hb hby d5_15) (by decide) (by decide) ?_
    show SF p e below T2 (mkF m 19 #[rv w3, rv w6] [(.int 1)]) _
    exact retN X2 hx (t := .boolean) hre (by simp) (hb hby d5_19) hr
  · show Q5_47 Z w3 w6 h0 n0 _ T2.heap _
    rw [e2]
    exact ⟨rfl, N0, rfl⟩
-- Rights.letter 
def Q4_48 (Z : State) (w3 : Addr) (w6 : Addr) (h0 : Heap) (n0 : Nat) (v : Option Value) (h : Heap) (L : List Loc) : Prop := v = some (.int 120) ∧ Fr n0 L ∧ h = h0
set_option maxRecDepth 65536 in
set_option maxHeartbeats 40000000 in
theorem rm4_48 (l : Launch) (Z : State) (a0 : Array Value) (hw : HW Z a0) (ws : List Jvm.Cond) (w3 : Addr) (w6 : Addr) (h0 : Heap) (n0 : Nat) (Z0 : n0 ≤ h0.size) (E_w3 : Exa Z Z.heap w3 zs7) (P2 : Old Z n0 h0) (F_w6_bits : Fld Z Z.heap w6 zs7 "bits" "I" (.int 1)) (F_w3_bits : Fld Z Z.heap w3 zs7 "bits" "I" (.int 3)) :
    MF l Z (⟨zs7, "letter", zs3⟩ : MethodName) (Jvm.Cond.code (⟨zs7, "letter", zs3⟩ : MethodName) prog_35_method_6_code 3 (some .char)) ws ({ frames := 1, cells := 0, slots := 0, locals := 13 } : Room) #[(.ref w3), (.ref w6), (.int 120)] h0 (Q4_48 Z w3 w6 h0 n0) := by
  refine own_enter (plainFor_of_name pn_0) fun p e s m below meth c s₁ X0 hx hby hml hown hnm hZ e0 hre hlk => ?_
  have N0 := Fr.nil n0
  have pre0 : ∀ t, SF p e below s₁ (mkF m 0 #[rv w3, rv w6, iv 120] []) t → SF p e below s₁ (entryFrame m #[(.ref w3), (.ref w6), (.int 120)] 3) t := fun t k => castTop (ef_3 m w3 w6 (120 : Int32)) k
  obtain ⟨cq1, kq1, q1a, q1b, q1c⟩ := isOf hZ e0 (E_w3.ext P2.2)
  obtain ⟨_, _, ⟨T1, L1, k1x, n1⟩, -, X1, ⟨Lc1, hQ1, l1, y1, z1⟩, st1⟩ := X0.virtualBack hx (y := (⟨zs7, "containsAll", zs2⟩ : MethodName)) (z := (⟨zs7, "containsAll", zs2⟩ : MethodName)) hown (mvT hZ (tw hw 30 rfl)) (mvT hZ (tw hw 31 rfl)) (notFace_of_selects (args := #[]) (mvT hZ (tw hw 33 rfl))) (mvT hZ (tw hw 33 rfl)) (mvT hZ (tw hw 32 rfl)) (by decide) (backOf (W := 0) (rm5_47 l Z a0 hw [] w3 w6 h0 n0 Z0 F_w6_bits P2 F_w3_bits) hZ (tw hw 34 rfl) (tw hw 2 rfl) (by decide) (by decide)) q1a q1c (g := (mkF m 2 #[rv w3, rv w6, iv 120] [(.ref w6), (.ref w3)])) rfl (by rw [hml]; rfl) (Steps.refl _) (argsL := [(.ref w6)]) (rest := []) (lenOf pd_2 rfl) rfl (Nat.le_of_eq rfl) (hb hby d4_2) (fun _ _ => ⟨rfl, e0, (by decide : 0 + 0 ≤ _), (by decide : 0 + 0 ≤ _)⟩)
  dsimp only [Pt.U, Pt.locs, Pt.cells, Pt.slots] at X1 l1 y1 z1 st1 hQ1
  subst l1 y1 z1
  obtain ⟨rfl, N1q, e1⟩ := hQ1
  have N1 := Fr.app N0 N1q
  obtain ⟨fs, hr, hrun, hended, hW, hsame⟩ := X1.leave (v := some (.int 120)) (fun h => by rw [hre] at h; cases h)
  refine ⟨_, _, pre0 _ ?_, hrun, hended, _, _, rfl, ?_, ⟨_, rfl⟩, hW, hsame.mono (by decide) (by decide)⟩
  · show SF p e below s₁ (mkF m 0 #[rv w3, rv w6, iv 120] []) _
    refine XS.aloadN X0.here hx rfl (hb hby d4_0) rfl rfl ?_
    refine XS.aloadN X0.here hx rfl (hb hby d4_1) rfl rfl ?_
    show SF p e below s₁ (mkF m 2 #[rv w3, rv w6, iv 120] [(.ref w6), (.ref w3)]) _
    refine st1.trans ?_
    show SF p e below T1 (mkF m 5 #[rv w3, rv w6, iv 120] [(.int 1)]) _
    refine XS.ifNo X1.here hx rfl (hb hby d4_5) rfl ((if0 _ _).trans (feq (by decide : ¬ ((1 : Int32) = (0 : Int32)))).1) ?_
    show SF p e below T1 (mkF m 8 #[rv w3, rv w6, iv 120] []) _
    refine XS.iloadN X1.here hx rfl (hb hby d4_8) rfl ?_
    refine XS.goto X1.here hx rfl (pc0 := 9) (pc' := 14) rfl (hb hby d4_9) (by decide) (by decide) ?_
    show SF p e below T1 (mkF m 14 #[rv w3, rv w6, iv 120] [(.int 120)]) _
    exact retN X1 hx (t := .char) hre (by simp) (hb hby d4_14) hr
  · show Q4_48 Z w3 w6 h0 n0 _ T1.heap _
    rw [e1]
    exact ⟨rfl, N1, rfl⟩
-- Rights.toString 
def Q3_49 (Z : State) (w3 : Addr) (w4 : Addr) (w5 : Addr) (w6 : Addr) (GC : Int32) (h0 : Heap) (n0 : Nat) (v : Option Value) (h : Heap) (L : List Loc) : Prop := ∃ e1x : Addr, ∃ e2x : Addr, ∃ e3x : ClassId, h0.size ≤ e1x ∧ h0.size ≤ e2x ∧ e1x ≠ e2x ∧ v = some (.ref e1x) ∧ Fr n0 L ∧ Keep h0 h [] ∧ Exa Z h e1x "java/lang/String" ∧ Fld Z h e1x "java/lang/String" "coder" "B" (.int 0) ∧ Fld Z h e1x "java/lang/String" "value" "[B" (.ref e2x) ∧ Arv Z h e2x e3x .byte (3 : Int32) (((([(45 : Int32), (119 : Int32), (120 : Int32)] : List Int32)).map (fun c => c.toInt8.toInt32)).map Value.int) (.int (0 : Int32))
set_option maxRecDepth 65536 in
set_option maxHeartbeats 40000000 in
theorem rm3_49 (l : Launch) (Z : State) (a0 : Array Value) (hw : HW Z a0) (ws : List Jvm.Cond) (w3 : Addr) (w4 : Addr) (w5 : Addr) (w6 : Addr) (GC : Int32) (h0 : Heap) (n0 : Nat) (Z0 : n0 ≤ h0.size) (Sg7 : Sta Z Z.heap zs7 "READ" zs4 (.ref w4)) (P2 : Old Z n0 h0) (E_w3 : Exa Z Z.heap w3 zs7) (F_w4_bits : Fld Z Z.heap w4 zs7 "bits" "I" (.int 4)) (F_w3_bits : Fld Z Z.heap w3 zs7 "bits" "I" (.int 3)) (Sg9 : Sta Z Z.heap zs7 "WRITE" zs4 (.ref w5)) (F_w5_bits : Fld Z Z.heap w5 zs7 "bits" "I" (.int 2)) (Sg11 : Sta Z Z.heap zs7 "EXECUTE" zs4 (.ref w6)) (F_w6_bits : Fld Z Z.heap w6 zs7 "bits" "I" (.int 1)) (Sg0 : Sta Z Z.heap "java/lang/String" "COMPACT_STRINGS" "Z" (.int GC)) (nzGC : ¬ (GC = (0 : Int32))) :
    MF l Z (⟨zs7, "toString", zs0⟩ : MethodName) (Jvm.Cond.code (⟨zs7, "toString", zs0⟩ : MethodName) prog_35_method_5_code 1 (some (.object "java/lang/String"))) ws ({ frames := 4, cells := 3, slots := 10, locals := 66 } : Room) #[(.ref w3)] h0 (Q3_49 Z w3 w4 w5 w6 GC h0 n0) := by
  refine own_enter (plainFor_of_name pn_0) fun p e s m below meth c s₁ X0 hx hby hml hown hnm hZ e0 hre hlk => ?_
  have N0 := Fr.nil n0
  have pre0 : ∀ t, SF p e below s₁ (mkF m 0 #[rv w3] []) t → SF p e below s₁ (entryFrame m #[(.ref w3)] 1) t := fun t k => castTop (ef_4 m w3) k
  obtain ⟨T1, h1, X1, e1, E1, A1, D1, -, st1⟩ := newO X0 hx hZ hown (tw hw 20 rfl) (tw hw 21 rfl) (tw hw 22 rfl) e0 (g := (mkF m 0 #[rv w3] [])) rfl (hb hby d3_0) (by decide) (by decide)
  obtain ⟨e1x, g1⟩ : ∃ z, z = h0.size := ⟨_, rfl⟩
  rw [← g1] at A1 D1 st1
  have K1 : Keep h0 h1 [] := (Keep.refl h0 []).ext E1
  have Fn2 : Fld Z h1 e1x "java/lang/String" "coder" "B" (.int 0) := D1 (Or.inr (tw hw 62 rfl)) (ty := .byte) (by decide)
  have Fn3 : Fld Z h1 e1x "java/lang/String" "value" "[B" .null := D1 (Or.inr (tw hw 64 rfl)) (ty := (.array .byte)) (by decide)
  obtain ⟨T4, h4, w5x, X4, e4, E4, A4, st4⟩ := newP X1 hx hZ (tw hw 23 rfl) e1 (g := (mkF m 5 #[rv w3] [(.int 3), (.ref e1x), (.ref e1x)])) rfl (hb hby d3_5) rfl (by decide) (cap := 3) (by decide) (by decide) (by decide) (by decide)
  obtain ⟨w4x, g4⟩ : ∃ z, z = h1.size := ⟨_, rfl⟩
  rw [← g4] at A4 st4
  have K4 : Keep h0 h4 [] := K1.ext E4
  have V4 : Arv Z h4 w4x w5x .char (3 : Int32) [(.int 0), (.int 0), (.int 0)] (.int (0 : Int32)) := (Arv.new A4 (by decide)).pad (pad_rep [] (.int (0 : Int32)) 3)
  have O1 : Old Z n0 h1 := P2.ext E1
  have O4 : Old Z n0 h4 := O1.ext E4
  obtain ⟨T5, X5, e5, st5⟩ := getS2 X4 hx hZ hown (host := "") (Or.inl (tw hw 24 rfl)) Via.refl e4 (Sg7.ext O4.2) (g := (mkF m 10 #[rv w3] [(.ref w3), (.int 0), (.ref w4x), (.ref w4x), (.ref e1x), (.ref e1x)])) rfl (hb hby d3_10)
  have Z1 : n0 ≤ h1.size := Nat.le_trans Z0 E1.1
  have Z4 : n0 ≤ h4.size := Nat.le_trans Z1 E4.1
  obtain ⟨cq6, q6, q6'⟩ := (E_w3.ext O4.2).cell
  obtain ⟨_, _, ⟨T6, L6, k6x, n6⟩, -, X6, ⟨Lc6, hQ6, l6, y6, z6⟩, st6⟩ := X5.privateBack hx (y := (⟨zs7, "letter", zs3⟩ : MethodName)) hown (mvT hZ (tw hw 26 rfl)) (mvT hZ (tw hw 27 rfl)) (own_selQ hZ (tw hw 9 rfl) (tw hw 28 rfl) (tw hw 27 rfl) (by decide)) (Cond.privateMethod_at (mvP hZ (tw hw 28 rfl) (args := #[]))) (mvT hZ (tw hw 29 rfl)) (by decide) (backOf (W := 5) (rm4_44 l Z a0 hw [] w3 w4 h4 n0 Z4 E_w3 O4 F_w4_bits F_w3_bits) hZ (tw hw 29 rfl) (tw hw 2 rfl) (by decide) (by decide)) (g := (mkF m 15 #[rv w3] [(.int 114), (.ref w4), (.ref w3), (.int 0), (.ref w4x), (.ref w4x), (.ref e1x), (.ref e1x)])) rfl (by rw [hml]; rfl) (Steps.refl _) (a := w3) (by rw [e5]; exact q6) q6' (argsL := [(.ref w4), (.int 114)]) (rest := [(.int 0), (.ref w4x), (.ref w4x), (.ref e1x), (.ref e1x)]) (lenOf pd_3 rfl) rfl (Nat.le_of_eq rfl) (hb hby d3_15) (fun _ _ => ⟨rfl, e5, (by decide : 2 + 0 ≤ _), (by decide : 7 + 0 ≤ _)⟩)
  dsimp only [Pt.U, Pt.locs, Pt.cells, Pt.slots] at X6 l6 y6 z6 st6 hQ6
  subst l6 y6 z6
  obtain ⟨rfl, N6q, e6⟩ := hQ6
  have N6 := Fr.app N0 N6q
  obtain ⟨cl7, Ar7, q7, S7, N7z, H7, G7⟩ := id V4
  have hin7 : ¬ ((0 : Int32) < 0 ∨ cl7.slots.size ≤ ((0 : Int32)).toNatClampNeg) := inb_of S7 ⟨by decide, by decide⟩
  obtain ⟨T8, h8, X8, e8, W8, st8⟩ := stC X6 hx hZ e6 Ar7 (j := (0 : Int32)) hin7 (g := (mkF m 18 #[rv w3] [(.int 45), (.int 0), (.ref w4x), (.ref w4x), (.ref e1x), (.ref e1x)])) rfl rfl (hb hby d3_18)
  have g_b3 : n0 ≤ w4x := Nat.le_trans Z1 (Nat.le_of_eq g4.symm)
  have sz0_b3 : h0.size ≤ w4x := Nat.le_trans K1.1 (Nat.le_of_eq g4.symm)
  have K8 : Keep h0 h8 [] := K4.wr W8 (Or.inr sz0_b3)
  have N8 := Fr.snoc X8 N6 g_b3
  have V8 : Arv Z h8 w4x w5x .char (3 : Int32) [(.int 45), (.int 0), (.int 0)] (.int (0 : Int32)) := Arv.set Ar7 q7 S7 N7z H7 G7 (by decide) W8 0 rfl (Nat.le_of_ble_eq_true rfl)
  have O8 : Old Z n0 h8 := O4.wr W8 g_b3
  obtain ⟨T9, X9, e9, st9⟩ := getS2 X8 hx hZ hown (host := "") (Or.inl (tw hw 35 rfl)) Via.refl e8 (Sg9.ext O8.2) (g := (mkF m 22 #[rv w3] [(.ref w3), (.int 1), (.ref w4x), (.ref w4x), (.ref e1x), (.ref e1x)])) rfl (hb hby d3_22)
  have Z8 : n0 ≤ h8.size := Nat.le_trans Z4 (Keep.of_wr W8).1
  obtain ⟨cq10, q10, q10'⟩ := (E_w3.ext O8.2).cell
  obtain ⟨_, _, ⟨T10, L10, k10x, n10⟩, -, X10, ⟨Lc10, hQ10, l10, y10, z10⟩, st10⟩ := X9.privateBack hx (y := (⟨zs7, "letter", zs3⟩ : MethodName)) hown (mvT hZ (tw hw 26 rfl)) (mvT hZ (tw hw 27 rfl)) (own_selQ hZ (tw hw 9 rfl) (tw hw 28 rfl) (tw hw 27 rfl) (by decide)) (Cond.privateMethod_at (mvP hZ (tw hw 28 rfl) (args := #[]))) (mvT hZ (tw hw 29 rfl)) (by decide) (backOf (W := 5) (rm4_46 l Z a0 hw [] w3 w5 h8 n0 Z8 E_w3 O8 F_w5_bits F_w3_bits) hZ (tw hw 29 rfl) (tw hw 2 rfl) (by decide) (by decide)) (g := (mkF m 27 #[rv w3] [(.int 119), (.ref w5), (.ref w3), (.int 1), (.ref w4x), (.ref w4x), (.ref e1x), (.ref e1x)])) rfl (by rw [hml]; rfl) (Steps.refl _) (a := w3) (by rw [e9]; exact q10) q10' (argsL := [(.ref w5), (.int 119)]) (rest := [(.int 1), (.ref w4x), (.ref w4x), (.ref e1x), (.ref e1x)]) (lenOf pd_3 rfl) rfl (Nat.le_of_eq rfl) (hb hby d3_27) (fun _ _ => ⟨rfl, e9, (by decide : 2 + 0 ≤ _), (by decide : 7 + 0 ≤ _)⟩)
  dsimp only [Pt.U, Pt.locs, Pt.cells, Pt.slots] at X10 l10 y10 z10 st10 hQ10
  subst l10 y10 z10
  obtain ⟨rfl, N10q, e10⟩ := hQ10
  have N10 := Fr.app N8 N10q
  obtain ⟨cl11, Ar11, q11, S11, N11z, H11, G11⟩ := id V8
  have hin11 : ¬ ((1 : Int32) < 0 ∨ cl11.slots.size ≤ ((1 : Int32)).toNatClampNeg) := inb_of S11 ⟨by decide, by decide⟩
  obtain ⟨T12, h12, X12, e12, W12, st12⟩ := stC X10 hx hZ e10 Ar11 (j := (1 : Int32)) hin11 (g := (mkF m 30 #[rv w3] [(.int 119), (.int 1), (.ref w4x), (.ref w4x), (.ref e1x), (.ref e1x)])) rfl rfl (hb hby d3_30)
  have K12 : Keep h0 h12 [] := K8.wr W12 (Or.inr sz0_b3)
  have N12 := Fr.snoc X12 N10 g_b3
  have V12 : Arv Z h12 w4x w5x .char (3 : Int32) [(.int 45), (.int 119), (.int 0)] (.int (0 : Int32)) := Arv.set Ar11 q11 S11 N11z H11 G11 (by decide) W12 1 rfl (Nat.le_of_ble_eq_true rfl)
  have O12 : Old Z n0 h12 := O8.wr W12 g_b3
  obtain ⟨T13, X13, e13, st13⟩ := getS2 X12 hx hZ hown (host := "") (Or.inl (tw hw 37 rfl)) Via.refl e12 (Sg11.ext O12.2) (g := (mkF m 34 #[rv w3] [(.ref w3), (.int 2), (.ref w4x), (.ref w4x), (.ref e1x), (.ref e1x)])) rfl (hb hby d3_34)
  have Z12 : n0 ≤ h12.size := Nat.le_trans Z8 (Keep.of_wr W12).1
  obtain ⟨cq14, q14, q14'⟩ := (E_w3.ext O12.2).cell
  obtain ⟨_, _, ⟨T14, L14, k14x, n14⟩, -, X14, ⟨Lc14, hQ14, l14, y14, z14⟩, st14⟩ := X13.privateBack hx (y := (⟨zs7, "letter", zs3⟩ : MethodName)) hown (mvT hZ (tw hw 26 rfl)) (mvT hZ (tw hw 27 rfl)) (own_selQ hZ (tw hw 9 rfl) (tw hw 28 rfl) (tw hw 27 rfl) (by decide)) (Cond.privateMethod_at (mvP hZ (tw hw 28 rfl) (args := #[]))) (mvT hZ (tw hw 29 rfl)) (by decide) (backOf (W := 5) (rm4_48 l Z a0 hw [] w3 w6 h12 n0 Z12 E_w3 O12 F_w6_bits F_w3_bits) hZ (tw hw 29 rfl) (tw hw 2 rfl) (by decide) (by decide)) (g := (mkF m 39 #[rv w3] [(.int 120), (.ref w6), (.ref w3), (.int 2), (.ref w4x), (.ref w4x), (.ref e1x), (.ref e1x)])) rfl (by rw [hml]; rfl) (Steps.refl _) (a := w3) (by rw [e13]; exact q14) q14' (argsL := [(.ref w6), (.int 120)]) (rest := [(.int 2), (.ref w4x), (.ref w4x), (.ref e1x), (.ref e1x)]) (lenOf pd_3 rfl) rfl (Nat.le_of_eq rfl) (hb hby d3_39) (fun _ _ => ⟨rfl, e13, (by decide : 2 + 0 ≤ _), (by decide : 7 + 0 ≤ _)⟩)
  dsimp only [Pt.U, Pt.locs, Pt.cells, Pt.slots] at X14 l14 y14 z14 st14 hQ14
  subst l14 y14 z14
  obtain ⟨rfl, N14q, e14⟩ := hQ14
  have N14 := Fr.app N12 N14q
  obtain ⟨cl15, Ar15, q15, S15, N15z, H15, G15⟩ := id V12
  have hin15 : ¬ ((2 : Int32) < 0 ∨ cl15.slots.size ≤ ((2 : Int32)).toNatClampNeg) := inb_of S15 ⟨by decide, by decide⟩
  obtain ⟨T16, h16, X16, e16, W16, st16⟩ := stC X14 hx hZ e14 Ar15 (j := (2 : Int32)) hin15 (g := (mkF m 42 #[rv w3] [(.int 120), (.int 2), (.ref w4x), (.ref w4x), (.ref e1x), (.ref e1x)])) rfl rfl (hb hby d3_42)
  have K16 : Keep h0 h16 [] := K12.wr W16 (Or.inr sz0_b3)
  have N16 := Fr.snoc X16 N14 g_b3
  have V16 : Arv Z h16 w4x w5x .char (3 : Int32) [(.int 45), (.int 119), (.int 120)] (.int (0 : Int32)) := Arv.set Ar15 q15 S15 N15z H15 G15 (by decide) W16 2 rfl (Nat.le_of_ble_eq_true rfl)
  have F2_17 : Exa Z h4 e1x "java/lang/String" := A1.ext E4
  have F3_18 : Exa Z h8 e1x "java/lang/String" := F2_17.wr W8
  have F4_19 : Exa Z h12 e1x "java/lang/String" := F3_18.wr W12
  have F5_20 : Exa Z h16 e1x "java/lang/String" := F4_19.wr W16
  have F2_21 : Fld Z h4 e1x "java/lang/String" "value" "[B" .null := Fn3.ext E4
  have F3_22 : Fld Z h8 e1x "java/lang/String" "value" "[B" .null := F2_21.other W8 (Or.inl (Nat.ne_of_lt (Nat.lt_of_lt_of_le A1.lt (Nat.le_of_eq g4.symm))))
  have F4_23 : Fld Z h12 e1x "java/lang/String" "value" "[B" .null := F3_22.other W12 (Or.inl (Nat.ne_of_lt (Nat.lt_of_lt_of_le A1.lt (Nat.le_of_eq g4.symm))))
  have F5_24 : Fld Z h16 e1x "java/lang/String" "value" "[B" .null := F4_23.other W16 (Or.inl (Nat.ne_of_lt (Nat.lt_of_lt_of_le A1.lt (Nat.le_of_eq g4.symm))))
  have F2_25 : Fld Z h4 e1x "java/lang/String" "coder" "B" (.int 0) := Fn2.ext E4
  have F3_26 : Fld Z h8 e1x "java/lang/String" "coder" "B" (.int 0) := F2_25.other W8 (Or.inl (Nat.ne_of_lt (Nat.lt_of_lt_of_le A1.lt (Nat.le_of_eq g4.symm))))
  have F4_27 : Fld Z h12 e1x "java/lang/String" "coder" "B" (.int 0) := F3_26.other W12 (Or.inl (Nat.ne_of_lt (Nat.lt_of_lt_of_le A1.lt (Nat.le_of_eq g4.symm))))
  have F5_28 : Fld Z h16 e1x "java/lang/String" "coder" "B" (.int 0) := F4_27.other W16 (Or.inl (Nat.ne_of_lt (Nat.lt_of_lt_of_le A1.lt (Nat.le_of_eq g4.symm))))
  have hwwords : ∀ d ∈ StrChars.Road.words, d.before a0 Z = true := fun d hd => hw d (own_words d hd)
  have hp29 : ∀ c ∈ ([(45 : Int32), (119 : Int32), (120 : Int32)] : List Int32), ¬ c < 0 ∧ ¬ (255 : Int32) < c := by
    intro c hc
    simp only [List.mem_cons, List.not_mem_nil, or_false] at hc
    rcases hc with rfl | rfl | rfl
    · decide
    · decide
    · decide
  have O16 : Old Z n0 h16 := O12.wr W16 g_b3
  have g_b1 : n0 ≤ e1x := Nat.le_trans Z0 (Nat.le_of_eq g1.symm)
  have Z16 : n0 ≤ h16.size := Nat.le_trans Z12 (Keep.of_wr W16).1
  obtain ⟨_, _, ⟨T30, L30, k30x, n30⟩, -, X30, ⟨Lc30, hQ30, l30, y30, z30⟩, st30⟩ := X16.specialBack hx (y := (⟨"java/lang/String", "<init>", "([C)V"⟩ : MethodName)) rfl hown (mvT hZ (tw hw 39 rfl)) (mvT hZ (tw hw 40 rfl)) (mvT hZ (tw hw 41 rfl)) (by decide) (StrChars.Road.backV (W := 1) hZ hwwords (kI := 4) (tw hw 21 rfl) (cs := ([(45 : Int32), (119 : Int32), (120 : Int32)] : List Int32)) (bs := ((([(45 : Int32), (119 : Int32), (120 : Int32)] : List Int32)).map (fun c => c.toInt8.toInt32))) (n := 3) g_b1 Z16 F5_20 F5_24 F5_28 V16 (Sg0.ext O16.2) nzGC rfl rfl (by decide) (by decide) hp29 rfl (by decide) (by decide)) (g := (mkF m 43 #[rv w3] [(.ref w4x), (.ref e1x), (.ref e1x)])) rfl (by rw [hml]; rfl) (Steps.refl _) (a := e1x) (argsL := [(.ref w4x)]) (rest := [(.ref e1x)]) (lenOf pd_4 rfl) rfl (Nat.le_of_eq rfl) (hb hby d3_43) (fun _ _ => ⟨rfl, e16, (by decide : 2 + 1 ≤ _), (by decide : 7 + 3 ≤ _)⟩)
  dsimp only [Pt.U, Pt.locs, Pt.cells, Pt.slots] at X30 l30 y30 z30 st30 hQ30
  subst l30 y30 z30
  obtain ⟨rfl, N30q, K30c, Fx30, Fc30, e2x, e3x, gt30, bz_b4, ne30, Fv30, Va30⟩ := hQ30
  have sz0_b1 : h0.size ≤ e1x := Nat.le_trans (Keep.refl h0 []).1 (Nat.le_of_eq g1.symm)
  have K30 : Keep h0 T30.heap [] := K16.trans K30c (allS (Or.inr sz0_b1) all0)
  have N30 := Fr.app N16 N30q
  have sz0_b4 : h0.size ≤ e2x := Nat.le_trans K16.1 bz_b4
  have lt_b1_2 : e1x < h4.size := Nat.lt_of_lt_of_le A1.lt E4.1
  have lt_b1_3 : e1x < h8.size := Nat.lt_of_lt_of_le lt_b1_2 (Keep.of_wr W8).1
  have lt_b1_4 : e1x < h12.size := Nat.lt_of_lt_of_le lt_b1_3 (Keep.of_wr W12).1
  have lt_b1_5 : e1x < h16.size := Nat.lt_of_lt_of_le lt_b1_4 (Keep.of_wr W16).1
  obtain ⟨fs, hr, hrun, hended, hW, hsame⟩ := X30.leave (v := some (.ref e1x)) (fun h => by rw [hre] at h; cases h)
  refine ⟨_, _, pre0 _ ?_, hrun, hended, _, _, rfl, ?_, ⟨_, rfl⟩, hW, hsame.mono (by decide) (by decide)⟩
  · show SF p e below s₁ (mkF m 0 #[rv w3] []) _
    refine st1 _ ?_
    show SF p e below T1 (mkF m 3 #[rv w3] [(.ref e1x)]) _
    refine XS.dup X1.here hx rfl (hb hby d3_3) rfl rfl ?_
    refine XS.iconst X1.here hx rfl (hb hby d3_4) ?_
    show SF p e below T1 (mkF m 5 #[rv w3] [(.int 3), (.ref e1x), (.ref e1x)]) _
    refine st4 _ ?_
    show SF p e below T4 (mkF m 7 #[rv w3] [(.ref w4x), (.ref e1x), (.ref e1x)]) _
    refine XS.dup X4.here hx rfl (hb hby d3_7) rfl rfl ?_
    refine XS.iconst X4.here hx rfl (hb hby d3_8) ?_
    show SF p e below T4 (mkF m 9 #[rv w3] [(.int 0), (.ref w4x), (.ref w4x), (.ref e1x), (.ref e1x)]) _
    refine XS.aloadN X4.here hx rfl (hb hby d3_9) rfl rfl ?_
    show SF p e below T4 (mkF m 10 #[rv w3] [(.ref w3), (.int 0), (.ref w4x), (.ref w4x), (.ref e1x), (.ref e1x)]) _
    refine st5 _ ?_
    show SF p e below T5 (mkF m 13 #[rv w3] [(.ref w4), (.ref w3), (.int 0), (.ref w4x), (.ref w4x), (.ref e1x), (.ref e1x)]) _
    refine XS.bipush X5.here hx rfl (hb hby d3_13) ?_
    show SF p e below T5 (mkF m 15 #[rv w3] [(.int 114), (.ref w4), (.ref w3), (.int 0), (.ref w4x), (.ref w4x), (.ref e1x), (.ref e1x)]) _
    refine st6.trans ?_
    show SF p e below T6 (mkF m 18 #[rv w3] [(.int 45), (.int 0), (.ref w4x), (.ref w4x), (.ref e1x), (.ref e1x)]) _
    refine st8 _ ?_
    show SF p e below T8 (mkF m 19 #[rv w3] [(.ref w4x), (.ref e1x), (.ref e1x)]) _
    refine XS.dup X8.here hx rfl (hb hby d3_19) rfl rfl ?_
    refine XS.iconst X8.here hx rfl (hb hby d3_20) ?_
    show SF p e below T8 (mkF m 21 #[rv w3] [(.int 1), (.ref w4x), (.ref w4x), (.ref e1x), (.ref e1x)]) _
    refine XS.aloadN X8.here hx rfl (hb hby d3_21) rfl rfl ?_
    show SF p e below T8 (mkF m 22 #[rv w3] [(.ref w3), (.int 1), (.ref w4x), (.ref w4x), (.ref e1x), (.ref e1x)]) _
    refine st9 _ ?_
    show SF p e below T9 (mkF m 25 #[rv w3] [(.ref w5), (.ref w3), (.int 1), (.ref w4x), (.ref w4x), (.ref e1x), (.ref e1x)]) _
    refine XS.bipush X9.here hx rfl (hb hby d3_25) ?_
    show SF p e below T9 (mkF m 27 #[rv w3] [(.int 119), (.ref w5), (.ref w3), (.int 1), (.ref w4x), (.ref w4x), (.ref e1x), (.ref e1x)]) _
    refine st10.trans ?_
    show SF p e below T10 (mkF m 30 #[rv w3] [(.int 119), (.int 1), (.ref w4x), (.ref w4x), (.ref e1x), (.ref e1x)]) _
    refine st12 _ ?_
    show SF p e below T12 (mkF m 31 #[rv w3] [(.ref w4x), (.ref e1x), (.ref e1x)]) _
    refine XS.dup X12.here hx rfl (hb hby d3_31) rfl rfl ?_
    refine XS.iconst X12.here hx rfl (hb hby d3_32) ?_
    show SF p e below T12 (mkF m 33 #[rv w3] [(.int 2), (.ref w4x), (.ref w4x), (.ref e1x), (.ref e1x)]) _
    refine XS.aloadN X12.here hx rfl (hb hby d3_33) rfl rfl ?_
    show SF p e below T12 (mkF m 34 #[rv w3] [(.ref w3), (.int 2), (.ref w4x), (.ref w4x), (.ref e1x), (.ref e1x)]) _
    refine st13 _ ?_
    show SF p e below T13 (mkF m 37 #[rv w3] [(.ref w6), (.ref w3), (.int 2), (.ref w4x), (.ref w4x), (.ref e1x), (.ref e1x)]) _
    refine XS.bipush X13.here hx rfl (hb hby d3_37) ?_
    show SF p e below T13 (mkF m 39 #[rv w3] [(.int 120), (.ref w6), (.ref w3), (.int 2), (.ref w4x), (.ref w4x), (.ref e1x), (.ref e1x)]) _
    refine st14.trans ?_
    show SF p e below T14 (mkF m 42 #[rv w3] [(.int 120), (.int 2), (.ref w4x), (.ref w4x), (.ref e1x), (.ref e1x)]) _
    refine st16 _ ?_
    show SF p e below T16 (mkF m 43 #[rv w3] [(.ref w4x), (.ref e1x), (.ref e1x)]) _
    refine st30.trans ?_
    show SF p e below T30 (mkF m 46 #[rv w3] [(.ref e1x)]) _
    exact own_retR X30 hx hre rfl rfl (hb hby d3_46) hr
  · show Q3_49 Z w3 w4 w5 w6 GC h0 n0 _ T30.heap _
    exact ⟨e1x, e2x, e3x, sz0_b1, sz0_b4, (Nat.ne_of_lt (Nat.lt_of_lt_of_le lt_b1_5 bz_b4)), rfl, N30, K30, Fx30, Fc30, Fv30, Va30⟩
-- RightsOfPinLaw.expect 
def Q19_50 (Z : State)  (h0 : Heap) (n0 : Nat) (v : Option Value) (h : Heap) (L : List Loc) : Prop := v = some (.int 45) ∧ Fr n0 L ∧ h = h0
set_option maxRecDepth 65536 in
set_option maxHeartbeats 40000000 in
theorem rm19_50 (l : Launch) (Z : State) (a0 : Array Value) (hw : HW Z a0) (ws : List Jvm.Cond)  (h0 : Heap) (n0 : Nat) (Z0 : n0 ≤ h0.size) :
    MF l Z (⟨zs8, "expect", "(IIC)C"⟩ : MethodName) (Jvm.Cond.code (⟨zs8, "expect", "(IIC)C"⟩ : MethodName) method_2_code 3 (some .char)) ws ({ frames := 0, cells := 0, slots := 0, locals := 0 } : Room) #[(.int 3), (.int 4), (.int 114)] h0 (Q19_50 Z  h0 n0) := by
  refine own_enter (plainFor_of_name pn_1) fun p e s m below meth c s₁ X0 hx hby hml hown hnm hZ e0 hre hlk => ?_
  have N0 := Fr.nil n0
  have pre0 : ∀ t, SF p e below s₁ (mkF m 0 #[iv 3, iv 4, iv 114] []) t → SF p e below s₁ (entryFrame m #[(.int 3), (.int 4), (.int 114)] 3) t := fun t k => castTop (ef_5 m (3 : Int32) (4 : Int32) (114 : Int32)) k
  obtain ⟨fs, hr, hrun, hended, hW, hsame⟩ := X0.leave (v := some (.int 45)) (fun h => by rw [hre] at h; cases h)
  refine ⟨_, _, pre0 _ ?_, hrun, hended, _, _, rfl, ?_, ⟨_, rfl⟩, hW, hsame.mono (by decide) (by decide)⟩
  · show SF p e below s₁ (mkF m 0 #[iv 3, iv 4, iv 114] []) _
    refine XS.iloadN X0.here hx rfl (hb hby d19_0) rfl ?_
    refine XS.iloadN X0.here hx rfl (hb hby d19_1) rfl ?_
    show SF p e below s₁ (mkF m 2 #[iv 3, iv 4, iv 114] [(.int 4), (.int 3)]) _
    refine XS.iand X0.here hx rfl (hb hby d19_2) rfl ?_
    show SF p e below s₁ (mkF m 3 #[iv 3, iv 4, iv 114] [(.int ((3 : Int32) &&& (4 : Int32)))]) _
    rw [show ((3 : Int32) &&& (4 : Int32)) = (0 : Int32) from by decide]
    show SF p e below s₁ (mkF m 3 #[iv 3, iv 4, iv 114] [(.int 0)]) _
    refine XS.ifYes X0.here hx rfl (pc0 := 3) (pc' := 10) rfl (hb hby d19_3) rfl ((if0 _ _).trans (teq (by decide : (0 : Int32) = (0 : Int32))).1) (by decide) (by decide) ?_
    show SF p e below s₁ (mkF m 10 #[iv 3, iv 4, iv 114] []) _
    refine XS.bipush X0.here hx rfl (hb hby d19_10) ?_
    show SF p e below s₁ (mkF m 12 #[iv 3, iv 4, iv 114] [(.int 45)]) _
    exact retN X0 hx (t := .char) hre (by simp) (hb hby d19_12) hr
  · show Q19_50 Z  h0 n0 _ s₁.heap _
    rw [e0]
    exact ⟨rfl, N0, rfl⟩
-- RightsOfPinLaw.expect 
def Q19_51 (Z : State)  (h0 : Heap) (n0 : Nat) (v : Option Value) (h : Heap) (L : List Loc) : Prop := v = some (.int 119) ∧ Fr n0 L ∧ h = h0
set_option maxRecDepth 65536 in
set_option maxHeartbeats 40000000 in
theorem rm19_51 (l : Launch) (Z : State) (a0 : Array Value) (hw : HW Z a0) (ws : List Jvm.Cond)  (h0 : Heap) (n0 : Nat) (Z0 : n0 ≤ h0.size) :
    MF l Z (⟨zs8, "expect", "(IIC)C"⟩ : MethodName) (Jvm.Cond.code (⟨zs8, "expect", "(IIC)C"⟩ : MethodName) method_2_code 3 (some .char)) ws ({ frames := 0, cells := 0, slots := 0, locals := 0 } : Room) #[(.int 3), (.int 2), (.int 119)] h0 (Q19_51 Z  h0 n0) := by
  refine own_enter (plainFor_of_name pn_1) fun p e s m below meth c s₁ X0 hx hby hml hown hnm hZ e0 hre hlk => ?_
  have N0 := Fr.nil n0
  have pre0 : ∀ t, SF p e below s₁ (mkF m 0 #[iv 3, iv 2, iv 119] []) t → SF p e below s₁ (entryFrame m #[(.int 3), (.int 2), (.int 119)] 3) t := fun t k => castTop (ef_5 m (3 : Int32) (2 : Int32) (119 : Int32)) k
  obtain ⟨fs, hr, hrun, hended, hW, hsame⟩ := X0.leave (v := some (.int 119)) (fun h => by rw [hre] at h; cases h)
  refine ⟨_, _, pre0 _ ?_, hrun, hended, _, _, rfl, ?_, ⟨_, rfl⟩, hW, hsame.mono (by decide) (by decide)⟩
  · show SF p e below s₁ (mkF m 0 #[iv 3, iv 2, iv 119] []) _
    refine XS.iloadN X0.here hx rfl (hb hby d19_0) rfl ?_
    refine XS.iloadN X0.here hx rfl (hb hby d19_1) rfl ?_
    show SF p e below s₁ (mkF m 2 #[iv 3, iv 2, iv 119] [(.int 2), (.int 3)]) _
    refine XS.iand X0.here hx rfl (hb hby d19_2) rfl ?_
    show SF p e below s₁ (mkF m 3 #[iv 3, iv 2, iv 119] [(.int ((3 : Int32) &&& (2 : Int32)))]) _
    rw [show ((3 : Int32) &&& (2 : Int32)) = (2 : Int32) from by decide]
    show SF p e below s₁ (mkF m 3 #[iv 3, iv 2, iv 119] [(.int 2)]) _
    refine XS.ifNo X0.here hx rfl (hb hby d19_3) rfl ((if0 _ _).trans (feq (by decide : ¬ ((2 : Int32) = (0 : Int32)))).1) ?_
    show SF p e below s₁ (mkF m 6 #[iv 3, iv 2, iv 119] []) _
    refine XS.iloadN X0.here hx rfl (hb hby d19_6) rfl ?_
    refine XS.goto X0.here hx rfl (pc0 := 7) (pc' := 12) rfl (hb hby d19_7) (by decide) (by decide) ?_
    show SF p e below s₁ (mkF m 12 #[iv 3, iv 2, iv 119] [(.int 119)]) _
    exact retN X0 hx (t := .char) hre (by simp) (hb hby d19_12) hr
  · show Q19_51 Z  h0 n0 _ s₁.heap _
    rw [e0]
    exact ⟨rfl, N0, rfl⟩
-- RightsOfPinLaw.expect 
def Q19_52 (Z : State)  (h0 : Heap) (n0 : Nat) (v : Option Value) (h : Heap) (L : List Loc) : Prop := v = some (.int 120) ∧ Fr n0 L ∧ h = h0
set_option maxRecDepth 65536 in
set_option maxHeartbeats 40000000 in
theorem rm19_52 (l : Launch) (Z : State) (a0 : Array Value) (hw : HW Z a0) (ws : List Jvm.Cond)  (h0 : Heap) (n0 : Nat) (Z0 : n0 ≤ h0.size) :
    MF l Z (⟨zs8, "expect", "(IIC)C"⟩ : MethodName) (Jvm.Cond.code (⟨zs8, "expect", "(IIC)C"⟩ : MethodName) method_2_code 3 (some .char)) ws ({ frames := 0, cells := 0, slots := 0, locals := 0 } : Room) #[(.int 3), (.int 1), (.int 120)] h0 (Q19_52 Z  h0 n0) := by
  refine own_enter (plainFor_of_name pn_1) fun p e s m below meth c s₁ X0 hx hby hml hown hnm hZ e0 hre hlk => ?_
  have N0 := Fr.nil n0
  have pre0 : ∀ t, SF p e below s₁ (mkF m 0 #[iv 3, iv 1, iv 120] []) t → SF p e below s₁ (entryFrame m #[(.int 3), (.int 1), (.int 120)] 3) t := fun t k => castTop (ef_5 m (3 : Int32) (1 : Int32) (120 : Int32)) k
  obtain ⟨fs, hr, hrun, hended, hW, hsame⟩ := X0.leave (v := some (.int 120)) (fun h => by rw [hre] at h; cases h)
  refine ⟨_, _, pre0 _ ?_, hrun, hended, _, _, rfl, ?_, ⟨_, rfl⟩, hW, hsame.mono (by decide) (by decide)⟩
  · show SF p e below s₁ (mkF m 0 #[iv 3, iv 1, iv 120] []) _
    refine XS.iloadN X0.here hx rfl (hb hby d19_0) rfl ?_
    refine XS.iloadN X0.here hx rfl (hb hby d19_1) rfl ?_
    show SF p e below s₁ (mkF m 2 #[iv 3, iv 1, iv 120] [(.int 1), (.int 3)]) _
    refine XS.iand X0.here hx rfl (hb hby d19_2) rfl ?_
    show SF p e below s₁ (mkF m 3 #[iv 3, iv 1, iv 120] [(.int ((3 : Int32) &&& (1 : Int32)))]) _
    rw [show ((3 : Int32) &&& (1 : Int32)) = (1 : Int32) from by decide]
    show SF p e below s₁ (mkF m 3 #[iv 3, iv 1, iv 120] [(.int 1)]) _
    refine XS.ifNo X0.here hx rfl (hb hby d19_3) rfl ((if0 _ _).trans (feq (by decide : ¬ ((1 : Int32) = (0 : Int32)))).1) ?_
    show SF p e below s₁ (mkF m 6 #[iv 3, iv 1, iv 120] []) _
    refine XS.iloadN X0.here hx rfl (hb hby d19_6) rfl ?_
    refine XS.goto X0.here hx rfl (pc0 := 7) (pc' := 12) rfl (hb hby d19_7) (by decide) (by decide) ?_
    show SF p e below s₁ (mkF m 12 #[iv 3, iv 1, iv 120] [(.int 120)]) _
    exact retN X0 hx (t := .char) hre (by simp) (hb hby d19_12) hr
  · show Q19_52 Z  h0 n0 _ s₁.heap _
    rw [e0]
    exact ⟨rfl, N0, rfl⟩
set_option maxRecDepth 65536 in
set_option maxHeartbeats 400000000 in
theorem pc_11 {p : Program} {l : Launch} {e : Env} {s : State} {m : MethodId} {below : List Frame} {meth : Method} {c : Code} {T0 : State} {locs : List Loc} {Z : State} {a0 : Array Value} {h0 : Heap} {n0 : Nat} {p0s : Int32} {p1s : Int32} {GC : Int32} {GF : Value} {w3 : Addr} {w4 : Addr} {w5 : Addr} {w6 : Addr} {dv3 : Int32} {dv5 : Addr} (X0 : Stand p l e room_1 s m #[(.int p0s), (.int p1s)] below meth c T0 locs 0 0) (hx : p.tables.exec = Jvm.exec) (hZ : Z.Warmed39 s.vm) (hw : HW Z a0) (hby : c.code = code) (hml : c.maxLocals = 7) (hown : s.vm.findClass zs8 = some m.cls) (hre : meth.sig.returnType = some .boolean) (hlk : meth.locks = false) (e0 : T0.heap = h0) (N0 : Fr n0 locs) (Z0 : n0 ≤ h0.size) (O0 : Old Z n0 h0) (Sg0 : Sta Z Z.heap "java/lang/String" "COMPACT_STRINGS" "Z" (.int GC)) (Sg1 : Sta Z Z.heap zs9 "SIOOBE_FORMATTER" zs5 GF) (rGF : GF.isRef = true) (nzGC : ¬ (GC = (0 : Int32))) (E_w3 : Exa Z Z.heap w3 zs7) (Sg7 : Sta Z Z.heap zs7 "READ" zs4 (.ref w4)) (Sg9 : Sta Z Z.heap zs7 "WRITE" zs4 (.ref w5)) (Sg11 : Sta Z Z.heap zs7 "EXECUTE" zs4 (.ref w6)) (F_w4_bits : Fld Z Z.heap w4 zs7 "bits" "I" (.int 4)) (F_w5_bits : Fld Z Z.heap w5 zs7 "bits" "I" (.int 2)) (F_w6_bits : Fld Z Z.heap w6 zs7 "bits" "I" (.int 1)) (F_w3_bits : Fld Z Z.heap w3 zs7 "bits" "I" (.int 3)) :
    Fine p e below s n0 (T0.setTop (mkF m 72 #[iv p0s, iv p1s, iv 3, iv dv3, rv w3, rv dv5, .unset] [])) := by
  obtain ⟨cq1, kq1, q1a, q1b, q1c⟩ := isOf hZ e0 (E_w3.ext O0.2)
  obtain ⟨_, _, ⟨T1, L1, k1x, n1⟩, -, X1, ⟨Lc1, hQ1, l1, y1, z1⟩, st1⟩ := X0.virtualBack hx (y := (⟨zs7, "toString", zs0⟩ : MethodName)) (z := (⟨zs7, "toString", zs0⟩ : MethodName)) hown (mvT hZ (tw hw 15 rfl)) (mvT hZ (tw hw 16 rfl)) (notFace_of_selects (args := #[]) (mvT hZ (tw hw 18 rfl))) (mvT hZ (tw hw 18 rfl)) (mvT hZ (tw hw 17 rfl)) (by decide) (backOf (W := 0) (rm3_49 l Z a0 hw [] w3 w4 w5 w6 GC h0 n0 Z0 Sg7 O0 E_w3 F_w4_bits F_w3_bits Sg9 F_w5_bits Sg11 F_w6_bits Sg0 nzGC) hZ (tw hw 19 rfl) (tw hw 2 rfl) (by decide) (by decide)) q1a q1c (g := (mkF m 133 #[iv p0s, iv p1s, iv 3, iv dv3, rv w3, rv dv5, .unset] [(.ref w3)])) rfl (by rw [hml]; rfl) (Steps.refl _) (argsL := []) (rest := []) (lenOf pd_5 rfl) rfl (Nat.le_of_eq rfl) (hb hby at_133) (fun _ _ => ⟨rfl, e0, (by decide : 0 + 3 ≤ _), (by decide : 0 + 10 ≤ _)⟩)
  dsimp only [Pt.U, Pt.locs, Pt.cells, Pt.slots] at X1 l1 y1 z1 st1 hQ1
  subst l1 y1 z1
  obtain ⟨b6, b7, k8, bz_b6, bz_b7, bn1_0, rfl, N1q, K1c, Fq1_0, Fq1_1, Fq1_2, Fq1_3⟩ := hQ1
  have N1 := Fr.app N0 N1q
  have hwwordsLen : ∀ d ∈ StrChars.Road.wordsLen, d.before a0 Z = true := fun d hd => hw d (own_wordsLen d hd)
  have hp2 : ∀ c ∈ ([(45 : Int32), (119 : Int32), (120 : Int32)] : List Int32), ¬ c < 0 ∧ ¬ (255 : Int32) < c := by
    intro c hc
    simp only [List.mem_cons, List.not_mem_nil, or_false] at hc
    rcases hc with rfl | rfl | rfl
    · decide
    · decide
    · decide
  have hcd3 : StrChars.Road.CodA ([(45 : Int32), (119 : Int32), (120 : Int32)] : List Int32) 0 (3 : Int32) (((([(45 : Int32), (119 : Int32), (120 : Int32)] : List Int32)).map (fun c => c.toInt8.toInt32)).map Value.int) := StrChars.Road.codOf (n := 3) rfl (fun c hc => (hp2 c hc).2)
  have hbd3 : ∀ c ∈ ([(45 : Int32), (119 : Int32), (120 : Int32)] : List Int32), ¬ c < 0 ∧ ¬ (65535 : Int32) < c := own_up _ hp2
  have O1 : Old Z n0 T1.heap := O0.keep K1c all0
  obtain ⟨cq4, kq4, q4a, q4b, q4c⟩ := isOf hZ rfl Fq1_0
  obtain ⟨_, _, ⟨T4, L4, k4x, n4⟩, -, X4, ⟨Lc4, hQ4, l4, y4, z4⟩, st4⟩ := X1.virtualBack hx (y := (⟨"java/lang/String", "length", "()I"⟩ : MethodName)) (z := (⟨"java/lang/String", "length", "()I"⟩ : MethodName)) hown (mvT hZ (tw hw 65 rfl)) (mvT hZ (tw hw 66 rfl)) (notFace_of_selects (args := #[]) (mvT hZ (tw hw 68 rfl))) (mvT hZ (tw hw 68 rfl)) (mvT hZ (tw hw 67 rfl)) (by decide) (StrChars.Road.lenW (W := 0) hZ hwwordsLen (kI := 4) (tw hw 21 rfl) Fq1_0 Fq1_2 Fq1_1 Fq1_3 hcd3 hbd3 (Sg0.ext O1.2) nzGC (Nat.le_of_ble_eq_true rfl) (by decide) (by decide)) q4a q4c (g := (mkF m 140 #[iv p0s, iv p1s, iv 3, iv dv3, rv w3, rv dv5, rv b6] [(.ref b6)])) rfl (by rw [hml]; rfl) (Steps.refl _) (argsL := []) (rest := []) (lenOf pd_1 rfl) rfl (Nat.le_of_eq rfl) (hb hby at_140) (fun _ _ => ⟨rfl, rfl, (by decide : 3 + 0 ≤ _), (by decide : 10 + 0 ≤ _)⟩)
  dsimp only [Pt.U, Pt.locs, Pt.cells, Pt.slots] at X4 l4 y4 z4 st4 hQ4
  subst l4 y4 z4
  obtain ⟨rfl, rfl, e4⟩ := hQ4
  have N4 := Fr.app N1 (Fr.nil n0)
  have hwwordsChN : ∀ d ∈ StrChars.Road.wordsChN, d.before a0 Z = true := fun d hd => hw d (own_wordsChN d hd)
  have hp5 : ∀ c ∈ ([(45 : Int32), (119 : Int32), (120 : Int32)] : List Int32), ¬ c < 0 ∧ ¬ (255 : Int32) < c := by
    intro c hc
    simp only [List.mem_cons, List.not_mem_nil, or_false] at hc
    rcases hc with rfl | rfl | rfl
    · decide
    · decide
    · decide
  have hcd6 : StrChars.Road.CodA ([(45 : Int32), (119 : Int32), (120 : Int32)] : List Int32) 0 (3 : Int32) (((([(45 : Int32), (119 : Int32), (120 : Int32)] : List Int32)).map (fun c => c.toInt8.toInt32)).map Value.int) := StrChars.Road.codOf (n := 3) rfl (fun c hc => (hp5 c hc).2)
  have hbd6 : ∀ c ∈ ([(45 : Int32), (119 : Int32), (120 : Int32)] : List Int32), ¬ c < 0 ∧ ¬ (65535 : Int32) < c := own_up _ hp5
  obtain ⟨cq7, kq7, q7a, q7b, q7c⟩ := isOf hZ e4 Fq1_0
  obtain ⟨_, _, ⟨T7, L7, k7x, n7⟩, -, X7, ⟨Lc7, hQ7, l7, y7, z7⟩, st7⟩ := X4.virtualBack hx (y := (⟨"java/lang/String", "charAt", "(I)C"⟩ : MethodName)) (z := (⟨"java/lang/String", "charAt", "(I)C"⟩ : MethodName)) hown (mvT hZ (tw hw 75 rfl)) (mvT hZ (tw hw 76 rfl)) (notFace_of_selects (args := #[]) (mvT hZ (tw hw 78 rfl))) (mvT hZ (tw hw 78 rfl)) (mvT hZ (tw hw 77 rfl)) (by decide) (StrChars.Road.chN (W := 0) hZ hwwordsChN (kI := 4) (tw hw 21 rfl) Fq1_0 Fq1_2 Fq1_1 Fq1_3 hcd6 hbd6 (Sg0.ext O1.2) nzGC (Sg1.ext O1.2) rGF (Nat.le_of_ble_eq_true rfl) (i := 0) (Nat.le_of_ble_eq_true rfl) (j := (0 : Int32)) rfl (by decide) (by decide)) q7a q7c (g := (mkF m 150 #[iv p0s, iv p1s, iv 3, iv dv3, rv w3, rv dv5, rv b6] [(.int 0), (.ref b6)])) rfl (by rw [hml]; rfl) (Steps.refl _) (argsL := [(.int 0)]) (rest := []) (lenOf pd_6 rfl) rfl (Nat.le_of_eq rfl) (hb hby at_150) (fun _ _ => ⟨rfl, e4, (by decide : 3 + 0 ≤ _), (by decide : 10 + 0 ≤ _)⟩)
  dsimp only [Pt.U, Pt.locs, Pt.cells, Pt.slots] at X7 l7 y7 z7 st7 hQ7
  subst l7 y7 z7
  obtain ⟨rfl, rfl, e7⟩ := hQ7
  have N7 := Fr.app N4 (Fr.nil n0)
  have Z1 : n0 ≤ T1.heap.size := Nat.le_trans Z0 K1c.1
  obtain ⟨_, _, ⟨T8, L8, k8x, n8⟩, -, X8, ⟨Lc8, hQ8, l8, y8, z8⟩, st8⟩ := Jvm.LawKit.callS X7 hx (y := (⟨zs8, "expect", "(IIC)C"⟩ : MethodName)) hown (mvT hZ (tw hw 97 rfl)) (mvT hZ (tw hw 98 rfl)) (mvT hZ (tw hw 99 rfl)) (mvT hZ (tw hw 100 rfl)) (by decide) (backOf (W := 1) (rm19_50 l Z a0 hw []  T1.heap n0 Z1 ) hZ (tw hw 100 rfl) (tw hw 99 rfl) (by decide) (by decide)) (g := (mkF m 157 #[iv p0s, iv p1s, iv 3, iv dv3, rv w3, rv dv5, rv b6] [(.int 114), (.int 4), (.int 3), (.int 45)])) rfl (by rw [hml]; rfl) (argsL := [(.int 3), (.int 4), (.int 114)]) (rest := [(.int 45)]) (lenOf pd_7 rfl) rfl (Nat.le_of_eq rfl) (hb hby at_157) (fun _ _ => ⟨rfl, e7, (by decide : 3 + 0 ≤ _), (by decide : 10 + 0 ≤ _)⟩)
  dsimp only [Pt.U, Pt.locs, Pt.cells, Pt.slots] at X8 l8 y8 z8 st8 hQ8
  subst l8 y8 z8
  obtain ⟨rfl, N8q, e8⟩ := hQ8
  have N8 := Fr.app N7 N8q
  have hp9 : ∀ c ∈ ([(45 : Int32), (119 : Int32), (120 : Int32)] : List Int32), ¬ c < 0 ∧ ¬ (255 : Int32) < c := by
    intro c hc
    simp only [List.mem_cons, List.not_mem_nil, or_false] at hc
    rcases hc with rfl | rfl | rfl
    · decide
    · decide
    · decide
  have hcd10 : StrChars.Road.CodA ([(45 : Int32), (119 : Int32), (120 : Int32)] : List Int32) 0 (3 : Int32) (((([(45 : Int32), (119 : Int32), (120 : Int32)] : List Int32)).map (fun c => c.toInt8.toInt32)).map Value.int) := StrChars.Road.codOf (n := 3) rfl (fun c hc => (hp9 c hc).2)
  have hbd10 : ∀ c ∈ ([(45 : Int32), (119 : Int32), (120 : Int32)] : List Int32), ¬ c < 0 ∧ ¬ (65535 : Int32) < c := own_up _ hp9
  obtain ⟨cq11, kq11, q11a, q11b, q11c⟩ := isOf hZ e8 Fq1_0
  obtain ⟨_, _, ⟨T11, L11, k11x, n11⟩, -, X11, ⟨Lc11, hQ11, l11, y11, z11⟩, st11⟩ := X8.virtualBack hx (y := (⟨"java/lang/String", "charAt", "(I)C"⟩ : MethodName)) (z := (⟨"java/lang/String", "charAt", "(I)C"⟩ : MethodName)) hown (mvT hZ (tw hw 75 rfl)) (mvT hZ (tw hw 76 rfl)) (notFace_of_selects (args := #[]) (mvT hZ (tw hw 78 rfl))) (mvT hZ (tw hw 78 rfl)) (mvT hZ (tw hw 77 rfl)) (by decide) (StrChars.Road.chN (W := 0) hZ hwwordsChN (kI := 4) (tw hw 21 rfl) Fq1_0 Fq1_2 Fq1_1 Fq1_3 hcd10 hbd10 (Sg0.ext O1.2) nzGC (Sg1.ext O1.2) rGF (Nat.le_of_ble_eq_true rfl) (i := 1) (Nat.le_of_ble_eq_true rfl) (j := (1 : Int32)) rfl (by decide) (by decide)) q11a q11c (g := (mkF m 166 #[iv p0s, iv p1s, iv 3, iv dv3, rv w3, rv dv5, rv b6] [(.int 1), (.ref b6)])) rfl (by rw [hml]; rfl) (Steps.refl _) (argsL := [(.int 1)]) (rest := []) (lenOf pd_6 rfl) rfl (Nat.le_of_eq rfl) (hb hby at_166) (fun _ _ => ⟨rfl, e8, (by decide : 3 + 0 ≤ _), (by decide : 10 + 0 ≤ _)⟩)
  dsimp only [Pt.U, Pt.locs, Pt.cells, Pt.slots] at X11 l11 y11 z11 st11 hQ11
  subst l11 y11 z11
  obtain ⟨rfl, rfl, e11⟩ := hQ11
  have N11 := Fr.app N8 (Fr.nil n0)
  obtain ⟨_, _, ⟨T12, L12, k12x, n12⟩, -, X12, ⟨Lc12, hQ12, l12, y12, z12⟩, st12⟩ := Jvm.LawKit.callS X11 hx (y := (⟨zs8, "expect", "(IIC)C"⟩ : MethodName)) hown (mvT hZ (tw hw 97 rfl)) (mvT hZ (tw hw 98 rfl)) (mvT hZ (tw hw 99 rfl)) (mvT hZ (tw hw 100 rfl)) (by decide) (backOf (W := 1) (rm19_51 l Z a0 hw []  T1.heap n0 Z1 ) hZ (tw hw 100 rfl) (tw hw 99 rfl) (by decide) (by decide)) (g := (mkF m 173 #[iv p0s, iv p1s, iv 3, iv dv3, rv w3, rv dv5, rv b6] [(.int 119), (.int 2), (.int 3), (.int 119)])) rfl (by rw [hml]; rfl) (argsL := [(.int 3), (.int 2), (.int 119)]) (rest := [(.int 119)]) (lenOf pd_7 rfl) rfl (Nat.le_of_eq rfl) (hb hby at_173) (fun _ _ => ⟨rfl, e11, (by decide : 3 + 0 ≤ _), (by decide : 10 + 0 ≤ _)⟩)
  dsimp only [Pt.U, Pt.locs, Pt.cells, Pt.slots] at X12 l12 y12 z12 st12 hQ12
  subst l12 y12 z12
  obtain ⟨rfl, N12q, e12⟩ := hQ12
  have N12 := Fr.app N11 N12q
  have hp13 : ∀ c ∈ ([(45 : Int32), (119 : Int32), (120 : Int32)] : List Int32), ¬ c < 0 ∧ ¬ (255 : Int32) < c := by
    intro c hc
    simp only [List.mem_cons, List.not_mem_nil, or_false] at hc
    rcases hc with rfl | rfl | rfl
    · decide
    · decide
    · decide
  have hcd14 : StrChars.Road.CodA ([(45 : Int32), (119 : Int32), (120 : Int32)] : List Int32) 0 (3 : Int32) (((([(45 : Int32), (119 : Int32), (120 : Int32)] : List Int32)).map (fun c => c.toInt8.toInt32)).map Value.int) := StrChars.Road.codOf (n := 3) rfl (fun c hc => (hp13 c hc).2)
  have hbd14 : ∀ c ∈ ([(45 : Int32), (119 : Int32), (120 : Int32)] : List Int32), ¬ c < 0 ∧ ¬ (65535 : Int32) < c := own_up _ hp13
  obtain ⟨cq15, kq15, q15a, q15b, q15c⟩ := isOf hZ e12 Fq1_0
  obtain ⟨_, _, ⟨T15, L15, k15x, n15⟩, -, X15, ⟨Lc15, hQ15, l15, y15, z15⟩, st15⟩ := X12.virtualBack hx (y := (⟨"java/lang/String", "charAt", "(I)C"⟩ : MethodName)) (z := (⟨"java/lang/String", "charAt", "(I)C"⟩ : MethodName)) hown (mvT hZ (tw hw 75 rfl)) (mvT hZ (tw hw 76 rfl)) (notFace_of_selects (args := #[]) (mvT hZ (tw hw 78 rfl))) (mvT hZ (tw hw 78 rfl)) (mvT hZ (tw hw 77 rfl)) (by decide) (StrChars.Road.chN (W := 0) hZ hwwordsChN (kI := 4) (tw hw 21 rfl) Fq1_0 Fq1_2 Fq1_1 Fq1_3 hcd14 hbd14 (Sg0.ext O1.2) nzGC (Sg1.ext O1.2) rGF (Nat.le_of_ble_eq_true rfl) (i := 2) (Nat.le_of_ble_eq_true rfl) (j := (2 : Int32)) rfl (by decide) (by decide)) q15a q15c (g := (mkF m 182 #[iv p0s, iv p1s, iv 3, iv dv3, rv w3, rv dv5, rv b6] [(.int 2), (.ref b6)])) rfl (by rw [hml]; rfl) (Steps.refl _) (argsL := [(.int 2)]) (rest := []) (lenOf pd_6 rfl) rfl (Nat.le_of_eq rfl) (hb hby at_182) (fun _ _ => ⟨rfl, e12, (by decide : 3 + 0 ≤ _), (by decide : 10 + 0 ≤ _)⟩)
  dsimp only [Pt.U, Pt.locs, Pt.cells, Pt.slots] at X15 l15 y15 z15 st15 hQ15
  subst l15 y15 z15
  obtain ⟨rfl, rfl, e15⟩ := hQ15
  have N15 := Fr.app N12 (Fr.nil n0)
  obtain ⟨_, _, ⟨T16, L16, k16x, n16⟩, -, X16, ⟨Lc16, hQ16, l16, y16, z16⟩, st16⟩ := Jvm.LawKit.callS X15 hx (y := (⟨zs8, "expect", "(IIC)C"⟩ : MethodName)) hown (mvT hZ (tw hw 97 rfl)) (mvT hZ (tw hw 98 rfl)) (mvT hZ (tw hw 99 rfl)) (mvT hZ (tw hw 100 rfl)) (by decide) (backOf (W := 1) (rm19_52 l Z a0 hw []  T1.heap n0 Z1 ) hZ (tw hw 100 rfl) (tw hw 99 rfl) (by decide) (by decide)) (g := (mkF m 189 #[iv p0s, iv p1s, iv 3, iv dv3, rv w3, rv dv5, rv b6] [(.int 120), (.int 1), (.int 3), (.int 120)])) rfl (by rw [hml]; rfl) (argsL := [(.int 3), (.int 1), (.int 120)]) (rest := [(.int 120)]) (lenOf pd_7 rfl) rfl (Nat.le_of_eq rfl) (hb hby at_189) (fun _ _ => ⟨rfl, e15, (by decide : 3 + 0 ≤ _), (by decide : 10 + 0 ≤ _)⟩)
  dsimp only [Pt.U, Pt.locs, Pt.cells, Pt.slots] at X16 l16 y16 z16 st16 hQ16
  subst l16 y16 z16
  obtain ⟨rfl, N16q, e16⟩ := hQ16
  have N16 := Fr.app N15 N16q
  obtain ⟨fs, hr, hrun, hended, hW, hsame⟩ := X16.leave (v := some (.int (1 : Int32))) (fun h => by rw [hre] at h; cases h)
  refine ⟨_, _, ?_, hrun, hended, _, _, rfl, ?_, ⟨_, rfl⟩, hW, hsame.mono (by decide) (by decide)⟩
  · show SF p e below T0 (mkF m 72 #[iv p0s, iv p1s, iv 3, iv dv3, rv w3, rv dv5, .unset] []) _
    refine XS.iloadN X0.here hx rfl (hb hby at_72) rfl ?_
    show SF p e below T0 (mkF m 73 #[iv p0s, iv p1s, iv 3, iv dv3, rv w3, rv dv5, .unset] [(.int 3)]) _
    refine XS.ifYes X0.here hx rfl (pc0 := 73) (pc' := 86) rfl (hb hby at_73) rfl ((if0 _ _).trans (feq (by decide : ¬ ((3 : Int32) = (0 : Int32)))).2) (by decide) (by decide) ?_
    show SF p e below T0 (mkF m 86 #[iv p0s, iv p1s, iv 3, iv dv3, rv w3, rv dv5, .unset] []) _
    refine XS.iloadN X0.here hx rfl (hb hby at_86) rfl ?_
    refine XS.iconst X0.here hx rfl (hb hby at_87) ?_
    show SF p e below T0 (mkF m 88 #[iv p0s, iv p1s, iv 3, iv dv3, rv w3, rv dv5, .unset] [(.int 4), (.int 3)]) _
    refine XS.icmpYes X0.here hx rfl (pc0 := 88) (pc' := 101) rfl (hb hby at_88) rfl (feq (by decide : ¬ ((3 : Int32) = (4 : Int32)))).2 (by decide) (by decide) ?_
    show SF p e below T0 (mkF m 101 #[iv p0s, iv p1s, iv 3, iv dv3, rv w3, rv dv5, .unset] []) _
    refine XS.iloadN X0.here hx rfl (hb hby at_101) rfl ?_
    refine XS.iconst X0.here hx rfl (hb hby at_102) ?_
    show SF p e below T0 (mkF m 103 #[iv p0s, iv p1s, iv 3, iv dv3, rv w3, rv dv5, .unset] [(.int 2), (.int 3)]) _
    refine XS.icmpYes X0.here hx rfl (pc0 := 103) (pc' := 116) rfl (hb hby at_103) rfl (feq (by decide : ¬ ((3 : Int32) = (2 : Int32)))).2 (by decide) (by decide) ?_
    show SF p e below T0 (mkF m 116 #[iv p0s, iv p1s, iv 3, iv dv3, rv w3, rv dv5, .unset] []) _
    refine XS.iloadN X0.here hx rfl (hb hby at_116) rfl ?_
    refine XS.iconst X0.here hx rfl (hb hby at_117) ?_
    show SF p e below T0 (mkF m 118 #[iv p0s, iv p1s, iv 3, iv dv3, rv w3, rv dv5, .unset] [(.int 1), (.int 3)]) _
    refine XS.icmpYes X0.here hx rfl (pc0 := 118) (pc' := 131) rfl (hb hby at_118) rfl (feq (by decide : ¬ ((3 : Int32) = (1 : Int32)))).2 (by decide) (by decide) ?_
    show SF p e below T0 (mkF m 131 #[iv p0s, iv p1s, iv 3, iv dv3, rv w3, rv dv5, .unset] []) _
    refine XS.aload X0.here hx rfl (hb hby at_131) rfl rfl ?_
    show SF p e below T0 (mkF m 133 #[iv p0s, iv p1s, iv 3, iv dv3, rv w3, rv dv5, .unset] [(.ref w3)]) _
    refine st1.trans ?_
    show SF p e below T1 (mkF m 136 #[iv p0s, iv p1s, iv 3, iv dv3, rv w3, rv dv5, .unset] [(.ref b6)]) _
    refine XS.astore X1.here hx rfl (hb hby at_136) rfl rfl (l' := #[iv p0s, iv p1s, iv 3, iv dv3, rv w3, rv dv5, rv b6]) rfl ?_
    refine XS.aload X1.here hx rfl (hb hby at_138) rfl rfl ?_
    show SF p e below T1 (mkF m 140 #[iv p0s, iv p1s, iv 3, iv dv3, rv w3, rv dv5, rv b6] [(.ref b6)]) _
    refine st4.trans ?_
    show SF p e below T4 (mkF m 143 #[iv p0s, iv p1s, iv 3, iv dv3, rv w3, rv dv5, rv b6] [(.int 3)]) _
    refine XS.iconst X4.here hx rfl (hb hby at_143) ?_
    show SF p e below T4 (mkF m 144 #[iv p0s, iv p1s, iv 3, iv dv3, rv w3, rv dv5, rv b6] [(.int 3), (.int 3)]) _
    refine XS.icmpNo X4.here hx rfl (hb hby at_144) rfl (teq (by decide : (3 : Int32) = (3 : Int32))).2 ?_
    show SF p e below T4 (mkF m 147 #[iv p0s, iv p1s, iv 3, iv dv3, rv w3, rv dv5, rv b6] []) _
    refine XS.aload X4.here hx rfl (hb hby at_147) rfl rfl ?_
    refine XS.iconst X4.here hx rfl (hb hby at_149) ?_
    show SF p e below T4 (mkF m 150 #[iv p0s, iv p1s, iv 3, iv dv3, rv w3, rv dv5, rv b6] [(.int 0), (.ref b6)]) _
    refine st7.trans ?_
    show SF p e below T7 (mkF m 153 #[iv p0s, iv p1s, iv 3, iv dv3, rv w3, rv dv5, rv b6] [(.int 45)]) _
    refine XS.iloadN X7.here hx rfl (hb hby at_153) rfl ?_
    refine XS.iconst X7.here hx rfl (hb hby at_154) ?_
    show SF p e below T7 (mkF m 155 #[iv p0s, iv p1s, iv 3, iv dv3, rv w3, rv dv5, rv b6] [(.int 4), (.int 3), (.int 45)]) _
    refine XS.bipush X7.here hx rfl (hb hby at_155) ?_
    show SF p e below T7 (mkF m 157 #[iv p0s, iv p1s, iv 3, iv dv3, rv w3, rv dv5, rv b6] [(.int 114), (.int 4), (.int 3), (.int 45)]) _
    refine st8 _ ?_
    show SF p e below T8 (mkF m 160 #[iv p0s, iv p1s, iv 3, iv dv3, rv w3, rv dv5, rv b6] [(.int 45), (.int 45)]) _
    refine XS.icmpNo X8.here hx rfl (hb hby at_160) rfl (teq (by decide : (45 : Int32) = (45 : Int32))).2 ?_
    show SF p e below T8 (mkF m 163 #[iv p0s, iv p1s, iv 3, iv dv3, rv w3, rv dv5, rv b6] []) _
    refine XS.aload X8.here hx rfl (hb hby at_163) rfl rfl ?_
    refine XS.iconst X8.here hx rfl (hb hby at_165) ?_
    show SF p e below T8 (mkF m 166 #[iv p0s, iv p1s, iv 3, iv dv3, rv w3, rv dv5, rv b6] [(.int 1), (.ref b6)]) _
    refine st11.trans ?_
    show SF p e below T11 (mkF m 169 #[iv p0s, iv p1s, iv 3, iv dv3, rv w3, rv dv5, rv b6] [(.int 119)]) _
    refine XS.iloadN X11.here hx rfl (hb hby at_169) rfl ?_
    refine XS.iconst X11.here hx rfl (hb hby at_170) ?_
    show SF p e below T11 (mkF m 171 #[iv p0s, iv p1s, iv 3, iv dv3, rv w3, rv dv5, rv b6] [(.int 2), (.int 3), (.int 119)]) _
    refine XS.bipush X11.here hx rfl (hb hby at_171) ?_
    show SF p e below T11 (mkF m 173 #[iv p0s, iv p1s, iv 3, iv dv3, rv w3, rv dv5, rv b6] [(.int 119), (.int 2), (.int 3), (.int 119)]) _
    refine st12 _ ?_
    show SF p e below T12 (mkF m 176 #[iv p0s, iv p1s, iv 3, iv dv3, rv w3, rv dv5, rv b6] [(.int 119), (.int 119)]) _
    refine XS.icmpNo X12.here hx rfl (hb hby at_176) rfl (teq (by decide : (119 : Int32) = (119 : Int32))).2 ?_
    show SF p e below T12 (mkF m 179 #[iv p0s, iv p1s, iv 3, iv dv3, rv w3, rv dv5, rv b6] []) _
    refine XS.aload X12.here hx rfl (hb hby at_179) rfl rfl ?_
    refine XS.iconst X12.here hx rfl (hb hby at_181) ?_
    show SF p e below T12 (mkF m 182 #[iv p0s, iv p1s, iv 3, iv dv3, rv w3, rv dv5, rv b6] [(.int 2), (.ref b6)]) _
    refine st15.trans ?_
    show SF p e below T15 (mkF m 185 #[iv p0s, iv p1s, iv 3, iv dv3, rv w3, rv dv5, rv b6] [(.int 120)]) _
    refine XS.iloadN X15.here hx rfl (hb hby at_185) rfl ?_
    refine XS.iconst X15.here hx rfl (hb hby at_186) ?_
    show SF p e below T15 (mkF m 187 #[iv p0s, iv p1s, iv 3, iv dv3, rv w3, rv dv5, rv b6] [(.int 1), (.int 3), (.int 120)]) _
    refine XS.bipush X15.here hx rfl (hb hby at_187) ?_
    show SF p e below T15 (mkF m 189 #[iv p0s, iv p1s, iv 3, iv dv3, rv w3, rv dv5, rv b6] [(.int 120), (.int 1), (.int 3), (.int 120)]) _
    refine st16 _ ?_
    show SF p e below T16 (mkF m 192 #[iv p0s, iv p1s, iv 3, iv dv3, rv w3, rv dv5, rv b6] [(.int 120), (.int 120)]) _
    refine XS.icmpNo X16.here hx rfl (hb hby at_192) rfl (teq (by decide : (120 : Int32) = (120 : Int32))).2 ?_
    show SF p e below T16 (mkF m 195 #[iv p0s, iv p1s, iv 3, iv dv3, rv w3, rv dv5, rv b6] []) _
    refine XS.iconst X16.here hx rfl (hb hby at_195) ?_
    refine XS.goto X16.here hx rfl (pc0 := 196) (pc' := 200) rfl (hb hby at_196) (by decide) (by decide) ?_
    show SF p e below T16 (mkF m 200 #[iv p0s, iv p1s, iv 3, iv dv3, rv w3, rv dv5, rv b6] [(.int 1)]) _
    exact retN X16 hx (t := .boolean) hre (by simp) (hb hby at_200) hr
  · exact ⟨rfl, N16⟩
set_option maxRecDepth 65536 in
set_option maxHeartbeats 400000000 in
theorem pc_10 {p : Program} {l : Launch} {e : Env} {s : State} {m : MethodId} {below : List Frame} {meth : Method} {c : Code} {T0 : State} {locs : List Loc} {Z : State} {a0 : Array Value} {h0 : Heap} {n0 : Nat} {p0s : Int32} {p1s : Int32} {GC : Int32} {GF : Value} {w3 : Addr} {w4 : Addr} {w5 : Addr} {w6 : Addr} {dv3 : Int32} {dv5 : Addr} (X0 : Stand p l e room_1 s m #[(.int p0s), (.int p1s)] below meth c T0 locs 0 0) (hx : p.tables.exec = Jvm.exec) (hZ : Z.Warmed39 s.vm) (hw : HW Z a0) (hby : c.code = code) (hml : c.maxLocals = 7) (hown : s.vm.findClass zs8 = some m.cls) (hre : meth.sig.returnType = some .boolean) (hlk : meth.locks = false) (e0 : T0.heap = h0) (N0 : Fr n0 locs) (Z0 : n0 ≤ h0.size) (O0 : Old Z n0 h0) (Sg0 : Sta Z Z.heap "java/lang/String" "COMPACT_STRINGS" "Z" (.int GC)) (Sg1 : Sta Z Z.heap zs9 "SIOOBE_FORMATTER" zs5 GF) (rGF : GF.isRef = true) (nzGC : ¬ (GC = (0 : Int32))) (E_w3 : Exa Z Z.heap w3 zs7) (Sg7 : Sta Z Z.heap zs7 "READ" zs4 (.ref w4)) (Sg9 : Sta Z Z.heap zs7 "WRITE" zs4 (.ref w5)) (Sg11 : Sta Z Z.heap zs7 "EXECUTE" zs4 (.ref w6)) (F_w4_bits : Fld Z Z.heap w4 zs7 "bits" "I" (.int 4)) (F_w5_bits : Fld Z Z.heap w5 zs7 "bits" "I" (.int 2)) (F_w6_bits : Fld Z Z.heap w6 zs7 "bits" "I" (.int 1)) (F_w3_bits : Fld Z Z.heap w3 zs7 "bits" "I" (.int 3)) (P1 : ¬ ((3 : Int32) = dv3)) (P2 : w3 ≠ dv5) :
    Fine p e below s n0 (T0.setTop (mkF m 22 #[iv p0s, iv p1s, iv 3, iv dv3, rv w3, rv dv5, .unset] [])) := by
  obtain ⟨cq1, kq1, q1a, q1b, q1c⟩ := isOf hZ e0 (E_w3.ext O0.2)
  obtain ⟨_, _, ⟨T1, L1, k1x, n1⟩, -, X1, ⟨Lc1, hQ1, l1, y1, z1⟩, st1⟩ := X0.virtualBack hx (y := (⟨zs7, "bits", "()I"⟩ : MethodName)) (z := (⟨zs7, "bits", "()I"⟩ : MethodName)) hown (mvT hZ (tw hw 6 rfl)) (mvT hZ (tw hw 7 rfl)) (notFace_of_selects (args := #[]) (mvT hZ (tw hw 9 rfl))) (mvT hZ (tw hw 9 rfl)) (mvT hZ (tw hw 8 rfl)) (by decide) (backOf (W := 0) (rm2_42 l Z a0 hw [] w3 h0 n0 Z0 F_w3_bits O0) hZ (tw hw 10 rfl) (tw hw 2 rfl) (by decide) (by decide)) q1a q1c (g := (mkF m 36 #[iv p0s, iv p1s, iv 3, iv dv3, rv w3, rv dv5, .unset] [(.ref w3)])) rfl (by rw [hml]; rfl) (Steps.refl _) (argsL := []) (rest := []) (lenOf pd_1 rfl) rfl (Nat.le_of_eq rfl) (hb hby at_36) (fun _ _ => ⟨rfl, e0, (by decide : 0 + 0 ≤ _), (by decide : 0 + 0 ≤ _)⟩)
  dsimp only [Pt.U, Pt.locs, Pt.cells, Pt.slots] at X1 l1 y1 z1 st1 hQ1
  subst l1 y1 z1
  obtain ⟨rfl, N1q, e1⟩ := hQ1
  have N1 := Fr.app N0 N1q
  refine Fine.pre (fun t k => ?_) (pc_11 (dv3 := dv3) (dv5 := dv5) X1 hx hZ hw hby hml hown hre hlk e1 N1 Z0 O0 Sg0 Sg1 rGF nzGC E_w3 Sg7 Sg9 Sg11 F_w4_bits F_w5_bits F_w6_bits F_w3_bits )
  show SF p e below T0 (mkF m 22 #[iv p0s, iv p1s, iv 3, iv dv3, rv w3, rv dv5, .unset] []) _
  refine XS.aload X0.here hx rfl (hb hby at_22) rfl rfl ?_
  show SF p e below T0 (mkF m 24 #[iv p0s, iv p1s, iv 3, iv dv3, rv w3, rv dv5, .unset] [(.ref w3)]) _
  refine XS.ifnullNo X0.here hx rfl (hb hby at_24) rfl ?_
  show SF p e below T0 (mkF m 27 #[iv p0s, iv p1s, iv 3, iv dv3, rv w3, rv dv5, .unset] []) _
  refine XS.aload X0.here hx rfl (hb hby at_27) rfl rfl ?_
  show SF p e below T0 (mkF m 29 #[iv p0s, iv p1s, iv 3, iv dv3, rv w3, rv dv5, .unset] [(.ref dv5)]) _
  refine XS.ifnonnullYes X0.here hx rfl (pc0 := 29) (pc' := 34) rfl (hb hby at_29) rfl (by decide) (by decide) ?_
  show SF p e below T0 (mkF m 34 #[iv p0s, iv p1s, iv 3, iv dv3, rv w3, rv dv5, .unset] []) _
  refine XS.aload X0.here hx rfl (hb hby at_34) rfl rfl ?_
  show SF p e below T0 (mkF m 36 #[iv p0s, iv p1s, iv 3, iv dv3, rv w3, rv dv5, .unset] [(.ref w3)]) _
  refine st1.trans ?_
  show SF p e below T1 (mkF m 39 #[iv p0s, iv p1s, iv 3, iv dv3, rv w3, rv dv5, .unset] [(.int 3)]) _
  refine XS.iloadN X1.here hx rfl (hb hby at_39) rfl ?_
  show SF p e below T1 (mkF m 40 #[iv p0s, iv p1s, iv 3, iv dv3, rv w3, rv dv5, .unset] [(.int 3), (.int 3)]) _
  refine XS.icmpYes X1.here hx rfl (pc0 := 40) (pc' := 45) rfl (hb hby at_40) rfl (teq (by decide : (3 : Int32) = (3 : Int32))).1 (by decide) (by decide) ?_
  show SF p e below T1 (mkF m 45 #[iv p0s, iv p1s, iv 3, iv dv3, rv w3, rv dv5, .unset] []) _
  refine XS.aload X1.here hx rfl (hb hby at_45) rfl rfl ?_
  refine XS.aload X1.here hx rfl (hb hby at_47) rfl rfl ?_
  show SF p e below T1 (mkF m 49 #[iv p0s, iv p1s, iv 3, iv dv3, rv w3, rv dv5, .unset] [(.ref dv5), (.ref w3)]) _
  refine Jvm.RoadKit.acmp (g := (mkF m 49 #[iv p0s, iv p1s, iv 3, iv dv3, rv w3, rv dv5, .unset] [(.ref dv5), (.ref w3)])) X1 hx rfl rfl rfl (pc0 := 49) (pc' := 56) (same := false) rfl (hb hby at_49) rfl (decide_eq_false fun q => P2 (Value.ref.inj q)) (by decide) (by decide) ?_
  show SF p e below T1 (mkF m 56 #[iv p0s, iv p1s, iv 3, iv dv3, rv w3, rv dv5, .unset] []) _
  refine XS.iconst X1.here hx rfl (hb hby at_56) ?_
  refine XS.iloadN X1.here hx rfl (hb hby at_57) rfl ?_
  show SF p e below T1 (mkF m 58 #[iv p0s, iv p1s, iv 3, iv dv3, rv w3, rv dv5, .unset] [(.int 3), (.int 0)]) _
  refine XS.iloadN X1.here hx rfl (hb hby at_58) rfl ?_
  show SF p e below T1 (mkF m 59 #[iv p0s, iv p1s, iv 3, iv dv3, rv w3, rv dv5, .unset] [(.int dv3), (.int 3), (.int 0)]) _
  refine XS.icmpYes X1.here hx rfl (pc0 := 59) (pc' := 66) rfl (hb hby at_59) rfl (feq P1).2 (by decide) (by decide) ?_
  show SF p e below T1 (mkF m 66 #[iv p0s, iv p1s, iv 3, iv dv3, rv w3, rv dv5, .unset] [(.int 0)]) _
  refine XS.iconst X1.here hx rfl (hb hby at_66) ?_
  show SF p e below T1 (mkF m 67 #[iv p0s, iv p1s, iv 3, iv dv3, rv w3, rv dv5, .unset] [(.int 0), (.int 0)]) _
  refine XS.icmpYes X1.here hx rfl (pc0 := 67) (pc' := 72) rfl (hb hby at_67) rfl (teq (by decide : (0 : Int32) = (0 : Int32))).1 (by decide) (by decide) ?_
  exact k
set_option maxRecDepth 65536 in
set_option maxHeartbeats 400000000 in
theorem pc_12 {p : Program} {l : Launch} {e : Env} {s : State} {m : MethodId} {below : List Frame} {meth : Method} {c : Code} {T0 : State} {locs : List Loc} {Z : State} {a0 : Array Value} {h0 : Heap} {n0 : Nat} {p0s : Int32} {p1s : Int32} {GC : Int32} {GF : Value} {w3 : Addr} {w4 : Addr} {w5 : Addr} {w6 : Addr}  (X0 : Stand p l e room_1 s m #[(.int p0s), (.int p1s)] below meth c T0 locs 0 0) (hx : p.tables.exec = Jvm.exec) (hZ : Z.Warmed39 s.vm) (hw : HW Z a0) (hby : c.code = code) (hml : c.maxLocals = 7) (hown : s.vm.findClass zs8 = some m.cls) (hre : meth.sig.returnType = some .boolean) (hlk : meth.locks = false) (e0 : T0.heap = h0) (N0 : Fr n0 locs) (Z0 : n0 ≤ h0.size) (O0 : Old Z n0 h0) (Sg0 : Sta Z Z.heap "java/lang/String" "COMPACT_STRINGS" "Z" (.int GC)) (Sg1 : Sta Z Z.heap zs9 "SIOOBE_FORMATTER" zs5 GF) (rGF : GF.isRef = true) (nzGC : ¬ (GC = (0 : Int32))) (E_w3 : Exa Z Z.heap w3 zs7) (Sg7 : Sta Z Z.heap zs7 "READ" zs4 (.ref w4)) (Sg9 : Sta Z Z.heap zs7 "WRITE" zs4 (.ref w5)) (Sg11 : Sta Z Z.heap zs7 "EXECUTE" zs4 (.ref w6)) (F_w4_bits : Fld Z Z.heap w4 zs7 "bits" "I" (.int 4)) (F_w5_bits : Fld Z Z.heap w5 zs7 "bits" "I" (.int 2)) (F_w6_bits : Fld Z Z.heap w6 zs7 "bits" "I" (.int 1)) (F_w3_bits : Fld Z Z.heap w3 zs7 "bits" "I" (.int 3)) :
    Fine p e below s n0 (T0.setTop (mkF m 22 #[iv p0s, iv p1s, iv 3, iv 3, rv w3, rv w3, .unset] [])) := by
  obtain ⟨cq1, kq1, q1a, q1b, q1c⟩ := isOf hZ e0 (E_w3.ext O0.2)
  obtain ⟨_, _, ⟨T1, L1, k1x, n1⟩, -, X1, ⟨Lc1, hQ1, l1, y1, z1⟩, st1⟩ := X0.virtualBack hx (y := (⟨zs7, "bits", "()I"⟩ : MethodName)) (z := (⟨zs7, "bits", "()I"⟩ : MethodName)) hown (mvT hZ (tw hw 6 rfl)) (mvT hZ (tw hw 7 rfl)) (notFace_of_selects (args := #[]) (mvT hZ (tw hw 9 rfl))) (mvT hZ (tw hw 9 rfl)) (mvT hZ (tw hw 8 rfl)) (by decide) (backOf (W := 0) (rm2_42 l Z a0 hw [] w3 h0 n0 Z0 F_w3_bits O0) hZ (tw hw 10 rfl) (tw hw 2 rfl) (by decide) (by decide)) q1a q1c (g := (mkF m 36 #[iv p0s, iv p1s, iv 3, iv 3, rv w3, rv w3, .unset] [(.ref w3)])) rfl (by rw [hml]; rfl) (Steps.refl _) (argsL := []) (rest := []) (lenOf pd_1 rfl) rfl (Nat.le_of_eq rfl) (hb hby at_36) (fun _ _ => ⟨rfl, e0, (by decide : 0 + 0 ≤ _), (by decide : 0 + 0 ≤ _)⟩)
  dsimp only [Pt.U, Pt.locs, Pt.cells, Pt.slots] at X1 l1 y1 z1 st1 hQ1
  subst l1 y1 z1
  obtain ⟨rfl, N1q, e1⟩ := hQ1
  have N1 := Fr.app N0 N1q
  refine Fine.pre (fun t k => ?_) (pc_11 (dv3 := (3 : Int32)) (dv5 := w3) X1 hx hZ hw hby hml hown hre hlk e1 N1 Z0 O0 Sg0 Sg1 rGF nzGC E_w3 Sg7 Sg9 Sg11 F_w4_bits F_w5_bits F_w6_bits F_w3_bits )
  show SF p e below T0 (mkF m 22 #[iv p0s, iv p1s, iv 3, iv 3, rv w3, rv w3, .unset] []) _
  refine XS.aload X0.here hx rfl (hb hby at_22) rfl rfl ?_
  show SF p e below T0 (mkF m 24 #[iv p0s, iv p1s, iv 3, iv 3, rv w3, rv w3, .unset] [(.ref w3)]) _
  refine XS.ifnullNo X0.here hx rfl (hb hby at_24) rfl ?_
  show SF p e below T0 (mkF m 27 #[iv p0s, iv p1s, iv 3, iv 3, rv w3, rv w3, .unset] []) _
  refine XS.aload X0.here hx rfl (hb hby at_27) rfl rfl ?_
  show SF p e below T0 (mkF m 29 #[iv p0s, iv p1s, iv 3, iv 3, rv w3, rv w3, .unset] [(.ref w3)]) _
  refine XS.ifnonnullYes X0.here hx rfl (pc0 := 29) (pc' := 34) rfl (hb hby at_29) rfl (by decide) (by decide) ?_
  show SF p e below T0 (mkF m 34 #[iv p0s, iv p1s, iv 3, iv 3, rv w3, rv w3, .unset] []) _
  refine XS.aload X0.here hx rfl (hb hby at_34) rfl rfl ?_
  show SF p e below T0 (mkF m 36 #[iv p0s, iv p1s, iv 3, iv 3, rv w3, rv w3, .unset] [(.ref w3)]) _
  refine st1.trans ?_
  show SF p e below T1 (mkF m 39 #[iv p0s, iv p1s, iv 3, iv 3, rv w3, rv w3, .unset] [(.int 3)]) _
  refine XS.iloadN X1.here hx rfl (hb hby at_39) rfl ?_
  show SF p e below T1 (mkF m 40 #[iv p0s, iv p1s, iv 3, iv 3, rv w3, rv w3, .unset] [(.int 3), (.int 3)]) _
  refine XS.icmpYes X1.here hx rfl (pc0 := 40) (pc' := 45) rfl (hb hby at_40) rfl (teq (by decide : (3 : Int32) = (3 : Int32))).1 (by decide) (by decide) ?_
  show SF p e below T1 (mkF m 45 #[iv p0s, iv p1s, iv 3, iv 3, rv w3, rv w3, .unset] []) _
  refine XS.aload X1.here hx rfl (hb hby at_45) rfl rfl ?_
  refine XS.aload X1.here hx rfl (hb hby at_47) rfl rfl ?_
  show SF p e below T1 (mkF m 49 #[iv p0s, iv p1s, iv 3, iv 3, rv w3, rv w3, .unset] [(.ref w3), (.ref w3)]) _
  refine Jvm.RoadKit.acmp (g := (mkF m 49 #[iv p0s, iv p1s, iv 3, iv 3, rv w3, rv w3, .unset] [(.ref w3), (.ref w3)])) X1 hx rfl rfl rfl (pc0 := 49) (pc' := 52) (same := true) rfl (hb hby at_49) rfl (decide_eq_true rfl) (by decide) (by decide) ?_
  show SF p e below T1 (mkF m 52 #[iv p0s, iv p1s, iv 3, iv 3, rv w3, rv w3, .unset] []) _
  refine XS.iconst X1.here hx rfl (hb hby at_52) ?_
  refine XS.goto X1.here hx rfl (pc0 := 53) (pc' := 57) rfl (hb hby at_53) (by decide) (by decide) ?_
  show SF p e below T1 (mkF m 57 #[iv p0s, iv p1s, iv 3, iv 3, rv w3, rv w3, .unset] [(.int 1)]) _
  refine XS.iloadN X1.here hx rfl (hb hby at_57) rfl ?_
  refine XS.iloadN X1.here hx rfl (hb hby at_58) rfl ?_
  show SF p e below T1 (mkF m 59 #[iv p0s, iv p1s, iv 3, iv 3, rv w3, rv w3, .unset] [(.int 3), (.int 3), (.int 1)]) _
  refine XS.icmpNo X1.here hx rfl (hb hby at_59) rfl (teq (by decide : (3 : Int32) = (3 : Int32))).2 ?_
  show SF p e below T1 (mkF m 62 #[iv p0s, iv p1s, iv 3, iv 3, rv w3, rv w3, .unset] [(.int 1)]) _
  refine XS.iconst X1.here hx rfl (hb hby at_62) ?_
  refine XS.goto X1.here hx rfl (pc0 := 63) (pc' := 67) rfl (hb hby at_63) (by decide) (by decide) ?_
  show SF p e below T1 (mkF m 67 #[iv p0s, iv p1s, iv 3, iv 3, rv w3, rv w3, .unset] [(.int 1), (.int 1)]) _
  refine XS.icmpYes X1.here hx rfl (pc0 := 67) (pc' := 72) rfl (hb hby at_67) rfl (teq (by decide : (1 : Int32) = (1 : Int32))).1 (by decide) (by decide) ?_
  exact k
-- Rights.bits 
def Q2_53 (Z : State) (w4 : Addr) (h0 : Heap) (n0 : Nat) (v : Option Value) (h : Heap) (L : List Loc) : Prop := v = some (.int 4) ∧ Fr n0 L ∧ h = h0
set_option maxRecDepth 65536 in
set_option maxHeartbeats 40000000 in
theorem rm2_53 (l : Launch) (Z : State) (a0 : Array Value) (hw : HW Z a0) (ws : List Jvm.Cond) (w4 : Addr) (h0 : Heap) (n0 : Nat) (Z0 : n0 ≤ h0.size) (F_w4_bits : Fld Z Z.heap w4 zs7 "bits" "I" (.int 4)) (P2 : Old Z n0 h0) :
    MF l Z (⟨zs7, "bits", "()I"⟩ : MethodName) (Jvm.Cond.code (⟨zs7, "bits", "()I"⟩ : MethodName) prog_35_method_3_code 1 (some .int)) ws ({ frames := 0, cells := 0, slots := 0, locals := 0 } : Room) #[(.ref w4)] h0 (Q2_53 Z w4 h0 n0) := by
  refine own_enter (plainFor_of_name pn_0) fun p e s m below meth c s₁ X0 hx hby hml hown hnm hZ e0 hre hlk => ?_
  have N0 := Fr.nil n0
  have pre0 : ∀ t, SF p e below s₁ (mkF m 0 #[rv w4] []) t → SF p e below s₁ (entryFrame m #[(.ref w4)] 1) t := fun t k => castTop (ef_1 m w4) k
  obtain ⟨T1, X1, e1, st1⟩ := getF X0 hx hZ hown (host := "") (Or.inl (tw hw 11 rfl)) Via.refl e0 (F_w4_bits.ext P2.2) (g := (mkF m 1 #[rv w4] [(.ref w4)])) rfl rfl (hb hby d2_1)
  obtain ⟨fs, hr, hrun, hended, hW, hsame⟩ := X1.leave (v := some (.int 4)) (fun h => by rw [hre] at h; cases h)
  refine ⟨_, _, pre0 _ ?_, hrun, hended, _, _, rfl, ?_, ⟨_, rfl⟩, hW, hsame.mono (by decide) (by decide)⟩
  · show SF p e below s₁ (mkF m 0 #[rv w4] []) _
    refine XS.aloadN X0.here hx rfl (hb hby d2_0) rfl rfl ?_
    show SF p e below s₁ (mkF m 1 #[rv w4] [(.ref w4)]) _
    refine st1 _ ?_
    show SF p e below T1 (mkF m 4 #[rv w4] [(.int 4)]) _
    exact retI X1 hx hre (hb hby d2_4) hr
  · show Q2_53 Z w4 h0 n0 _ T1.heap _
    rw [e1]
    exact ⟨rfl, N0, rfl⟩
-- Rights.containsAll 
def Q5_54 (Z : State) (w4 : Addr) (h0 : Heap) (n0 : Nat) (v : Option Value) (h : Heap) (L : List Loc) : Prop := v = some (.int 1) ∧ Fr n0 L ∧ h = h0
set_option maxRecDepth 65536 in
set_option maxHeartbeats 40000000 in
theorem rm5_54 (l : Launch) (Z : State) (a0 : Array Value) (hw : HW Z a0) (ws : List Jvm.Cond) (w4 : Addr) (h0 : Heap) (n0 : Nat) (Z0 : n0 ≤ h0.size) (F_w4_bits : Fld Z Z.heap w4 zs7 "bits" "I" (.int 4)) (P2 : Old Z n0 h0) :
    MF l Z (⟨zs7, "containsAll", zs2⟩ : MethodName) (Jvm.Cond.code (⟨zs7, "containsAll", zs2⟩ : MethodName) prog_35_method_4_code 2 (some .boolean)) ws ({ frames := 0, cells := 0, slots := 0, locals := 0 } : Room) #[(.ref w4), (.ref w4)] h0 (Q5_54 Z w4 h0 n0) := by
  refine own_enter (plainFor_of_name pn_0) fun p e s m below meth c s₁ X0 hx hby hml hown hnm hZ e0 hre hlk => ?_
  have N0 := Fr.nil n0
  have pre0 : ∀ t, SF p e below s₁ (mkF m 0 #[rv w4, rv w4] []) t → SF p e below s₁ (entryFrame m #[(.ref w4), (.ref w4)] 2) t := fun t k => castTop (ef_2 m w4 w4) k
  obtain ⟨T1, X1, e1, st1⟩ := getF X0 hx hZ hown (host := "") (Or.inl (tw hw 11 rfl)) Via.refl e0 (F_w4_bits.ext P2.2) (g := (mkF m 1 #[rv w4, rv w4] [(.ref w4)])) rfl rfl (hb hby d5_1)
  obtain ⟨T2, X2, e2, st2⟩ := getF X1 hx hZ hown (host := "") (Or.inl (tw hw 11 rfl)) Via.refl e1 (F_w4_bits.ext P2.2) (g := (mkF m 5 #[rv w4, rv w4] [(.ref w4), (.int 4)])) rfl rfl (hb hby d5_5)
  obtain ⟨fs, hr, hrun, hended, hW, hsame⟩ := X2.leave (v := some (.int 1)) (fun h => by rw [hre] at h; cases h)
  refine ⟨_, _, pre0 _ ?_, hrun, hended, _, _, rfl, ?_, ⟨_, rfl⟩, hW, hsame.mono (by decide) (by decide)⟩
  · show SF p e below s₁ (mkF m 0 #[rv w4, rv w4] []) _
    refine XS.aloadN X0.here hx rfl (hb hby d5_0) rfl rfl ?_
    show SF p e below s₁ (mkF m 1 #[rv w4, rv w4] [(.ref w4)]) _
    refine st1 _ ?_
    show SF p e below T1 (mkF m 4 #[rv w4, rv w4] [(.int 4)]) _
    refine XS.aloadN X1.here hx rfl (hb hby d5_4) rfl rfl ?_
    show SF p e below T1 (mkF m 5 #[rv w4, rv w4] [(.ref w4), (.int 4)]) _
    refine st2 _ ?_
    show SF p e below T2 (mkF m 8 #[rv w4, rv w4] [(.int 4), (.int 4)]) _
    refine XS.iconst X2.here hx rfl (hb hby d5_8) ?_
    show SF p e below T2 (mkF m 9 #[rv w4, rv w4] [(.int (-1)), (.int 4), (.int 4)]) _
    refine XS.ixor X2.here hx rfl (hb hby d5_9) rfl ?_
    show SF p e below T2 (mkF m 10 #[rv w4, rv w4] [(.int ((4 : Int32) ^^^ (-1 : Int32))), (.int 4)]) _
    rw [show ((4 : Int32) ^^^ (-1 : Int32)) = (-5 : Int32) from by decide]
    show SF p e below T2 (mkF m 10 #[rv w4, rv w4] [(.int (-5)), (.int 4)]) _
    refine XS.iand X2.here hx rfl (hb hby d5_10) rfl ?_
    show SF p e below T2 (mkF m 11 #[rv w4, rv w4] [(.int ((4 : Int32) &&& (-5 : Int32)))]) _
    rw [show ((4 : Int32) &&& (-5 : Int32)) = (0 : Int32) from by decide]
    show SF p e below T2 (mkF m 11 #[rv w4, rv w4] [(.int 0)]) _
    refine XS.ifNo X2.here hx rfl (hb hby d5_11) rfl ((if0 _ _).trans (teq (by decide : (0 : Int32) = (0 : Int32))).2) ?_
    show SF p e below T2 (mkF m 14 #[rv w4, rv w4] []) _
    refine XS.iconst X2.here hx rfl (hb hby d5_14) ?_
    refine XS.goto X2.here hx rfl (pc0 := 15) (pc' := 19) rfl (hb hby d5_15) (by decide) (by decide) ?_
    show SF p e below T2 (mkF m 19 #[rv w4, rv w4] [(.int 1)]) _
    exact retN X2 hx (t := .boolean) hre (by simp) (hb hby d5_19) hr
  · show Q5_54 Z w4 h0 n0 _ T2.heap _
    rw [e2]
    exact ⟨rfl, N0, rfl⟩
-- Rights.letter 
def Q4_55 (Z : State) (w4 : Addr) (h0 : Heap) (n0 : Nat) (v : Option Value) (h : Heap) (L : List Loc) : Prop := v = some (.int 114) ∧ Fr n0 L ∧ h = h0
set_option maxRecDepth 65536 in
set_option maxHeartbeats 40000000 in
theorem rm4_55 (l : Launch) (Z : State) (a0 : Array Value) (hw : HW Z a0) (ws : List Jvm.Cond) (w4 : Addr) (h0 : Heap) (n0 : Nat) (Z0 : n0 ≤ h0.size) (E_w4 : Exa Z Z.heap w4 zs7) (P2 : Old Z n0 h0) (F_w4_bits : Fld Z Z.heap w4 zs7 "bits" "I" (.int 4)) :
    MF l Z (⟨zs7, "letter", zs3⟩ : MethodName) (Jvm.Cond.code (⟨zs7, "letter", zs3⟩ : MethodName) prog_35_method_6_code 3 (some .char)) ws ({ frames := 1, cells := 0, slots := 0, locals := 13 } : Room) #[(.ref w4), (.ref w4), (.int 114)] h0 (Q4_55 Z w4 h0 n0) := by
  refine own_enter (plainFor_of_name pn_0) fun p e s m below meth c s₁ X0 hx hby hml hown hnm hZ e0 hre hlk => ?_
  have N0 := Fr.nil n0
  have pre0 : ∀ t, SF p e below s₁ (mkF m 0 #[rv w4, rv w4, iv 114] []) t → SF p e below s₁ (entryFrame m #[(.ref w4), (.ref w4), (.int 114)] 3) t := fun t k => castTop (ef_3 m w4 w4 (114 : Int32)) k
  obtain ⟨cq1, kq1, q1a, q1b, q1c⟩ := isOf hZ e0 (E_w4.ext P2.2)
  obtain ⟨_, _, ⟨T1, L1, k1x, n1⟩, -, X1, ⟨Lc1, hQ1, l1, y1, z1⟩, st1⟩ := X0.virtualBack hx (y := (⟨zs7, "containsAll", zs2⟩ : MethodName)) (z := (⟨zs7, "containsAll", zs2⟩ : MethodName)) hown (mvT hZ (tw hw 30 rfl)) (mvT hZ (tw hw 31 rfl)) (notFace_of_selects (args := #[]) (mvT hZ (tw hw 33 rfl))) (mvT hZ (tw hw 33 rfl)) (mvT hZ (tw hw 32 rfl)) (by decide) (backOf (W := 0) (rm5_54 l Z a0 hw [] w4 h0 n0 Z0 F_w4_bits P2) hZ (tw hw 34 rfl) (tw hw 2 rfl) (by decide) (by decide)) q1a q1c (g := (mkF m 2 #[rv w4, rv w4, iv 114] [(.ref w4), (.ref w4)])) rfl (by rw [hml]; rfl) (Steps.refl _) (argsL := [(.ref w4)]) (rest := []) (lenOf pd_2 rfl) rfl (Nat.le_of_eq rfl) (hb hby d4_2) (fun _ _ => ⟨rfl, e0, (by decide : 0 + 0 ≤ _), (by decide : 0 + 0 ≤ _)⟩)
  dsimp only [Pt.U, Pt.locs, Pt.cells, Pt.slots] at X1 l1 y1 z1 st1 hQ1
  subst l1 y1 z1
  obtain ⟨rfl, N1q, e1⟩ := hQ1
  have N1 := Fr.app N0 N1q
  obtain ⟨fs, hr, hrun, hended, hW, hsame⟩ := X1.leave (v := some (.int 114)) (fun h => by rw [hre] at h; cases h)
  refine ⟨_, _, pre0 _ ?_, hrun, hended, _, _, rfl, ?_, ⟨_, rfl⟩, hW, hsame.mono (by decide) (by decide)⟩
  · show SF p e below s₁ (mkF m 0 #[rv w4, rv w4, iv 114] []) _
    refine XS.aloadN X0.here hx rfl (hb hby d4_0) rfl rfl ?_
    refine XS.aloadN X0.here hx rfl (hb hby d4_1) rfl rfl ?_
    show SF p e below s₁ (mkF m 2 #[rv w4, rv w4, iv 114] [(.ref w4), (.ref w4)]) _
    refine st1.trans ?_
    show SF p e below T1 (mkF m 5 #[rv w4, rv w4, iv 114] [(.int 1)]) _
    refine XS.ifNo X1.here hx rfl (hb hby d4_5) rfl ((if0 _ _).trans (feq (by decide : ¬ ((1 : Int32) = (0 : Int32)))).1) ?_
    show SF p e below T1 (mkF m 8 #[rv w4, rv w4, iv 114] []) _
    refine XS.iloadN X1.here hx rfl (hb hby d4_8) rfl ?_
    refine XS.goto X1.here hx rfl (pc0 := 9) (pc' := 14) rfl (hb hby d4_9) (by decide) (by decide) ?_
    show SF p e below T1 (mkF m 14 #[rv w4, rv w4, iv 114] [(.int 114)]) _
    exact retN X1 hx (t := .char) hre (by simp) (hb hby d4_14) hr
  · show Q4_55 Z w4 h0 n0 _ T1.heap _
    rw [e1]
    exact ⟨rfl, N1, rfl⟩
-- Rights.containsAll 
def Q5_56 (Z : State) (w4 : Addr) (w5 : Addr) (h0 : Heap) (n0 : Nat) (v : Option Value) (h : Heap) (L : List Loc) : Prop := v = some (.int 0) ∧ Fr n0 L ∧ h = h0
set_option maxRecDepth 65536 in
set_option maxHeartbeats 40000000 in
theorem rm5_56 (l : Launch) (Z : State) (a0 : Array Value) (hw : HW Z a0) (ws : List Jvm.Cond) (w4 : Addr) (w5 : Addr) (h0 : Heap) (n0 : Nat) (Z0 : n0 ≤ h0.size) (F_w5_bits : Fld Z Z.heap w5 zs7 "bits" "I" (.int 2)) (P2 : Old Z n0 h0) (F_w4_bits : Fld Z Z.heap w4 zs7 "bits" "I" (.int 4)) :
    MF l Z (⟨zs7, "containsAll", zs2⟩ : MethodName) (Jvm.Cond.code (⟨zs7, "containsAll", zs2⟩ : MethodName) prog_35_method_4_code 2 (some .boolean)) ws ({ frames := 0, cells := 0, slots := 0, locals := 0 } : Room) #[(.ref w4), (.ref w5)] h0 (Q5_56 Z w4 w5 h0 n0) := by
  refine own_enter (plainFor_of_name pn_0) fun p e s m below meth c s₁ X0 hx hby hml hown hnm hZ e0 hre hlk => ?_
  have N0 := Fr.nil n0
  have pre0 : ∀ t, SF p e below s₁ (mkF m 0 #[rv w4, rv w5] []) t → SF p e below s₁ (entryFrame m #[(.ref w4), (.ref w5)] 2) t := fun t k => castTop (ef_2 m w4 w5) k
  obtain ⟨T1, X1, e1, st1⟩ := getF X0 hx hZ hown (host := "") (Or.inl (tw hw 11 rfl)) Via.refl e0 (F_w5_bits.ext P2.2) (g := (mkF m 1 #[rv w4, rv w5] [(.ref w5)])) rfl rfl (hb hby d5_1)
  obtain ⟨T2, X2, e2, st2⟩ := getF X1 hx hZ hown (host := "") (Or.inl (tw hw 11 rfl)) Via.refl e1 (F_w4_bits.ext P2.2) (g := (mkF m 5 #[rv w4, rv w5] [(.ref w4), (.int 2)])) rfl rfl (hb hby d5_5)
  obtain ⟨fs, hr, hrun, hended, hW, hsame⟩ := X2.leave (v := some (.int 0)) (fun h => by rw [hre] at h; cases h)
  refine ⟨_, _, pre0 _ ?_, hrun, hended, _, _, rfl, ?_, ⟨_, rfl⟩, hW, hsame.mono (by decide) (by decide)⟩
  · show SF p e below s₁ (mkF m 0 #[rv w4, rv w5] []) _
    refine XS.aloadN X0.here hx rfl (hb hby d5_0) rfl rfl ?_
    show SF p e below s₁ (mkF m 1 #[rv w4, rv w5] [(.ref w5)]) _
    refine st1 _ ?_
    show SF p e below T1 (mkF m 4 #[rv w4, rv w5] [(.int 2)]) _
    refine XS.aloadN X1.here hx rfl (hb hby d5_4) rfl rfl ?_
    show SF p e below T1 (mkF m 5 #[rv w4, rv w5] [(.ref w4), (.int 2)]) _
    refine st2 _ ?_
    show SF p e below T2 (mkF m 8 #[rv w4, rv w5] [(.int 4), (.int 2)]) _
    refine XS.iconst X2.here hx rfl (hb hby d5_8) ?_
    show SF p e below T2 (mkF m 9 #[rv w4, rv w5] [(.int (-1)), (.int 4), (.int 2)]) _
    refine XS.ixor X2.here hx rfl (hb hby d5_9) rfl ?_
    show SF p e below T2 (mkF m 10 #[rv w4, rv w5] [(.int ((4 : Int32) ^^^ (-1 : Int32))), (.int 2)]) _
    rw [show ((4 : Int32) ^^^ (-1 : Int32)) = (-5 : Int32) from by decide]
    show SF p e below T2 (mkF m 10 #[rv w4, rv w5] [(.int (-5)), (.int 2)]) _
    refine XS.iand X2.here hx rfl (hb hby d5_10) rfl ?_
    show SF p e below T2 (mkF m 11 #[rv w4, rv w5] [(.int ((2 : Int32) &&& (-5 : Int32)))]) _
    rw [show ((2 : Int32) &&& (-5 : Int32)) = (2 : Int32) from by decide]
    show SF p e below T2 (mkF m 11 #[rv w4, rv w5] [(.int 2)]) _
    refine XS.ifYes X2.here hx rfl (pc0 := 11) (pc' := 18) rfl (hb hby d5_11) rfl ((if0 _ _).trans (feq (by decide : ¬ ((2 : Int32) = (0 : Int32)))).2) (by decide) (by decide) ?_
    show SF p e below T2 (mkF m 18 #[rv w4, rv w5] []) _
    refine XS.iconst X2.here hx rfl (hb hby d5_18) ?_
    show SF p e below T2 (mkF m 19 #[rv w4, rv w5] [(.int 0)]) _
    exact retN X2 hx (t := .boolean) hre (by simp) (hb hby d5_19) hr
  · show Q5_56 Z w4 w5 h0 n0 _ T2.heap _
    rw [e2]
    exact ⟨rfl, N0, rfl⟩
-- Rights.letter 
def Q4_57 (Z : State) (w4 : Addr) (w5 : Addr) (h0 : Heap) (n0 : Nat) (v : Option Value) (h : Heap) (L : List Loc) : Prop := v = some (.int 45) ∧ Fr n0 L ∧ h = h0
set_option maxRecDepth 65536 in
set_option maxHeartbeats 40000000 in
theorem rm4_57 (l : Launch) (Z : State) (a0 : Array Value) (hw : HW Z a0) (ws : List Jvm.Cond) (w4 : Addr) (w5 : Addr) (h0 : Heap) (n0 : Nat) (Z0 : n0 ≤ h0.size) (E_w4 : Exa Z Z.heap w4 zs7) (P2 : Old Z n0 h0) (F_w5_bits : Fld Z Z.heap w5 zs7 "bits" "I" (.int 2)) (F_w4_bits : Fld Z Z.heap w4 zs7 "bits" "I" (.int 4)) :
    MF l Z (⟨zs7, "letter", zs3⟩ : MethodName) (Jvm.Cond.code (⟨zs7, "letter", zs3⟩ : MethodName) prog_35_method_6_code 3 (some .char)) ws ({ frames := 1, cells := 0, slots := 0, locals := 13 } : Room) #[(.ref w4), (.ref w5), (.int 119)] h0 (Q4_57 Z w4 w5 h0 n0) := by
  refine own_enter (plainFor_of_name pn_0) fun p e s m below meth c s₁ X0 hx hby hml hown hnm hZ e0 hre hlk => ?_
  have N0 := Fr.nil n0
  have pre0 : ∀ t, SF p e below s₁ (mkF m 0 #[rv w4, rv w5, iv 119] []) t → SF p e below s₁ (entryFrame m #[(.ref w4), (.ref w5), (.int 119)] 3) t := fun t k => castTop (ef_3 m w4 w5 (119 : Int32)) k
  obtain ⟨cq1, kq1, q1a, q1b, q1c⟩ := isOf hZ e0 (E_w4.ext P2.2)
  obtain ⟨_, _, ⟨T1, L1, k1x, n1⟩, -, X1, ⟨Lc1, hQ1, l1, y1, z1⟩, st1⟩ := X0.virtualBack hx (y := (⟨zs7, "containsAll", zs2⟩ : MethodName)) (z := (⟨zs7, "containsAll", zs2⟩ : MethodName)) hown (mvT hZ (tw hw 30 rfl)) (mvT hZ (tw hw 31 rfl)) (notFace_of_selects (args := #[]) (mvT hZ (tw hw 33 rfl))) (mvT hZ (tw hw 33 rfl)) (mvT hZ (tw hw 32 rfl)) (by decide) (backOf (W := 0) (rm5_56 l Z a0 hw [] w4 w5 h0 n0 Z0 F_w5_bits P2 F_w4_bits) hZ (tw hw 34 rfl) (tw hw 2 rfl) (by decide) (by decide)) q1a q1c (g := (mkF m 2 #[rv w4, rv w5, iv 119] [(.ref w5), (.ref w4)])) rfl (by rw [hml]; rfl) (Steps.refl _) (argsL := [(.ref w5)]) (rest := []) (lenOf pd_2 rfl) rfl (Nat.le_of_eq rfl) (hb hby d4_2) (fun _ _ => ⟨rfl, e0, (by decide : 0 + 0 ≤ _), (by decide : 0 + 0 ≤ _)⟩)
  dsimp only [Pt.U, Pt.locs, Pt.cells, Pt.slots] at X1 l1 y1 z1 st1 hQ1
  subst l1 y1 z1
  obtain ⟨rfl, N1q, e1⟩ := hQ1
  have N1 := Fr.app N0 N1q
  obtain ⟨fs, hr, hrun, hended, hW, hsame⟩ := X1.leave (v := some (.int 45)) (fun h => by rw [hre] at h; cases h)
  refine ⟨_, _, pre0 _ ?_, hrun, hended, _, _, rfl, ?_, ⟨_, rfl⟩, hW, hsame.mono (by decide) (by decide)⟩
  · show SF p e below s₁ (mkF m 0 #[rv w4, rv w5, iv 119] []) _
    refine XS.aloadN X0.here hx rfl (hb hby d4_0) rfl rfl ?_
    refine XS.aloadN X0.here hx rfl (hb hby d4_1) rfl rfl ?_
    show SF p e below s₁ (mkF m 2 #[rv w4, rv w5, iv 119] [(.ref w5), (.ref w4)]) _
    refine st1.trans ?_
    show SF p e below T1 (mkF m 5 #[rv w4, rv w5, iv 119] [(.int 0)]) _
    refine XS.ifYes X1.here hx rfl (pc0 := 5) (pc' := 12) rfl (hb hby d4_5) rfl ((if0 _ _).trans (teq (by decide : (0 : Int32) = (0 : Int32))).1) (by decide) (by decide) ?_
    show SF p e below T1 (mkF m 12 #[rv w4, rv w5, iv 119] []) _
    refine XS.bipush X1.here hx rfl (hb hby d4_12) ?_
    show SF p e below T1 (mkF m 14 #[rv w4, rv w5, iv 119] [(.int 45)]) _
    exact retN X1 hx (t := .char) hre (by simp) (hb hby d4_14) hr
  · show Q4_57 Z w4 w5 h0 n0 _ T1.heap _
    rw [e1]
    exact ⟨rfl, N1, rfl⟩
-- Rights.containsAll 
def Q5_58 (Z : State) (w4 : Addr) (w6 : Addr) (h0 : Heap) (n0 : Nat) (v : Option Value) (h : Heap) (L : List Loc) : Prop := v = some (.int 0) ∧ Fr n0 L ∧ h = h0
set_option maxRecDepth 65536 in
set_option maxHeartbeats 40000000 in
theorem rm5_58 (l : Launch) (Z : State) (a0 : Array Value) (hw : HW Z a0) (ws : List Jvm.Cond) (w4 : Addr) (w6 : Addr) (h0 : Heap) (n0 : Nat) (Z0 : n0 ≤ h0.size) (F_w6_bits : Fld Z Z.heap w6 zs7 "bits" "I" (.int 1)) (P2 : Old Z n0 h0) (F_w4_bits : Fld Z Z.heap w4 zs7 "bits" "I" (.int 4)) :
    MF l Z (⟨zs7, "containsAll", zs2⟩ : MethodName) (Jvm.Cond.code (⟨zs7, "containsAll", zs2⟩ : MethodName) prog_35_method_4_code 2 (some .boolean)) ws ({ frames := 0, cells := 0, slots := 0, locals := 0 } : Room) #[(.ref w4), (.ref w6)] h0 (Q5_58 Z w4 w6 h0 n0) := by
  refine own_enter (plainFor_of_name pn_0) fun p e s m below meth c s₁ X0 hx hby hml hown hnm hZ e0 hre hlk => ?_
  have N0 := Fr.nil n0
  have pre0 : ∀ t, SF p e below s₁ (mkF m 0 #[rv w4, rv w6] []) t → SF p e below s₁ (entryFrame m #[(.ref w4), (.ref w6)] 2) t := fun t k => castTop (ef_2 m w4 w6) k
  obtain ⟨T1, X1, e1, st1⟩ := getF X0 hx hZ hown (host := "") (Or.inl (tw hw 11 rfl)) Via.refl e0 (F_w6_bits.ext P2.2) (g := (mkF m 1 #[rv w4, rv w6] [(.ref w6)])) rfl rfl (hb hby d5_1)
  obtain ⟨T2, X2, e2, st2⟩ := getF X1 hx hZ hown (host := "") (Or.inl (tw hw 11 rfl)) Via.refl e1 (F_w4_bits.ext P2.2) (g := (mkF m 5 #[rv w4, rv w6] [(.ref w4), (.int 1)])) rfl rfl (hb hby d5_5)
  obtain ⟨fs, hr, hrun, hended, hW, hsame⟩ := X2.leave (v := some (.int 0)) (fun h => by rw [hre] at h; cases h)
  refine ⟨_, _, pre0 _ ?_, hrun, hended, _, _, rfl, ?_, ⟨_, rfl⟩, hW, hsame.mono (by decide) (by decide)⟩
  · show SF p e below s₁ (mkF m 0 #[rv w4, rv w6] []) _
    refine XS.aloadN X0.here hx rfl (hb hby d5_0) rfl rfl ?_
    show SF p e below s₁ (mkF m 1 #[rv w4, rv w6] [(.ref w6)]) _
    refine st1 _ ?_
    show SF p e below T1 (mkF m 4 #[rv w4, rv w6] [(.int 1)]) _
    refine XS.aloadN X1.here hx rfl (hb hby d5_4) rfl rfl ?_
    show SF p e below T1 (mkF m 5 #[rv w4, rv w6] [(.ref w4), (.int 1)]) _
    refine st2 _ ?_
    show SF p e below T2 (mkF m 8 #[rv w4, rv w6] [(.int 4), (.int 1)]) _
    refine XS.iconst X2.here hx rfl (hb hby d5_8) ?_
    show SF p e below T2 (mkF m 9 #[rv w4, rv w6] [(.int (-1)), (.int 4), (.int 1)]) _
    refine XS.ixor X2.here hx rfl (hb hby d5_9) rfl ?_
    show SF p e below T2 (mkF m 10 #[rv w4, rv w6] [(.int ((4 : Int32) ^^^ (-1 : Int32))), (.int 1)]) _
    rw [show ((4 : Int32) ^^^ (-1 : Int32)) = (-5 : Int32) from by decide]
    show SF p e below T2 (mkF m 10 #[rv w4, rv w6] [(.int (-5)), (.int 1)]) _
    refine XS.iand X2.here hx rfl (hb hby d5_10) rfl ?_
    show SF p e below T2 (mkF m 11 #[rv w4, rv w6] [(.int ((1 : Int32) &&& (-5 : Int32)))]) _
    rw [show ((1 : Int32) &&& (-5 : Int32)) = (1 : Int32) from by decide]
    show SF p e below T2 (mkF m 11 #[rv w4, rv w6] [(.int 1)]) _
    refine XS.ifYes X2.here hx rfl (pc0 := 11) (pc' := 18) rfl (hb hby d5_11) rfl ((if0 _ _).trans (feq (by decide : ¬ ((1 : Int32) = (0 : Int32)))).2) (by decide) (by decide) ?_
    show SF p e below T2 (mkF m 18 #[rv w4, rv w6] []) _
    refine XS.iconst X2.here hx rfl (hb hby d5_18) ?_
    show SF p e below T2 (mkF m 19 #[rv w4, rv w6] [(.int 0)]) _
    exact retN X2 hx (t := .boolean) hre (by simp) (hb hby d5_19) hr
  · show Q5_58 Z w4 w6 h0 n0 _ T2.heap _
    rw [e2]
    exact ⟨rfl, N0, rfl⟩
-- Rights.letter 
def Q4_59 (Z : State) (w4 : Addr) (w6 : Addr) (h0 : Heap) (n0 : Nat) (v : Option Value) (h : Heap) (L : List Loc) : Prop := v = some (.int 45) ∧ Fr n0 L ∧ h = h0
set_option maxRecDepth 65536 in
set_option maxHeartbeats 40000000 in
theorem rm4_59 (l : Launch) (Z : State) (a0 : Array Value) (hw : HW Z a0) (ws : List Jvm.Cond) (w4 : Addr) (w6 : Addr) (h0 : Heap) (n0 : Nat) (Z0 : n0 ≤ h0.size) (E_w4 : Exa Z Z.heap w4 zs7) (P2 : Old Z n0 h0) (F_w6_bits : Fld Z Z.heap w6 zs7 "bits" "I" (.int 1)) (F_w4_bits : Fld Z Z.heap w4 zs7 "bits" "I" (.int 4)) :
    MF l Z (⟨zs7, "letter", zs3⟩ : MethodName) (Jvm.Cond.code (⟨zs7, "letter", zs3⟩ : MethodName) prog_35_method_6_code 3 (some .char)) ws ({ frames := 1, cells := 0, slots := 0, locals := 13 } : Room) #[(.ref w4), (.ref w6), (.int 120)] h0 (Q4_59 Z w4 w6 h0 n0) := by
  refine own_enter (plainFor_of_name pn_0) fun p e s m below meth c s₁ X0 hx hby hml hown hnm hZ e0 hre hlk => ?_
  have N0 := Fr.nil n0
  have pre0 : ∀ t, SF p e below s₁ (mkF m 0 #[rv w4, rv w6, iv 120] []) t → SF p e below s₁ (entryFrame m #[(.ref w4), (.ref w6), (.int 120)] 3) t := fun t k => castTop (ef_3 m w4 w6 (120 : Int32)) k
  obtain ⟨cq1, kq1, q1a, q1b, q1c⟩ := isOf hZ e0 (E_w4.ext P2.2)
  obtain ⟨_, _, ⟨T1, L1, k1x, n1⟩, -, X1, ⟨Lc1, hQ1, l1, y1, z1⟩, st1⟩ := X0.virtualBack hx (y := (⟨zs7, "containsAll", zs2⟩ : MethodName)) (z := (⟨zs7, "containsAll", zs2⟩ : MethodName)) hown (mvT hZ (tw hw 30 rfl)) (mvT hZ (tw hw 31 rfl)) (notFace_of_selects (args := #[]) (mvT hZ (tw hw 33 rfl))) (mvT hZ (tw hw 33 rfl)) (mvT hZ (tw hw 32 rfl)) (by decide) (backOf (W := 0) (rm5_58 l Z a0 hw [] w4 w6 h0 n0 Z0 F_w6_bits P2 F_w4_bits) hZ (tw hw 34 rfl) (tw hw 2 rfl) (by decide) (by decide)) q1a q1c (g := (mkF m 2 #[rv w4, rv w6, iv 120] [(.ref w6), (.ref w4)])) rfl (by rw [hml]; rfl) (Steps.refl _) (argsL := [(.ref w6)]) (rest := []) (lenOf pd_2 rfl) rfl (Nat.le_of_eq rfl) (hb hby d4_2) (fun _ _ => ⟨rfl, e0, (by decide : 0 + 0 ≤ _), (by decide : 0 + 0 ≤ _)⟩)
  dsimp only [Pt.U, Pt.locs, Pt.cells, Pt.slots] at X1 l1 y1 z1 st1 hQ1
  subst l1 y1 z1
  obtain ⟨rfl, N1q, e1⟩ := hQ1
  have N1 := Fr.app N0 N1q
  obtain ⟨fs, hr, hrun, hended, hW, hsame⟩ := X1.leave (v := some (.int 45)) (fun h => by rw [hre] at h; cases h)
  refine ⟨_, _, pre0 _ ?_, hrun, hended, _, _, rfl, ?_, ⟨_, rfl⟩, hW, hsame.mono (by decide) (by decide)⟩
  · show SF p e below s₁ (mkF m 0 #[rv w4, rv w6, iv 120] []) _
    refine XS.aloadN X0.here hx rfl (hb hby d4_0) rfl rfl ?_
    refine XS.aloadN X0.here hx rfl (hb hby d4_1) rfl rfl ?_
    show SF p e below s₁ (mkF m 2 #[rv w4, rv w6, iv 120] [(.ref w6), (.ref w4)]) _
    refine st1.trans ?_
    show SF p e below T1 (mkF m 5 #[rv w4, rv w6, iv 120] [(.int 0)]) _
    refine XS.ifYes X1.here hx rfl (pc0 := 5) (pc' := 12) rfl (hb hby d4_5) rfl ((if0 _ _).trans (teq (by decide : (0 : Int32) = (0 : Int32))).1) (by decide) (by decide) ?_
    show SF p e below T1 (mkF m 12 #[rv w4, rv w6, iv 120] []) _
    refine XS.bipush X1.here hx rfl (hb hby d4_12) ?_
    show SF p e below T1 (mkF m 14 #[rv w4, rv w6, iv 120] [(.int 45)]) _
    exact retN X1 hx (t := .char) hre (by simp) (hb hby d4_14) hr
  · show Q4_59 Z w4 w6 h0 n0 _ T1.heap _
    rw [e1]
    exact ⟨rfl, N1, rfl⟩
-- Rights.toString 
def Q3_60 (Z : State) (w4 : Addr) (w5 : Addr) (w6 : Addr) (GC : Int32) (h0 : Heap) (n0 : Nat) (v : Option Value) (h : Heap) (L : List Loc) : Prop := ∃ e1x : Addr, ∃ e2x : Addr, ∃ e3x : ClassId, h0.size ≤ e1x ∧ h0.size ≤ e2x ∧ e1x ≠ e2x ∧ v = some (.ref e1x) ∧ Fr n0 L ∧ Keep h0 h [] ∧ Exa Z h e1x "java/lang/String" ∧ Fld Z h e1x "java/lang/String" "coder" "B" (.int 0) ∧ Fld Z h e1x "java/lang/String" "value" "[B" (.ref e2x) ∧ Arv Z h e2x e3x .byte (3 : Int32) (((([(114 : Int32), (45 : Int32), (45 : Int32)] : List Int32)).map (fun c => c.toInt8.toInt32)).map Value.int) (.int (0 : Int32))
set_option maxRecDepth 65536 in
set_option maxHeartbeats 40000000 in
theorem rm3_60 (l : Launch) (Z : State) (a0 : Array Value) (hw : HW Z a0) (ws : List Jvm.Cond) (w4 : Addr) (w5 : Addr) (w6 : Addr) (GC : Int32) (h0 : Heap) (n0 : Nat) (Z0 : n0 ≤ h0.size) (Sg7 : Sta Z Z.heap zs7 "READ" zs4 (.ref w4)) (P2 : Old Z n0 h0) (E_w4 : Exa Z Z.heap w4 zs7) (F_w4_bits : Fld Z Z.heap w4 zs7 "bits" "I" (.int 4)) (Sg9 : Sta Z Z.heap zs7 "WRITE" zs4 (.ref w5)) (F_w5_bits : Fld Z Z.heap w5 zs7 "bits" "I" (.int 2)) (Sg11 : Sta Z Z.heap zs7 "EXECUTE" zs4 (.ref w6)) (F_w6_bits : Fld Z Z.heap w6 zs7 "bits" "I" (.int 1)) (Sg0 : Sta Z Z.heap "java/lang/String" "COMPACT_STRINGS" "Z" (.int GC)) (nzGC : ¬ (GC = (0 : Int32))) :
    MF l Z (⟨zs7, "toString", zs0⟩ : MethodName) (Jvm.Cond.code (⟨zs7, "toString", zs0⟩ : MethodName) prog_35_method_5_code 1 (some (.object "java/lang/String"))) ws ({ frames := 4, cells := 3, slots := 10, locals := 66 } : Room) #[(.ref w4)] h0 (Q3_60 Z w4 w5 w6 GC h0 n0) := by
  refine own_enter (plainFor_of_name pn_0) fun p e s m below meth c s₁ X0 hx hby hml hown hnm hZ e0 hre hlk => ?_
  have N0 := Fr.nil n0
  have pre0 : ∀ t, SF p e below s₁ (mkF m 0 #[rv w4] []) t → SF p e below s₁ (entryFrame m #[(.ref w4)] 1) t := fun t k => castTop (ef_4 m w4) k
  obtain ⟨T1, h1, X1, e1, E1, A1, D1, -, st1⟩ := newO X0 hx hZ hown (tw hw 20 rfl) (tw hw 21 rfl) (tw hw 22 rfl) e0 (g := (mkF m 0 #[rv w4] [])) rfl (hb hby d3_0) (by decide) (by decide)
  obtain ⟨e1x, g1⟩ : ∃ z, z = h0.size := ⟨_, rfl⟩
  rw [← g1] at A1 D1 st1
  have K1 : Keep h0 h1 [] := (Keep.refl h0 []).ext E1
  have Fn2 : Fld Z h1 e1x "java/lang/String" "coder" "B" (.int 0) := D1 (Or.inr (tw hw 62 rfl)) (ty := .byte) (by decide)
  have Fn3 : Fld Z h1 e1x "java/lang/String" "value" "[B" .null := D1 (Or.inr (tw hw 64 rfl)) (ty := (.array .byte)) (by decide)
  obtain ⟨T4, h4, w5x, X4, e4, E4, A4, st4⟩ := newP X1 hx hZ (tw hw 23 rfl) e1 (g := (mkF m 5 #[rv w4] [(.int 3), (.ref e1x), (.ref e1x)])) rfl (hb hby d3_5) rfl (by decide) (cap := 3) (by decide) (by decide) (by decide) (by decide)
  obtain ⟨w4x, g4⟩ : ∃ z, z = h1.size := ⟨_, rfl⟩
  rw [← g4] at A4 st4
  have K4 : Keep h0 h4 [] := K1.ext E4
  have V4 : Arv Z h4 w4x w5x .char (3 : Int32) [(.int 0), (.int 0), (.int 0)] (.int (0 : Int32)) := (Arv.new A4 (by decide)).pad (pad_rep [] (.int (0 : Int32)) 3)
  have O1 : Old Z n0 h1 := P2.ext E1
  have O4 : Old Z n0 h4 := O1.ext E4
  obtain ⟨T5, X5, e5, st5⟩ := getS2 X4 hx hZ hown (host := "") (Or.inl (tw hw 24 rfl)) Via.refl e4 (Sg7.ext O4.2) (g := (mkF m 10 #[rv w4] [(.ref w4), (.int 0), (.ref w4x), (.ref w4x), (.ref e1x), (.ref e1x)])) rfl (hb hby d3_10)
  have Z1 : n0 ≤ h1.size := Nat.le_trans Z0 E1.1
  have Z4 : n0 ≤ h4.size := Nat.le_trans Z1 E4.1
  obtain ⟨cq6, q6, q6'⟩ := (E_w4.ext O4.2).cell
  obtain ⟨_, _, ⟨T6, L6, k6x, n6⟩, -, X6, ⟨Lc6, hQ6, l6, y6, z6⟩, st6⟩ := X5.privateBack hx (y := (⟨zs7, "letter", zs3⟩ : MethodName)) hown (mvT hZ (tw hw 26 rfl)) (mvT hZ (tw hw 27 rfl)) (own_selQ hZ (tw hw 9 rfl) (tw hw 28 rfl) (tw hw 27 rfl) (by decide)) (Cond.privateMethod_at (mvP hZ (tw hw 28 rfl) (args := #[]))) (mvT hZ (tw hw 29 rfl)) (by decide) (backOf (W := 5) (rm4_55 l Z a0 hw [] w4 h4 n0 Z4 E_w4 O4 F_w4_bits) hZ (tw hw 29 rfl) (tw hw 2 rfl) (by decide) (by decide)) (g := (mkF m 15 #[rv w4] [(.int 114), (.ref w4), (.ref w4), (.int 0), (.ref w4x), (.ref w4x), (.ref e1x), (.ref e1x)])) rfl (by rw [hml]; rfl) (Steps.refl _) (a := w4) (by rw [e5]; exact q6) q6' (argsL := [(.ref w4), (.int 114)]) (rest := [(.int 0), (.ref w4x), (.ref w4x), (.ref e1x), (.ref e1x)]) (lenOf pd_3 rfl) rfl (Nat.le_of_eq rfl) (hb hby d3_15) (fun _ _ => ⟨rfl, e5, (by decide : 2 + 0 ≤ _), (by decide : 7 + 0 ≤ _)⟩)
  dsimp only [Pt.U, Pt.locs, Pt.cells, Pt.slots] at X6 l6 y6 z6 st6 hQ6
  subst l6 y6 z6
  obtain ⟨rfl, N6q, e6⟩ := hQ6
  have N6 := Fr.app N0 N6q
  obtain ⟨cl7, Ar7, q7, S7, N7z, H7, G7⟩ := id V4
  have hin7 : ¬ ((0 : Int32) < 0 ∨ cl7.slots.size ≤ ((0 : Int32)).toNatClampNeg) := inb_of S7 ⟨by decide, by decide⟩
  obtain ⟨T8, h8, X8, e8, W8, st8⟩ := stC X6 hx hZ e6 Ar7 (j := (0 : Int32)) hin7 (g := (mkF m 18 #[rv w4] [(.int 114), (.int 0), (.ref w4x), (.ref w4x), (.ref e1x), (.ref e1x)])) rfl rfl (hb hby d3_18)
  have g_b3 : n0 ≤ w4x := Nat.le_trans Z1 (Nat.le_of_eq g4.symm)
  have sz0_b3 : h0.size ≤ w4x := Nat.le_trans K1.1 (Nat.le_of_eq g4.symm)
  have K8 : Keep h0 h8 [] := K4.wr W8 (Or.inr sz0_b3)
  have N8 := Fr.snoc X8 N6 g_b3
  have V8 : Arv Z h8 w4x w5x .char (3 : Int32) [(.int 114), (.int 0), (.int 0)] (.int (0 : Int32)) := Arv.set Ar7 q7 S7 N7z H7 G7 (by decide) W8 0 rfl (Nat.le_of_ble_eq_true rfl)
  have O8 : Old Z n0 h8 := O4.wr W8 g_b3
  obtain ⟨T9, X9, e9, st9⟩ := getS2 X8 hx hZ hown (host := "") (Or.inl (tw hw 35 rfl)) Via.refl e8 (Sg9.ext O8.2) (g := (mkF m 22 #[rv w4] [(.ref w4), (.int 1), (.ref w4x), (.ref w4x), (.ref e1x), (.ref e1x)])) rfl (hb hby d3_22)
  have Z8 : n0 ≤ h8.size := Nat.le_trans Z4 (Keep.of_wr W8).1
  obtain ⟨cq10, q10, q10'⟩ := (E_w4.ext O8.2).cell
  obtain ⟨_, _, ⟨T10, L10, k10x, n10⟩, -, X10, ⟨Lc10, hQ10, l10, y10, z10⟩, st10⟩ := X9.privateBack hx (y := (⟨zs7, "letter", zs3⟩ : MethodName)) hown (mvT hZ (tw hw 26 rfl)) (mvT hZ (tw hw 27 rfl)) (own_selQ hZ (tw hw 9 rfl) (tw hw 28 rfl) (tw hw 27 rfl) (by decide)) (Cond.privateMethod_at (mvP hZ (tw hw 28 rfl) (args := #[]))) (mvT hZ (tw hw 29 rfl)) (by decide) (backOf (W := 5) (rm4_57 l Z a0 hw [] w4 w5 h8 n0 Z8 E_w4 O8 F_w5_bits F_w4_bits) hZ (tw hw 29 rfl) (tw hw 2 rfl) (by decide) (by decide)) (g := (mkF m 27 #[rv w4] [(.int 119), (.ref w5), (.ref w4), (.int 1), (.ref w4x), (.ref w4x), (.ref e1x), (.ref e1x)])) rfl (by rw [hml]; rfl) (Steps.refl _) (a := w4) (by rw [e9]; exact q10) q10' (argsL := [(.ref w5), (.int 119)]) (rest := [(.int 1), (.ref w4x), (.ref w4x), (.ref e1x), (.ref e1x)]) (lenOf pd_3 rfl) rfl (Nat.le_of_eq rfl) (hb hby d3_27) (fun _ _ => ⟨rfl, e9, (by decide : 2 + 0 ≤ _), (by decide : 7 + 0 ≤ _)⟩)
  dsimp only [Pt.U, Pt.locs, Pt.cells, Pt.slots] at X10 l10 y10 z10 st10 hQ10
  subst l10 y10 z10
  obtain ⟨rfl, N10q, e10⟩ := hQ10
  have N10 := Fr.app N8 N10q
  obtain ⟨cl11, Ar11, q11, S11, N11z, H11, G11⟩ := id V8
  have hin11 : ¬ ((1 : Int32) < 0 ∨ cl11.slots.size ≤ ((1 : Int32)).toNatClampNeg) := inb_of S11 ⟨by decide, by decide⟩
  obtain ⟨T12, h12, X12, e12, W12, st12⟩ := stC X10 hx hZ e10 Ar11 (j := (1 : Int32)) hin11 (g := (mkF m 30 #[rv w4] [(.int 45), (.int 1), (.ref w4x), (.ref w4x), (.ref e1x), (.ref e1x)])) rfl rfl (hb hby d3_30)
  have K12 : Keep h0 h12 [] := K8.wr W12 (Or.inr sz0_b3)
  have N12 := Fr.snoc X12 N10 g_b3
  have V12 : Arv Z h12 w4x w5x .char (3 : Int32) [(.int 114), (.int 45), (.int 0)] (.int (0 : Int32)) := Arv.set Ar11 q11 S11 N11z H11 G11 (by decide) W12 1 rfl (Nat.le_of_ble_eq_true rfl)
  have O12 : Old Z n0 h12 := O8.wr W12 g_b3
  obtain ⟨T13, X13, e13, st13⟩ := getS2 X12 hx hZ hown (host := "") (Or.inl (tw hw 37 rfl)) Via.refl e12 (Sg11.ext O12.2) (g := (mkF m 34 #[rv w4] [(.ref w4), (.int 2), (.ref w4x), (.ref w4x), (.ref e1x), (.ref e1x)])) rfl (hb hby d3_34)
  have Z12 : n0 ≤ h12.size := Nat.le_trans Z8 (Keep.of_wr W12).1
  obtain ⟨cq14, q14, q14'⟩ := (E_w4.ext O12.2).cell
  obtain ⟨_, _, ⟨T14, L14, k14x, n14⟩, -, X14, ⟨Lc14, hQ14, l14, y14, z14⟩, st14⟩ := X13.privateBack hx (y := (⟨zs7, "letter", zs3⟩ : MethodName)) hown (mvT hZ (tw hw 26 rfl)) (mvT hZ (tw hw 27 rfl)) (own_selQ hZ (tw hw 9 rfl) (tw hw 28 rfl) (tw hw 27 rfl) (by decide)) (Cond.privateMethod_at (mvP hZ (tw hw 28 rfl) (args := #[]))) (mvT hZ (tw hw 29 rfl)) (by decide) (backOf (W := 5) (rm4_59 l Z a0 hw [] w4 w6 h12 n0 Z12 E_w4 O12 F_w6_bits F_w4_bits) hZ (tw hw 29 rfl) (tw hw 2 rfl) (by decide) (by decide)) (g := (mkF m 39 #[rv w4] [(.int 120), (.ref w6), (.ref w4), (.int 2), (.ref w4x), (.ref w4x), (.ref e1x), (.ref e1x)])) rfl (by rw [hml]; rfl) (Steps.refl _) (a := w4) (by rw [e13]; exact q14) q14' (argsL := [(.ref w6), (.int 120)]) (rest := [(.int 2), (.ref w4x), (.ref w4x), (.ref e1x), (.ref e1x)]) (lenOf pd_3 rfl) rfl (Nat.le_of_eq rfl) (hb hby d3_39) (fun _ _ => ⟨rfl, e13, (by decide : 2 + 0 ≤ _), (by decide : 7 + 0 ≤ _)⟩)
  dsimp only [Pt.U, Pt.locs, Pt.cells, Pt.slots] at X14 l14 y14 z14 st14 hQ14
  subst l14 y14 z14
  obtain ⟨rfl, N14q, e14⟩ := hQ14
  have N14 := Fr.app N12 N14q
  obtain ⟨cl15, Ar15, q15, S15, N15z, H15, G15⟩ := id V12
  have hin15 : ¬ ((2 : Int32) < 0 ∨ cl15.slots.size ≤ ((2 : Int32)).toNatClampNeg) := inb_of S15 ⟨by decide, by decide⟩
  obtain ⟨T16, h16, X16, e16, W16, st16⟩ := stC X14 hx hZ e14 Ar15 (j := (2 : Int32)) hin15 (g := (mkF m 42 #[rv w4] [(.int 45), (.int 2), (.ref w4x), (.ref w4x), (.ref e1x), (.ref e1x)])) rfl rfl (hb hby d3_42)
  have K16 : Keep h0 h16 [] := K12.wr W16 (Or.inr sz0_b3)
  have N16 := Fr.snoc X16 N14 g_b3
  have V16 : Arv Z h16 w4x w5x .char (3 : Int32) [(.int 114), (.int 45), (.int 45)] (.int (0 : Int32)) := Arv.set Ar15 q15 S15 N15z H15 G15 (by decide) W16 2 rfl (Nat.le_of_ble_eq_true rfl)
  have F2_17 : Exa Z h4 e1x "java/lang/String" := A1.ext E4
  have F3_18 : Exa Z h8 e1x "java/lang/String" := F2_17.wr W8
  have F4_19 : Exa Z h12 e1x "java/lang/String" := F3_18.wr W12
  have F5_20 : Exa Z h16 e1x "java/lang/String" := F4_19.wr W16
  have F2_21 : Fld Z h4 e1x "java/lang/String" "value" "[B" .null := Fn3.ext E4
  have F3_22 : Fld Z h8 e1x "java/lang/String" "value" "[B" .null := F2_21.other W8 (Or.inl (Nat.ne_of_lt (Nat.lt_of_lt_of_le A1.lt (Nat.le_of_eq g4.symm))))
  have F4_23 : Fld Z h12 e1x "java/lang/String" "value" "[B" .null := F3_22.other W12 (Or.inl (Nat.ne_of_lt (Nat.lt_of_lt_of_le A1.lt (Nat.le_of_eq g4.symm))))
  have F5_24 : Fld Z h16 e1x "java/lang/String" "value" "[B" .null := F4_23.other W16 (Or.inl (Nat.ne_of_lt (Nat.lt_of_lt_of_le A1.lt (Nat.le_of_eq g4.symm))))
  have F2_25 : Fld Z h4 e1x "java/lang/String" "coder" "B" (.int 0) := Fn2.ext E4
  have F3_26 : Fld Z h8 e1x "java/lang/String" "coder" "B" (.int 0) := F2_25.other W8 (Or.inl (Nat.ne_of_lt (Nat.lt_of_lt_of_le A1.lt (Nat.le_of_eq g4.symm))))
  have F4_27 : Fld Z h12 e1x "java/lang/String" "coder" "B" (.int 0) := F3_26.other W12 (Or.inl (Nat.ne_of_lt (Nat.lt_of_lt_of_le A1.lt (Nat.le_of_eq g4.symm))))
  have F5_28 : Fld Z h16 e1x "java/lang/String" "coder" "B" (.int 0) := F4_27.other W16 (Or.inl (Nat.ne_of_lt (Nat.lt_of_lt_of_le A1.lt (Nat.le_of_eq g4.symm))))
  have hwwords : ∀ d ∈ StrChars.Road.words, d.before a0 Z = true := fun d hd => hw d (own_words d hd)
  have hp29 : ∀ c ∈ ([(114 : Int32), (45 : Int32), (45 : Int32)] : List Int32), ¬ c < 0 ∧ ¬ (255 : Int32) < c := by
    intro c hc
    simp only [List.mem_cons, List.not_mem_nil, or_false] at hc
    rcases hc with rfl | rfl | rfl
    · decide
    · decide
    · decide
  have O16 : Old Z n0 h16 := O12.wr W16 g_b3
  have g_b1 : n0 ≤ e1x := Nat.le_trans Z0 (Nat.le_of_eq g1.symm)
  have Z16 : n0 ≤ h16.size := Nat.le_trans Z12 (Keep.of_wr W16).1
  obtain ⟨_, _, ⟨T30, L30, k30x, n30⟩, -, X30, ⟨Lc30, hQ30, l30, y30, z30⟩, st30⟩ := X16.specialBack hx (y := (⟨"java/lang/String", "<init>", "([C)V"⟩ : MethodName)) rfl hown (mvT hZ (tw hw 39 rfl)) (mvT hZ (tw hw 40 rfl)) (mvT hZ (tw hw 41 rfl)) (by decide) (StrChars.Road.backV (W := 1) hZ hwwords (kI := 4) (tw hw 21 rfl) (cs := ([(114 : Int32), (45 : Int32), (45 : Int32)] : List Int32)) (bs := ((([(114 : Int32), (45 : Int32), (45 : Int32)] : List Int32)).map (fun c => c.toInt8.toInt32))) (n := 3) g_b1 Z16 F5_20 F5_24 F5_28 V16 (Sg0.ext O16.2) nzGC rfl rfl (by decide) (by decide) hp29 rfl (by decide) (by decide)) (g := (mkF m 43 #[rv w4] [(.ref w4x), (.ref e1x), (.ref e1x)])) rfl (by rw [hml]; rfl) (Steps.refl _) (a := e1x) (argsL := [(.ref w4x)]) (rest := [(.ref e1x)]) (lenOf pd_4 rfl) rfl (Nat.le_of_eq rfl) (hb hby d3_43) (fun _ _ => ⟨rfl, e16, (by decide : 2 + 1 ≤ _), (by decide : 7 + 3 ≤ _)⟩)
  dsimp only [Pt.U, Pt.locs, Pt.cells, Pt.slots] at X30 l30 y30 z30 st30 hQ30
  subst l30 y30 z30
  obtain ⟨rfl, N30q, K30c, Fx30, Fc30, e2x, e3x, gt30, bz_b4, ne30, Fv30, Va30⟩ := hQ30
  have sz0_b1 : h0.size ≤ e1x := Nat.le_trans (Keep.refl h0 []).1 (Nat.le_of_eq g1.symm)
  have K30 : Keep h0 T30.heap [] := K16.trans K30c (allS (Or.inr sz0_b1) all0)
  have N30 := Fr.app N16 N30q
  have sz0_b4 : h0.size ≤ e2x := Nat.le_trans K16.1 bz_b4
  have lt_b1_2 : e1x < h4.size := Nat.lt_of_lt_of_le A1.lt E4.1
  have lt_b1_3 : e1x < h8.size := Nat.lt_of_lt_of_le lt_b1_2 (Keep.of_wr W8).1
  have lt_b1_4 : e1x < h12.size := Nat.lt_of_lt_of_le lt_b1_3 (Keep.of_wr W12).1
  have lt_b1_5 : e1x < h16.size := Nat.lt_of_lt_of_le lt_b1_4 (Keep.of_wr W16).1
  obtain ⟨fs, hr, hrun, hended, hW, hsame⟩ := X30.leave (v := some (.ref e1x)) (fun h => by rw [hre] at h; cases h)
  refine ⟨_, _, pre0 _ ?_, hrun, hended, _, _, rfl, ?_, ⟨_, rfl⟩, hW, hsame.mono (by decide) (by decide)⟩
  · show SF p e below s₁ (mkF m 0 #[rv w4] []) _
    refine st1 _ ?_
    show SF p e below T1 (mkF m 3 #[rv w4] [(.ref e1x)]) _
    refine XS.dup X1.here hx rfl (hb hby d3_3) rfl rfl ?_
    refine XS.iconst X1.here hx rfl (hb hby d3_4) ?_
    show SF p e below T1 (mkF m 5 #[rv w4] [(.int 3), (.ref e1x), (.ref e1x)]) _
    refine st4 _ ?_
    show SF p e below T4 (mkF m 7 #[rv w4] [(.ref w4x), (.ref e1x), (.ref e1x)]) _
    refine XS.dup X4.here hx rfl (hb hby d3_7) rfl rfl ?_
    refine XS.iconst X4.here hx rfl (hb hby d3_8) ?_
    show SF p e below T4 (mkF m 9 #[rv w4] [(.int 0), (.ref w4x), (.ref w4x), (.ref e1x), (.ref e1x)]) _
    refine XS.aloadN X4.here hx rfl (hb hby d3_9) rfl rfl ?_
    show SF p e below T4 (mkF m 10 #[rv w4] [(.ref w4), (.int 0), (.ref w4x), (.ref w4x), (.ref e1x), (.ref e1x)]) _
    refine st5 _ ?_
    show SF p e below T5 (mkF m 13 #[rv w4] [(.ref w4), (.ref w4), (.int 0), (.ref w4x), (.ref w4x), (.ref e1x), (.ref e1x)]) _
    refine XS.bipush X5.here hx rfl (hb hby d3_13) ?_
    show SF p e below T5 (mkF m 15 #[rv w4] [(.int 114), (.ref w4), (.ref w4), (.int 0), (.ref w4x), (.ref w4x), (.ref e1x), (.ref e1x)]) _
    refine st6.trans ?_
    show SF p e below T6 (mkF m 18 #[rv w4] [(.int 114), (.int 0), (.ref w4x), (.ref w4x), (.ref e1x), (.ref e1x)]) _
    refine st8 _ ?_
    show SF p e below T8 (mkF m 19 #[rv w4] [(.ref w4x), (.ref e1x), (.ref e1x)]) _
    refine XS.dup X8.here hx rfl (hb hby d3_19) rfl rfl ?_
    refine XS.iconst X8.here hx rfl (hb hby d3_20) ?_
    show SF p e below T8 (mkF m 21 #[rv w4] [(.int 1), (.ref w4x), (.ref w4x), (.ref e1x), (.ref e1x)]) _
    refine XS.aloadN X8.here hx rfl (hb hby d3_21) rfl rfl ?_
    show SF p e below T8 (mkF m 22 #[rv w4] [(.ref w4), (.int 1), (.ref w4x), (.ref w4x), (.ref e1x), (.ref e1x)]) _
    refine st9 _ ?_
    show SF p e below T9 (mkF m 25 #[rv w4] [(.ref w5), (.ref w4), (.int 1), (.ref w4x), (.ref w4x), (.ref e1x), (.ref e1x)]) _
    refine XS.bipush X9.here hx rfl (hb hby d3_25) ?_
    show SF p e below T9 (mkF m 27 #[rv w4] [(.int 119), (.ref w5), (.ref w4), (.int 1), (.ref w4x), (.ref w4x), (.ref e1x), (.ref e1x)]) _
    refine st10.trans ?_
    show SF p e below T10 (mkF m 30 #[rv w4] [(.int 45), (.int 1), (.ref w4x), (.ref w4x), (.ref e1x), (.ref e1x)]) _
    refine st12 _ ?_
    show SF p e below T12 (mkF m 31 #[rv w4] [(.ref w4x), (.ref e1x), (.ref e1x)]) _
    refine XS.dup X12.here hx rfl (hb hby d3_31) rfl rfl ?_
    refine XS.iconst X12.here hx rfl (hb hby d3_32) ?_
    show SF p e below T12 (mkF m 33 #[rv w4] [(.int 2), (.ref w4x), (.ref w4x), (.ref e1x), (.ref e1x)]) _
    refine XS.aloadN X12.here hx rfl (hb hby d3_33) rfl rfl ?_
    show SF p e below T12 (mkF m 34 #[rv w4] [(.ref w4), (.int 2), (.ref w4x), (.ref w4x), (.ref e1x), (.ref e1x)]) _
    refine st13 _ ?_
    show SF p e below T13 (mkF m 37 #[rv w4] [(.ref w6), (.ref w4), (.int 2), (.ref w4x), (.ref w4x), (.ref e1x), (.ref e1x)]) _
    refine XS.bipush X13.here hx rfl (hb hby d3_37) ?_
    show SF p e below T13 (mkF m 39 #[rv w4] [(.int 120), (.ref w6), (.ref w4), (.int 2), (.ref w4x), (.ref w4x), (.ref e1x), (.ref e1x)]) _
    refine st14.trans ?_
    show SF p e below T14 (mkF m 42 #[rv w4] [(.int 45), (.int 2), (.ref w4x), (.ref w4x), (.ref e1x), (.ref e1x)]) _
    refine st16 _ ?_
    show SF p e below T16 (mkF m 43 #[rv w4] [(.ref w4x), (.ref e1x), (.ref e1x)]) _
    refine st30.trans ?_
    show SF p e below T30 (mkF m 46 #[rv w4] [(.ref e1x)]) _
    exact own_retR X30 hx hre rfl rfl (hb hby d3_46) hr
  · show Q3_60 Z w4 w5 w6 GC h0 n0 _ T30.heap _
    exact ⟨e1x, e2x, e3x, sz0_b1, sz0_b4, (Nat.ne_of_lt (Nat.lt_of_lt_of_le lt_b1_5 bz_b4)), rfl, N30, K30, Fx30, Fc30, Fv30, Va30⟩
-- RightsOfPinLaw.expect 
def Q19_61 (Z : State)  (h0 : Heap) (n0 : Nat) (v : Option Value) (h : Heap) (L : List Loc) : Prop := v = some (.int 114) ∧ Fr n0 L ∧ h = h0
set_option maxRecDepth 65536 in
set_option maxHeartbeats 40000000 in
theorem rm19_61 (l : Launch) (Z : State) (a0 : Array Value) (hw : HW Z a0) (ws : List Jvm.Cond)  (h0 : Heap) (n0 : Nat) (Z0 : n0 ≤ h0.size) :
    MF l Z (⟨zs8, "expect", "(IIC)C"⟩ : MethodName) (Jvm.Cond.code (⟨zs8, "expect", "(IIC)C"⟩ : MethodName) method_2_code 3 (some .char)) ws ({ frames := 0, cells := 0, slots := 0, locals := 0 } : Room) #[(.int 4), (.int 4), (.int 114)] h0 (Q19_61 Z  h0 n0) := by
  refine own_enter (plainFor_of_name pn_1) fun p e s m below meth c s₁ X0 hx hby hml hown hnm hZ e0 hre hlk => ?_
  have N0 := Fr.nil n0
  have pre0 : ∀ t, SF p e below s₁ (mkF m 0 #[iv 4, iv 4, iv 114] []) t → SF p e below s₁ (entryFrame m #[(.int 4), (.int 4), (.int 114)] 3) t := fun t k => castTop (ef_5 m (4 : Int32) (4 : Int32) (114 : Int32)) k
  obtain ⟨fs, hr, hrun, hended, hW, hsame⟩ := X0.leave (v := some (.int 114)) (fun h => by rw [hre] at h; cases h)
  refine ⟨_, _, pre0 _ ?_, hrun, hended, _, _, rfl, ?_, ⟨_, rfl⟩, hW, hsame.mono (by decide) (by decide)⟩
  · show SF p e below s₁ (mkF m 0 #[iv 4, iv 4, iv 114] []) _
    refine XS.iloadN X0.here hx rfl (hb hby d19_0) rfl ?_
    refine XS.iloadN X0.here hx rfl (hb hby d19_1) rfl ?_
    show SF p e below s₁ (mkF m 2 #[iv 4, iv 4, iv 114] [(.int 4), (.int 4)]) _
    refine XS.iand X0.here hx rfl (hb hby d19_2) rfl ?_
    show SF p e below s₁ (mkF m 3 #[iv 4, iv 4, iv 114] [(.int ((4 : Int32) &&& (4 : Int32)))]) _
    rw [show ((4 : Int32) &&& (4 : Int32)) = (4 : Int32) from by decide]
    show SF p e below s₁ (mkF m 3 #[iv 4, iv 4, iv 114] [(.int 4)]) _
    refine XS.ifNo X0.here hx rfl (hb hby d19_3) rfl ((if0 _ _).trans (feq (by decide : ¬ ((4 : Int32) = (0 : Int32)))).1) ?_
    show SF p e below s₁ (mkF m 6 #[iv 4, iv 4, iv 114] []) _
    refine XS.iloadN X0.here hx rfl (hb hby d19_6) rfl ?_
    refine XS.goto X0.here hx rfl (pc0 := 7) (pc' := 12) rfl (hb hby d19_7) (by decide) (by decide) ?_
    show SF p e below s₁ (mkF m 12 #[iv 4, iv 4, iv 114] [(.int 114)]) _
    exact retN X0 hx (t := .char) hre (by simp) (hb hby d19_12) hr
  · show Q19_61 Z  h0 n0 _ s₁.heap _
    rw [e0]
    exact ⟨rfl, N0, rfl⟩
-- RightsOfPinLaw.expect 
def Q19_62 (Z : State)  (h0 : Heap) (n0 : Nat) (v : Option Value) (h : Heap) (L : List Loc) : Prop := v = some (.int 45) ∧ Fr n0 L ∧ h = h0
set_option maxRecDepth 65536 in
set_option maxHeartbeats 40000000 in
theorem rm19_62 (l : Launch) (Z : State) (a0 : Array Value) (hw : HW Z a0) (ws : List Jvm.Cond)  (h0 : Heap) (n0 : Nat) (Z0 : n0 ≤ h0.size) :
    MF l Z (⟨zs8, "expect", "(IIC)C"⟩ : MethodName) (Jvm.Cond.code (⟨zs8, "expect", "(IIC)C"⟩ : MethodName) method_2_code 3 (some .char)) ws ({ frames := 0, cells := 0, slots := 0, locals := 0 } : Room) #[(.int 4), (.int 2), (.int 119)] h0 (Q19_62 Z  h0 n0) := by
  refine own_enter (plainFor_of_name pn_1) fun p e s m below meth c s₁ X0 hx hby hml hown hnm hZ e0 hre hlk => ?_
  have N0 := Fr.nil n0
  have pre0 : ∀ t, SF p e below s₁ (mkF m 0 #[iv 4, iv 2, iv 119] []) t → SF p e below s₁ (entryFrame m #[(.int 4), (.int 2), (.int 119)] 3) t := fun t k => castTop (ef_5 m (4 : Int32) (2 : Int32) (119 : Int32)) k
  obtain ⟨fs, hr, hrun, hended, hW, hsame⟩ := X0.leave (v := some (.int 45)) (fun h => by rw [hre] at h; cases h)
  refine ⟨_, _, pre0 _ ?_, hrun, hended, _, _, rfl, ?_, ⟨_, rfl⟩, hW, hsame.mono (by decide) (by decide)⟩
  · show SF p e below s₁ (mkF m 0 #[iv 4, iv 2, iv 119] []) _
    refine XS.iloadN X0.here hx rfl (hb hby d19_0) rfl ?_
    refine XS.iloadN X0.here hx rfl (hb hby d19_1) rfl ?_
    show SF p e below s₁ (mkF m 2 #[iv 4, iv 2, iv 119] [(.int 2), (.int 4)]) _
    refine XS.iand X0.here hx rfl (hb hby d19_2) rfl ?_
    show SF p e below s₁ (mkF m 3 #[iv 4, iv 2, iv 119] [(.int ((4 : Int32) &&& (2 : Int32)))]) _
    rw [show ((4 : Int32) &&& (2 : Int32)) = (0 : Int32) from by decide]
    show SF p e below s₁ (mkF m 3 #[iv 4, iv 2, iv 119] [(.int 0)]) _
    refine XS.ifYes X0.here hx rfl (pc0 := 3) (pc' := 10) rfl (hb hby d19_3) rfl ((if0 _ _).trans (teq (by decide : (0 : Int32) = (0 : Int32))).1) (by decide) (by decide) ?_
    show SF p e below s₁ (mkF m 10 #[iv 4, iv 2, iv 119] []) _
    refine XS.bipush X0.here hx rfl (hb hby d19_10) ?_
    show SF p e below s₁ (mkF m 12 #[iv 4, iv 2, iv 119] [(.int 45)]) _
    exact retN X0 hx (t := .char) hre (by simp) (hb hby d19_12) hr
  · show Q19_62 Z  h0 n0 _ s₁.heap _
    rw [e0]
    exact ⟨rfl, N0, rfl⟩
-- RightsOfPinLaw.expect 
def Q19_63 (Z : State)  (h0 : Heap) (n0 : Nat) (v : Option Value) (h : Heap) (L : List Loc) : Prop := v = some (.int 45) ∧ Fr n0 L ∧ h = h0
set_option maxRecDepth 65536 in
set_option maxHeartbeats 40000000 in
theorem rm19_63 (l : Launch) (Z : State) (a0 : Array Value) (hw : HW Z a0) (ws : List Jvm.Cond)  (h0 : Heap) (n0 : Nat) (Z0 : n0 ≤ h0.size) :
    MF l Z (⟨zs8, "expect", "(IIC)C"⟩ : MethodName) (Jvm.Cond.code (⟨zs8, "expect", "(IIC)C"⟩ : MethodName) method_2_code 3 (some .char)) ws ({ frames := 0, cells := 0, slots := 0, locals := 0 } : Room) #[(.int 4), (.int 1), (.int 120)] h0 (Q19_63 Z  h0 n0) := by
  refine own_enter (plainFor_of_name pn_1) fun p e s m below meth c s₁ X0 hx hby hml hown hnm hZ e0 hre hlk => ?_
  have N0 := Fr.nil n0
  have pre0 : ∀ t, SF p e below s₁ (mkF m 0 #[iv 4, iv 1, iv 120] []) t → SF p e below s₁ (entryFrame m #[(.int 4), (.int 1), (.int 120)] 3) t := fun t k => castTop (ef_5 m (4 : Int32) (1 : Int32) (120 : Int32)) k
  obtain ⟨fs, hr, hrun, hended, hW, hsame⟩ := X0.leave (v := some (.int 45)) (fun h => by rw [hre] at h; cases h)
  refine ⟨_, _, pre0 _ ?_, hrun, hended, _, _, rfl, ?_, ⟨_, rfl⟩, hW, hsame.mono (by decide) (by decide)⟩
  · show SF p e below s₁ (mkF m 0 #[iv 4, iv 1, iv 120] []) _
    refine XS.iloadN X0.here hx rfl (hb hby d19_0) rfl ?_
    refine XS.iloadN X0.here hx rfl (hb hby d19_1) rfl ?_
    show SF p e below s₁ (mkF m 2 #[iv 4, iv 1, iv 120] [(.int 1), (.int 4)]) _
    refine XS.iand X0.here hx rfl (hb hby d19_2) rfl ?_
    show SF p e below s₁ (mkF m 3 #[iv 4, iv 1, iv 120] [(.int ((4 : Int32) &&& (1 : Int32)))]) _
    rw [show ((4 : Int32) &&& (1 : Int32)) = (0 : Int32) from by decide]
    show SF p e below s₁ (mkF m 3 #[iv 4, iv 1, iv 120] [(.int 0)]) _
    refine XS.ifYes X0.here hx rfl (pc0 := 3) (pc' := 10) rfl (hb hby d19_3) rfl ((if0 _ _).trans (teq (by decide : (0 : Int32) = (0 : Int32))).1) (by decide) (by decide) ?_
    show SF p e below s₁ (mkF m 10 #[iv 4, iv 1, iv 120] []) _
    refine XS.bipush X0.here hx rfl (hb hby d19_10) ?_
    show SF p e below s₁ (mkF m 12 #[iv 4, iv 1, iv 120] [(.int 45)]) _
    exact retN X0 hx (t := .char) hre (by simp) (hb hby d19_12) hr
  · show Q19_63 Z  h0 n0 _ s₁.heap _
    rw [e0]
    exact ⟨rfl, N0, rfl⟩
set_option maxRecDepth 65536 in
set_option maxHeartbeats 400000000 in
theorem pc_14 {p : Program} {l : Launch} {e : Env} {s : State} {m : MethodId} {below : List Frame} {meth : Method} {c : Code} {T0 : State} {locs : List Loc} {Z : State} {a0 : Array Value} {h0 : Heap} {n0 : Nat} {p0s : Int32} {p1s : Int32} {GC : Int32} {GF : Value} {w4 : Addr} {w5 : Addr} {w6 : Addr} {dv3 : Int32} {dv5 : Addr} (X0 : Stand p l e room_1 s m #[(.int p0s), (.int p1s)] below meth c T0 locs 0 0) (hx : p.tables.exec = Jvm.exec) (hZ : Z.Warmed39 s.vm) (hw : HW Z a0) (hby : c.code = code) (hml : c.maxLocals = 7) (hown : s.vm.findClass zs8 = some m.cls) (hre : meth.sig.returnType = some .boolean) (hlk : meth.locks = false) (e0 : T0.heap = h0) (N0 : Fr n0 locs) (Z0 : n0 ≤ h0.size) (O0 : Old Z n0 h0) (Sg0 : Sta Z Z.heap "java/lang/String" "COMPACT_STRINGS" "Z" (.int GC)) (Sg1 : Sta Z Z.heap zs9 "SIOOBE_FORMATTER" zs5 GF) (rGF : GF.isRef = true) (nzGC : ¬ (GC = (0 : Int32))) (Sg7 : Sta Z Z.heap zs7 "READ" zs4 (.ref w4)) (E_w4 : Exa Z Z.heap w4 zs7) (Sg9 : Sta Z Z.heap zs7 "WRITE" zs4 (.ref w5)) (Sg11 : Sta Z Z.heap zs7 "EXECUTE" zs4 (.ref w6)) (F_w4_bits : Fld Z Z.heap w4 zs7 "bits" "I" (.int 4)) (F_w5_bits : Fld Z Z.heap w5 zs7 "bits" "I" (.int 2)) (F_w6_bits : Fld Z Z.heap w6 zs7 "bits" "I" (.int 1)) :
    Fine p e below s n0 (T0.setTop (mkF m 72 #[iv p0s, iv p1s, iv 4, iv dv3, rv w4, rv dv5, .unset] [])) := by
  obtain ⟨T1, X1, e1, st1⟩ := getS2 X0 hx hZ hown (host := "") (Or.inl (tw hw 101 rfl)) Via.refl e0 (Sg7.ext O0.2) (g := (mkF m 93 #[iv p0s, iv p1s, iv 4, iv dv3, rv w4, rv dv5, .unset] [(.ref w4)])) rfl (hb hby at_93)
  obtain ⟨cq2, kq2, q2a, q2b, q2c⟩ := isOf hZ e1 (E_w4.ext O0.2)
  obtain ⟨_, _, ⟨T2, L2, k2x, n2⟩, -, X2, ⟨Lc2, hQ2, l2, y2, z2⟩, st2⟩ := X1.virtualBack hx (y := (⟨zs7, "toString", zs0⟩ : MethodName)) (z := (⟨zs7, "toString", zs0⟩ : MethodName)) hown (mvT hZ (tw hw 15 rfl)) (mvT hZ (tw hw 16 rfl)) (notFace_of_selects (args := #[]) (mvT hZ (tw hw 18 rfl))) (mvT hZ (tw hw 18 rfl)) (mvT hZ (tw hw 17 rfl)) (by decide) (backOf (W := 0) (rm3_60 l Z a0 hw [] w4 w5 w6 GC h0 n0 Z0 Sg7 O0 E_w4 F_w4_bits Sg9 F_w5_bits Sg11 F_w6_bits Sg0 nzGC) hZ (tw hw 19 rfl) (tw hw 2 rfl) (by decide) (by decide)) q2a q2c (g := (mkF m 133 #[iv p0s, iv p1s, iv 4, iv dv3, rv w4, rv dv5, .unset] [(.ref w4)])) rfl (by rw [hml]; rfl) (Steps.refl _) (argsL := []) (rest := []) (lenOf pd_5 rfl) rfl (Nat.le_of_eq rfl) (hb hby at_133) (fun _ _ => ⟨rfl, e1, (by decide : 0 + 3 ≤ _), (by decide : 0 + 10 ≤ _)⟩)
  dsimp only [Pt.U, Pt.locs, Pt.cells, Pt.slots] at X2 l2 y2 z2 st2 hQ2
  subst l2 y2 z2
  obtain ⟨b6, b7, k8, bz_b6, bz_b7, bn2_0, rfl, N2q, K2c, Fq2_0, Fq2_1, Fq2_2, Fq2_3⟩ := hQ2
  have N2 := Fr.app N0 N2q
  have hwwordsLen : ∀ d ∈ StrChars.Road.wordsLen, d.before a0 Z = true := fun d hd => hw d (own_wordsLen d hd)
  have hp3 : ∀ c ∈ ([(114 : Int32), (45 : Int32), (45 : Int32)] : List Int32), ¬ c < 0 ∧ ¬ (255 : Int32) < c := by
    intro c hc
    simp only [List.mem_cons, List.not_mem_nil, or_false] at hc
    rcases hc with rfl | rfl | rfl
    · decide
    · decide
    · decide
  have hcd4 : StrChars.Road.CodA ([(114 : Int32), (45 : Int32), (45 : Int32)] : List Int32) 0 (3 : Int32) (((([(114 : Int32), (45 : Int32), (45 : Int32)] : List Int32)).map (fun c => c.toInt8.toInt32)).map Value.int) := StrChars.Road.codOf (n := 3) rfl (fun c hc => (hp3 c hc).2)
  have hbd4 : ∀ c ∈ ([(114 : Int32), (45 : Int32), (45 : Int32)] : List Int32), ¬ c < 0 ∧ ¬ (65535 : Int32) < c := own_up _ hp3
  have O2 : Old Z n0 T2.heap := O0.keep K2c all0
  obtain ⟨cq5, kq5, q5a, q5b, q5c⟩ := isOf hZ rfl Fq2_0
  obtain ⟨_, _, ⟨T5, L5, k5x, n5⟩, -, X5, ⟨Lc5, hQ5, l5, y5, z5⟩, st5⟩ := X2.virtualBack hx (y := (⟨"java/lang/String", "length", "()I"⟩ : MethodName)) (z := (⟨"java/lang/String", "length", "()I"⟩ : MethodName)) hown (mvT hZ (tw hw 65 rfl)) (mvT hZ (tw hw 66 rfl)) (notFace_of_selects (args := #[]) (mvT hZ (tw hw 68 rfl))) (mvT hZ (tw hw 68 rfl)) (mvT hZ (tw hw 67 rfl)) (by decide) (StrChars.Road.lenW (W := 0) hZ hwwordsLen (kI := 4) (tw hw 21 rfl) Fq2_0 Fq2_2 Fq2_1 Fq2_3 hcd4 hbd4 (Sg0.ext O2.2) nzGC (Nat.le_of_ble_eq_true rfl) (by decide) (by decide)) q5a q5c (g := (mkF m 140 #[iv p0s, iv p1s, iv 4, iv dv3, rv w4, rv dv5, rv b6] [(.ref b6)])) rfl (by rw [hml]; rfl) (Steps.refl _) (argsL := []) (rest := []) (lenOf pd_1 rfl) rfl (Nat.le_of_eq rfl) (hb hby at_140) (fun _ _ => ⟨rfl, rfl, (by decide : 3 + 0 ≤ _), (by decide : 10 + 0 ≤ _)⟩)
  dsimp only [Pt.U, Pt.locs, Pt.cells, Pt.slots] at X5 l5 y5 z5 st5 hQ5
  subst l5 y5 z5
  obtain ⟨rfl, rfl, e5⟩ := hQ5
  have N5 := Fr.app N2 (Fr.nil n0)
  have hwwordsChN : ∀ d ∈ StrChars.Road.wordsChN, d.before a0 Z = true := fun d hd => hw d (own_wordsChN d hd)
  have hp6 : ∀ c ∈ ([(114 : Int32), (45 : Int32), (45 : Int32)] : List Int32), ¬ c < 0 ∧ ¬ (255 : Int32) < c := by
    intro c hc
    simp only [List.mem_cons, List.not_mem_nil, or_false] at hc
    rcases hc with rfl | rfl | rfl
    · decide
    · decide
    · decide
  have hcd7 : StrChars.Road.CodA ([(114 : Int32), (45 : Int32), (45 : Int32)] : List Int32) 0 (3 : Int32) (((([(114 : Int32), (45 : Int32), (45 : Int32)] : List Int32)).map (fun c => c.toInt8.toInt32)).map Value.int) := StrChars.Road.codOf (n := 3) rfl (fun c hc => (hp6 c hc).2)
  have hbd7 : ∀ c ∈ ([(114 : Int32), (45 : Int32), (45 : Int32)] : List Int32), ¬ c < 0 ∧ ¬ (65535 : Int32) < c := own_up _ hp6
  obtain ⟨cq8, kq8, q8a, q8b, q8c⟩ := isOf hZ e5 Fq2_0
  obtain ⟨_, _, ⟨T8, L8, k8x, n8⟩, -, X8, ⟨Lc8, hQ8, l8, y8, z8⟩, st8⟩ := X5.virtualBack hx (y := (⟨"java/lang/String", "charAt", "(I)C"⟩ : MethodName)) (z := (⟨"java/lang/String", "charAt", "(I)C"⟩ : MethodName)) hown (mvT hZ (tw hw 75 rfl)) (mvT hZ (tw hw 76 rfl)) (notFace_of_selects (args := #[]) (mvT hZ (tw hw 78 rfl))) (mvT hZ (tw hw 78 rfl)) (mvT hZ (tw hw 77 rfl)) (by decide) (StrChars.Road.chN (W := 0) hZ hwwordsChN (kI := 4) (tw hw 21 rfl) Fq2_0 Fq2_2 Fq2_1 Fq2_3 hcd7 hbd7 (Sg0.ext O2.2) nzGC (Sg1.ext O2.2) rGF (Nat.le_of_ble_eq_true rfl) (i := 0) (Nat.le_of_ble_eq_true rfl) (j := (0 : Int32)) rfl (by decide) (by decide)) q8a q8c (g := (mkF m 150 #[iv p0s, iv p1s, iv 4, iv dv3, rv w4, rv dv5, rv b6] [(.int 0), (.ref b6)])) rfl (by rw [hml]; rfl) (Steps.refl _) (argsL := [(.int 0)]) (rest := []) (lenOf pd_6 rfl) rfl (Nat.le_of_eq rfl) (hb hby at_150) (fun _ _ => ⟨rfl, e5, (by decide : 3 + 0 ≤ _), (by decide : 10 + 0 ≤ _)⟩)
  dsimp only [Pt.U, Pt.locs, Pt.cells, Pt.slots] at X8 l8 y8 z8 st8 hQ8
  subst l8 y8 z8
  obtain ⟨rfl, rfl, e8⟩ := hQ8
  have N8 := Fr.app N5 (Fr.nil n0)
  have Z2 : n0 ≤ T2.heap.size := Nat.le_trans Z0 K2c.1
  obtain ⟨_, _, ⟨T9, L9, k9x, n9⟩, -, X9, ⟨Lc9, hQ9, l9, y9, z9⟩, st9⟩ := Jvm.LawKit.callS X8 hx (y := (⟨zs8, "expect", "(IIC)C"⟩ : MethodName)) hown (mvT hZ (tw hw 97 rfl)) (mvT hZ (tw hw 98 rfl)) (mvT hZ (tw hw 99 rfl)) (mvT hZ (tw hw 100 rfl)) (by decide) (backOf (W := 1) (rm19_61 l Z a0 hw []  T2.heap n0 Z2 ) hZ (tw hw 100 rfl) (tw hw 99 rfl) (by decide) (by decide)) (g := (mkF m 157 #[iv p0s, iv p1s, iv 4, iv dv3, rv w4, rv dv5, rv b6] [(.int 114), (.int 4), (.int 4), (.int 114)])) rfl (by rw [hml]; rfl) (argsL := [(.int 4), (.int 4), (.int 114)]) (rest := [(.int 114)]) (lenOf pd_7 rfl) rfl (Nat.le_of_eq rfl) (hb hby at_157) (fun _ _ => ⟨rfl, e8, (by decide : 3 + 0 ≤ _), (by decide : 10 + 0 ≤ _)⟩)
  dsimp only [Pt.U, Pt.locs, Pt.cells, Pt.slots] at X9 l9 y9 z9 st9 hQ9
  subst l9 y9 z9
  obtain ⟨rfl, N9q, e9⟩ := hQ9
  have N9 := Fr.app N8 N9q
  have hp10 : ∀ c ∈ ([(114 : Int32), (45 : Int32), (45 : Int32)] : List Int32), ¬ c < 0 ∧ ¬ (255 : Int32) < c := by
    intro c hc
    simp only [List.mem_cons, List.not_mem_nil, or_false] at hc
    rcases hc with rfl | rfl | rfl
    · decide
    · decide
    · decide
  have hcd11 : StrChars.Road.CodA ([(114 : Int32), (45 : Int32), (45 : Int32)] : List Int32) 0 (3 : Int32) (((([(114 : Int32), (45 : Int32), (45 : Int32)] : List Int32)).map (fun c => c.toInt8.toInt32)).map Value.int) := StrChars.Road.codOf (n := 3) rfl (fun c hc => (hp10 c hc).2)
  have hbd11 : ∀ c ∈ ([(114 : Int32), (45 : Int32), (45 : Int32)] : List Int32), ¬ c < 0 ∧ ¬ (65535 : Int32) < c := own_up _ hp10
  obtain ⟨cq12, kq12, q12a, q12b, q12c⟩ := isOf hZ e9 Fq2_0
  obtain ⟨_, _, ⟨T12, L12, k12x, n12⟩, -, X12, ⟨Lc12, hQ12, l12, y12, z12⟩, st12⟩ := X9.virtualBack hx (y := (⟨"java/lang/String", "charAt", "(I)C"⟩ : MethodName)) (z := (⟨"java/lang/String", "charAt", "(I)C"⟩ : MethodName)) hown (mvT hZ (tw hw 75 rfl)) (mvT hZ (tw hw 76 rfl)) (notFace_of_selects (args := #[]) (mvT hZ (tw hw 78 rfl))) (mvT hZ (tw hw 78 rfl)) (mvT hZ (tw hw 77 rfl)) (by decide) (StrChars.Road.chN (W := 0) hZ hwwordsChN (kI := 4) (tw hw 21 rfl) Fq2_0 Fq2_2 Fq2_1 Fq2_3 hcd11 hbd11 (Sg0.ext O2.2) nzGC (Sg1.ext O2.2) rGF (Nat.le_of_ble_eq_true rfl) (i := 1) (Nat.le_of_ble_eq_true rfl) (j := (1 : Int32)) rfl (by decide) (by decide)) q12a q12c (g := (mkF m 166 #[iv p0s, iv p1s, iv 4, iv dv3, rv w4, rv dv5, rv b6] [(.int 1), (.ref b6)])) rfl (by rw [hml]; rfl) (Steps.refl _) (argsL := [(.int 1)]) (rest := []) (lenOf pd_6 rfl) rfl (Nat.le_of_eq rfl) (hb hby at_166) (fun _ _ => ⟨rfl, e9, (by decide : 3 + 0 ≤ _), (by decide : 10 + 0 ≤ _)⟩)
  dsimp only [Pt.U, Pt.locs, Pt.cells, Pt.slots] at X12 l12 y12 z12 st12 hQ12
  subst l12 y12 z12
  obtain ⟨rfl, rfl, e12⟩ := hQ12
  have N12 := Fr.app N9 (Fr.nil n0)
  obtain ⟨_, _, ⟨T13, L13, k13x, n13⟩, -, X13, ⟨Lc13, hQ13, l13, y13, z13⟩, st13⟩ := Jvm.LawKit.callS X12 hx (y := (⟨zs8, "expect", "(IIC)C"⟩ : MethodName)) hown (mvT hZ (tw hw 97 rfl)) (mvT hZ (tw hw 98 rfl)) (mvT hZ (tw hw 99 rfl)) (mvT hZ (tw hw 100 rfl)) (by decide) (backOf (W := 1) (rm19_62 l Z a0 hw []  T2.heap n0 Z2 ) hZ (tw hw 100 rfl) (tw hw 99 rfl) (by decide) (by decide)) (g := (mkF m 173 #[iv p0s, iv p1s, iv 4, iv dv3, rv w4, rv dv5, rv b6] [(.int 119), (.int 2), (.int 4), (.int 45)])) rfl (by rw [hml]; rfl) (argsL := [(.int 4), (.int 2), (.int 119)]) (rest := [(.int 45)]) (lenOf pd_7 rfl) rfl (Nat.le_of_eq rfl) (hb hby at_173) (fun _ _ => ⟨rfl, e12, (by decide : 3 + 0 ≤ _), (by decide : 10 + 0 ≤ _)⟩)
  dsimp only [Pt.U, Pt.locs, Pt.cells, Pt.slots] at X13 l13 y13 z13 st13 hQ13
  subst l13 y13 z13
  obtain ⟨rfl, N13q, e13⟩ := hQ13
  have N13 := Fr.app N12 N13q
  have hp14 : ∀ c ∈ ([(114 : Int32), (45 : Int32), (45 : Int32)] : List Int32), ¬ c < 0 ∧ ¬ (255 : Int32) < c := by
    intro c hc
    simp only [List.mem_cons, List.not_mem_nil, or_false] at hc
    rcases hc with rfl | rfl | rfl
    · decide
    · decide
    · decide
  have hcd15 : StrChars.Road.CodA ([(114 : Int32), (45 : Int32), (45 : Int32)] : List Int32) 0 (3 : Int32) (((([(114 : Int32), (45 : Int32), (45 : Int32)] : List Int32)).map (fun c => c.toInt8.toInt32)).map Value.int) := StrChars.Road.codOf (n := 3) rfl (fun c hc => (hp14 c hc).2)
  have hbd15 : ∀ c ∈ ([(114 : Int32), (45 : Int32), (45 : Int32)] : List Int32), ¬ c < 0 ∧ ¬ (65535 : Int32) < c := own_up _ hp14
  obtain ⟨cq16, kq16, q16a, q16b, q16c⟩ := isOf hZ e13 Fq2_0
  obtain ⟨_, _, ⟨T16, L16, k16x, n16⟩, -, X16, ⟨Lc16, hQ16, l16, y16, z16⟩, st16⟩ := X13.virtualBack hx (y := (⟨"java/lang/String", "charAt", "(I)C"⟩ : MethodName)) (z := (⟨"java/lang/String", "charAt", "(I)C"⟩ : MethodName)) hown (mvT hZ (tw hw 75 rfl)) (mvT hZ (tw hw 76 rfl)) (notFace_of_selects (args := #[]) (mvT hZ (tw hw 78 rfl))) (mvT hZ (tw hw 78 rfl)) (mvT hZ (tw hw 77 rfl)) (by decide) (StrChars.Road.chN (W := 0) hZ hwwordsChN (kI := 4) (tw hw 21 rfl) Fq2_0 Fq2_2 Fq2_1 Fq2_3 hcd15 hbd15 (Sg0.ext O2.2) nzGC (Sg1.ext O2.2) rGF (Nat.le_of_ble_eq_true rfl) (i := 2) (Nat.le_of_ble_eq_true rfl) (j := (2 : Int32)) rfl (by decide) (by decide)) q16a q16c (g := (mkF m 182 #[iv p0s, iv p1s, iv 4, iv dv3, rv w4, rv dv5, rv b6] [(.int 2), (.ref b6)])) rfl (by rw [hml]; rfl) (Steps.refl _) (argsL := [(.int 2)]) (rest := []) (lenOf pd_6 rfl) rfl (Nat.le_of_eq rfl) (hb hby at_182) (fun _ _ => ⟨rfl, e13, (by decide : 3 + 0 ≤ _), (by decide : 10 + 0 ≤ _)⟩)
  dsimp only [Pt.U, Pt.locs, Pt.cells, Pt.slots] at X16 l16 y16 z16 st16 hQ16
  subst l16 y16 z16
  obtain ⟨rfl, rfl, e16⟩ := hQ16
  have N16 := Fr.app N13 (Fr.nil n0)
  obtain ⟨_, _, ⟨T17, L17, k17x, n17⟩, -, X17, ⟨Lc17, hQ17, l17, y17, z17⟩, st17⟩ := Jvm.LawKit.callS X16 hx (y := (⟨zs8, "expect", "(IIC)C"⟩ : MethodName)) hown (mvT hZ (tw hw 97 rfl)) (mvT hZ (tw hw 98 rfl)) (mvT hZ (tw hw 99 rfl)) (mvT hZ (tw hw 100 rfl)) (by decide) (backOf (W := 1) (rm19_63 l Z a0 hw []  T2.heap n0 Z2 ) hZ (tw hw 100 rfl) (tw hw 99 rfl) (by decide) (by decide)) (g := (mkF m 189 #[iv p0s, iv p1s, iv 4, iv dv3, rv w4, rv dv5, rv b6] [(.int 120), (.int 1), (.int 4), (.int 45)])) rfl (by rw [hml]; rfl) (argsL := [(.int 4), (.int 1), (.int 120)]) (rest := [(.int 45)]) (lenOf pd_7 rfl) rfl (Nat.le_of_eq rfl) (hb hby at_189) (fun _ _ => ⟨rfl, e16, (by decide : 3 + 0 ≤ _), (by decide : 10 + 0 ≤ _)⟩)
  dsimp only [Pt.U, Pt.locs, Pt.cells, Pt.slots] at X17 l17 y17 z17 st17 hQ17
  subst l17 y17 z17
  obtain ⟨rfl, N17q, e17⟩ := hQ17
  have N17 := Fr.app N16 N17q
  obtain ⟨fs, hr, hrun, hended, hW, hsame⟩ := X17.leave (v := some (.int (1 : Int32))) (fun h => by rw [hre] at h; cases h)
  refine ⟨_, _, ?_, hrun, hended, _, _, rfl, ?_, ⟨_, rfl⟩, hW, hsame.mono (by decide) (by decide)⟩
  · show SF p e below T0 (mkF m 72 #[iv p0s, iv p1s, iv 4, iv dv3, rv w4, rv dv5, .unset] []) _
    refine XS.iloadN X0.here hx rfl (hb hby at_72) rfl ?_
    show SF p e below T0 (mkF m 73 #[iv p0s, iv p1s, iv 4, iv dv3, rv w4, rv dv5, .unset] [(.int 4)]) _
    refine XS.ifYes X0.here hx rfl (pc0 := 73) (pc' := 86) rfl (hb hby at_73) rfl ((if0 _ _).trans (feq (by decide : ¬ ((4 : Int32) = (0 : Int32)))).2) (by decide) (by decide) ?_
    show SF p e below T0 (mkF m 86 #[iv p0s, iv p1s, iv 4, iv dv3, rv w4, rv dv5, .unset] []) _
    refine XS.iloadN X0.here hx rfl (hb hby at_86) rfl ?_
    refine XS.iconst X0.here hx rfl (hb hby at_87) ?_
    show SF p e below T0 (mkF m 88 #[iv p0s, iv p1s, iv 4, iv dv3, rv w4, rv dv5, .unset] [(.int 4), (.int 4)]) _
    refine XS.icmpNo X0.here hx rfl (hb hby at_88) rfl (teq (by decide : (4 : Int32) = (4 : Int32))).2 ?_
    show SF p e below T0 (mkF m 91 #[iv p0s, iv p1s, iv 4, iv dv3, rv w4, rv dv5, .unset] []) _
    refine XS.aload X0.here hx rfl (hb hby at_91) rfl rfl ?_
    show SF p e below T0 (mkF m 93 #[iv p0s, iv p1s, iv 4, iv dv3, rv w4, rv dv5, .unset] [(.ref w4)]) _
    refine st1 _ ?_
    show SF p e below T1 (mkF m 96 #[iv p0s, iv p1s, iv 4, iv dv3, rv w4, rv dv5, .unset] [(.ref w4), (.ref w4)]) _
    refine Jvm.RoadKit.acmp (g := (mkF m 96 #[iv p0s, iv p1s, iv 4, iv dv3, rv w4, rv dv5, .unset] [(.ref w4), (.ref w4)])) X1 hx rfl rfl rfl (pc0 := 96) (pc' := 101) (same := true) rfl (hb hby at_96) rfl (decide_eq_true rfl) (by decide) (by decide) ?_
    show SF p e below T1 (mkF m 101 #[iv p0s, iv p1s, iv 4, iv dv3, rv w4, rv dv5, .unset] []) _
    refine XS.iloadN X1.here hx rfl (hb hby at_101) rfl ?_
    refine XS.iconst X1.here hx rfl (hb hby at_102) ?_
    show SF p e below T1 (mkF m 103 #[iv p0s, iv p1s, iv 4, iv dv3, rv w4, rv dv5, .unset] [(.int 2), (.int 4)]) _
    refine XS.icmpYes X1.here hx rfl (pc0 := 103) (pc' := 116) rfl (hb hby at_103) rfl (feq (by decide : ¬ ((4 : Int32) = (2 : Int32)))).2 (by decide) (by decide) ?_
    show SF p e below T1 (mkF m 116 #[iv p0s, iv p1s, iv 4, iv dv3, rv w4, rv dv5, .unset] []) _
    refine XS.iloadN X1.here hx rfl (hb hby at_116) rfl ?_
    refine XS.iconst X1.here hx rfl (hb hby at_117) ?_
    show SF p e below T1 (mkF m 118 #[iv p0s, iv p1s, iv 4, iv dv3, rv w4, rv dv5, .unset] [(.int 1), (.int 4)]) _
    refine XS.icmpYes X1.here hx rfl (pc0 := 118) (pc' := 131) rfl (hb hby at_118) rfl (feq (by decide : ¬ ((4 : Int32) = (1 : Int32)))).2 (by decide) (by decide) ?_
    show SF p e below T1 (mkF m 131 #[iv p0s, iv p1s, iv 4, iv dv3, rv w4, rv dv5, .unset] []) _
    refine XS.aload X1.here hx rfl (hb hby at_131) rfl rfl ?_
    show SF p e below T1 (mkF m 133 #[iv p0s, iv p1s, iv 4, iv dv3, rv w4, rv dv5, .unset] [(.ref w4)]) _
    refine st2.trans ?_
    show SF p e below T2 (mkF m 136 #[iv p0s, iv p1s, iv 4, iv dv3, rv w4, rv dv5, .unset] [(.ref b6)]) _
    refine XS.astore X2.here hx rfl (hb hby at_136) rfl rfl (l' := #[iv p0s, iv p1s, iv 4, iv dv3, rv w4, rv dv5, rv b6]) rfl ?_
    refine XS.aload X2.here hx rfl (hb hby at_138) rfl rfl ?_
    show SF p e below T2 (mkF m 140 #[iv p0s, iv p1s, iv 4, iv dv3, rv w4, rv dv5, rv b6] [(.ref b6)]) _
    refine st5.trans ?_
    show SF p e below T5 (mkF m 143 #[iv p0s, iv p1s, iv 4, iv dv3, rv w4, rv dv5, rv b6] [(.int 3)]) _
    refine XS.iconst X5.here hx rfl (hb hby at_143) ?_
    show SF p e below T5 (mkF m 144 #[iv p0s, iv p1s, iv 4, iv dv3, rv w4, rv dv5, rv b6] [(.int 3), (.int 3)]) _
    refine XS.icmpNo X5.here hx rfl (hb hby at_144) rfl (teq (by decide : (3 : Int32) = (3 : Int32))).2 ?_
    show SF p e below T5 (mkF m 147 #[iv p0s, iv p1s, iv 4, iv dv3, rv w4, rv dv5, rv b6] []) _
    refine XS.aload X5.here hx rfl (hb hby at_147) rfl rfl ?_
    refine XS.iconst X5.here hx rfl (hb hby at_149) ?_
    show SF p e below T5 (mkF m 150 #[iv p0s, iv p1s, iv 4, iv dv3, rv w4, rv dv5, rv b6] [(.int 0), (.ref b6)]) _
    refine st8.trans ?_
    show SF p e below T8 (mkF m 153 #[iv p0s, iv p1s, iv 4, iv dv3, rv w4, rv dv5, rv b6] [(.int 114)]) _
    refine XS.iloadN X8.here hx rfl (hb hby at_153) rfl ?_
    refine XS.iconst X8.here hx rfl (hb hby at_154) ?_
    show SF p e below T8 (mkF m 155 #[iv p0s, iv p1s, iv 4, iv dv3, rv w4, rv dv5, rv b6] [(.int 4), (.int 4), (.int 114)]) _
    refine XS.bipush X8.here hx rfl (hb hby at_155) ?_
    show SF p e below T8 (mkF m 157 #[iv p0s, iv p1s, iv 4, iv dv3, rv w4, rv dv5, rv b6] [(.int 114), (.int 4), (.int 4), (.int 114)]) _
    refine st9 _ ?_
    show SF p e below T9 (mkF m 160 #[iv p0s, iv p1s, iv 4, iv dv3, rv w4, rv dv5, rv b6] [(.int 114), (.int 114)]) _
    refine XS.icmpNo X9.here hx rfl (hb hby at_160) rfl (teq (by decide : (114 : Int32) = (114 : Int32))).2 ?_
    show SF p e below T9 (mkF m 163 #[iv p0s, iv p1s, iv 4, iv dv3, rv w4, rv dv5, rv b6] []) _
    refine XS.aload X9.here hx rfl (hb hby at_163) rfl rfl ?_
    refine XS.iconst X9.here hx rfl (hb hby at_165) ?_
    show SF p e below T9 (mkF m 166 #[iv p0s, iv p1s, iv 4, iv dv3, rv w4, rv dv5, rv b6] [(.int 1), (.ref b6)]) _
    refine st12.trans ?_
    show SF p e below T12 (mkF m 169 #[iv p0s, iv p1s, iv 4, iv dv3, rv w4, rv dv5, rv b6] [(.int 45)]) _
    refine XS.iloadN X12.here hx rfl (hb hby at_169) rfl ?_
    refine XS.iconst X12.here hx rfl (hb hby at_170) ?_
    show SF p e below T12 (mkF m 171 #[iv p0s, iv p1s, iv 4, iv dv3, rv w4, rv dv5, rv b6] [(.int 2), (.int 4), (.int 45)]) _
    refine XS.bipush X12.here hx rfl (hb hby at_171) ?_
    show SF p e below T12 (mkF m 173 #[iv p0s, iv p1s, iv 4, iv dv3, rv w4, rv dv5, rv b6] [(.int 119), (.int 2), (.int 4), (.int 45)]) _
    refine st13 _ ?_
    show SF p e below T13 (mkF m 176 #[iv p0s, iv p1s, iv 4, iv dv3, rv w4, rv dv5, rv b6] [(.int 45), (.int 45)]) _
    refine XS.icmpNo X13.here hx rfl (hb hby at_176) rfl (teq (by decide : (45 : Int32) = (45 : Int32))).2 ?_
    show SF p e below T13 (mkF m 179 #[iv p0s, iv p1s, iv 4, iv dv3, rv w4, rv dv5, rv b6] []) _
    refine XS.aload X13.here hx rfl (hb hby at_179) rfl rfl ?_
    refine XS.iconst X13.here hx rfl (hb hby at_181) ?_
    show SF p e below T13 (mkF m 182 #[iv p0s, iv p1s, iv 4, iv dv3, rv w4, rv dv5, rv b6] [(.int 2), (.ref b6)]) _
    refine st16.trans ?_
    show SF p e below T16 (mkF m 185 #[iv p0s, iv p1s, iv 4, iv dv3, rv w4, rv dv5, rv b6] [(.int 45)]) _
    refine XS.iloadN X16.here hx rfl (hb hby at_185) rfl ?_
    refine XS.iconst X16.here hx rfl (hb hby at_186) ?_
    show SF p e below T16 (mkF m 187 #[iv p0s, iv p1s, iv 4, iv dv3, rv w4, rv dv5, rv b6] [(.int 1), (.int 4), (.int 45)]) _
    refine XS.bipush X16.here hx rfl (hb hby at_187) ?_
    show SF p e below T16 (mkF m 189 #[iv p0s, iv p1s, iv 4, iv dv3, rv w4, rv dv5, rv b6] [(.int 120), (.int 1), (.int 4), (.int 45)]) _
    refine st17 _ ?_
    show SF p e below T17 (mkF m 192 #[iv p0s, iv p1s, iv 4, iv dv3, rv w4, rv dv5, rv b6] [(.int 45), (.int 45)]) _
    refine XS.icmpNo X17.here hx rfl (hb hby at_192) rfl (teq (by decide : (45 : Int32) = (45 : Int32))).2 ?_
    show SF p e below T17 (mkF m 195 #[iv p0s, iv p1s, iv 4, iv dv3, rv w4, rv dv5, rv b6] []) _
    refine XS.iconst X17.here hx rfl (hb hby at_195) ?_
    refine XS.goto X17.here hx rfl (pc0 := 196) (pc' := 200) rfl (hb hby at_196) (by decide) (by decide) ?_
    show SF p e below T17 (mkF m 200 #[iv p0s, iv p1s, iv 4, iv dv3, rv w4, rv dv5, rv b6] [(.int 1)]) _
    exact retN X17 hx (t := .boolean) hre (by simp) (hb hby at_200) hr
  · exact ⟨rfl, N17⟩
set_option maxRecDepth 65536 in
set_option maxHeartbeats 400000000 in
theorem pc_13 {p : Program} {l : Launch} {e : Env} {s : State} {m : MethodId} {below : List Frame} {meth : Method} {c : Code} {T0 : State} {locs : List Loc} {Z : State} {a0 : Array Value} {h0 : Heap} {n0 : Nat} {p0s : Int32} {p1s : Int32} {GC : Int32} {GF : Value} {w4 : Addr} {w5 : Addr} {w6 : Addr} {dv3 : Int32} {dv5 : Addr} (X0 : Stand p l e room_1 s m #[(.int p0s), (.int p1s)] below meth c T0 locs 0 0) (hx : p.tables.exec = Jvm.exec) (hZ : Z.Warmed39 s.vm) (hw : HW Z a0) (hby : c.code = code) (hml : c.maxLocals = 7) (hown : s.vm.findClass zs8 = some m.cls) (hre : meth.sig.returnType = some .boolean) (hlk : meth.locks = false) (e0 : T0.heap = h0) (N0 : Fr n0 locs) (Z0 : n0 ≤ h0.size) (O0 : Old Z n0 h0) (Sg0 : Sta Z Z.heap "java/lang/String" "COMPACT_STRINGS" "Z" (.int GC)) (Sg1 : Sta Z Z.heap zs9 "SIOOBE_FORMATTER" zs5 GF) (rGF : GF.isRef = true) (nzGC : ¬ (GC = (0 : Int32))) (Sg7 : Sta Z Z.heap zs7 "READ" zs4 (.ref w4)) (E_w4 : Exa Z Z.heap w4 zs7) (Sg9 : Sta Z Z.heap zs7 "WRITE" zs4 (.ref w5)) (Sg11 : Sta Z Z.heap zs7 "EXECUTE" zs4 (.ref w6)) (F_w4_bits : Fld Z Z.heap w4 zs7 "bits" "I" (.int 4)) (F_w5_bits : Fld Z Z.heap w5 zs7 "bits" "I" (.int 2)) (F_w6_bits : Fld Z Z.heap w6 zs7 "bits" "I" (.int 1)) (P1 : ¬ ((4 : Int32) = dv3)) (P2 : w4 ≠ dv5) :
    Fine p e below s n0 (T0.setTop (mkF m 22 #[iv p0s, iv p1s, iv 4, iv dv3, rv w4, rv dv5, .unset] [])) := by
  obtain ⟨cq1, kq1, q1a, q1b, q1c⟩ := isOf hZ e0 (E_w4.ext O0.2)
  obtain ⟨_, _, ⟨T1, L1, k1x, n1⟩, -, X1, ⟨Lc1, hQ1, l1, y1, z1⟩, st1⟩ := X0.virtualBack hx (y := (⟨zs7, "bits", "()I"⟩ : MethodName)) (z := (⟨zs7, "bits", "()I"⟩ : MethodName)) hown (mvT hZ (tw hw 6 rfl)) (mvT hZ (tw hw 7 rfl)) (notFace_of_selects (args := #[]) (mvT hZ (tw hw 9 rfl))) (mvT hZ (tw hw 9 rfl)) (mvT hZ (tw hw 8 rfl)) (by decide) (backOf (W := 0) (rm2_53 l Z a0 hw [] w4 h0 n0 Z0 F_w4_bits O0) hZ (tw hw 10 rfl) (tw hw 2 rfl) (by decide) (by decide)) q1a q1c (g := (mkF m 36 #[iv p0s, iv p1s, iv 4, iv dv3, rv w4, rv dv5, .unset] [(.ref w4)])) rfl (by rw [hml]; rfl) (Steps.refl _) (argsL := []) (rest := []) (lenOf pd_1 rfl) rfl (Nat.le_of_eq rfl) (hb hby at_36) (fun _ _ => ⟨rfl, e0, (by decide : 0 + 0 ≤ _), (by decide : 0 + 0 ≤ _)⟩)
  dsimp only [Pt.U, Pt.locs, Pt.cells, Pt.slots] at X1 l1 y1 z1 st1 hQ1
  subst l1 y1 z1
  obtain ⟨rfl, N1q, e1⟩ := hQ1
  have N1 := Fr.app N0 N1q
  refine Fine.pre (fun t k => ?_) (pc_14 (dv3 := dv3) (dv5 := dv5) X1 hx hZ hw hby hml hown hre hlk e1 N1 Z0 O0 Sg0 Sg1 rGF nzGC Sg7 E_w4 Sg9 Sg11 F_w4_bits F_w5_bits F_w6_bits )
  show SF p e below T0 (mkF m 22 #[iv p0s, iv p1s, iv 4, iv dv3, rv w4, rv dv5, .unset] []) _
  refine XS.aload X0.here hx rfl (hb hby at_22) rfl rfl ?_
  show SF p e below T0 (mkF m 24 #[iv p0s, iv p1s, iv 4, iv dv3, rv w4, rv dv5, .unset] [(.ref w4)]) _
  refine XS.ifnullNo X0.here hx rfl (hb hby at_24) rfl ?_
  show SF p e below T0 (mkF m 27 #[iv p0s, iv p1s, iv 4, iv dv3, rv w4, rv dv5, .unset] []) _
  refine XS.aload X0.here hx rfl (hb hby at_27) rfl rfl ?_
  show SF p e below T0 (mkF m 29 #[iv p0s, iv p1s, iv 4, iv dv3, rv w4, rv dv5, .unset] [(.ref dv5)]) _
  refine XS.ifnonnullYes X0.here hx rfl (pc0 := 29) (pc' := 34) rfl (hb hby at_29) rfl (by decide) (by decide) ?_
  show SF p e below T0 (mkF m 34 #[iv p0s, iv p1s, iv 4, iv dv3, rv w4, rv dv5, .unset] []) _
  refine XS.aload X0.here hx rfl (hb hby at_34) rfl rfl ?_
  show SF p e below T0 (mkF m 36 #[iv p0s, iv p1s, iv 4, iv dv3, rv w4, rv dv5, .unset] [(.ref w4)]) _
  refine st1.trans ?_
  show SF p e below T1 (mkF m 39 #[iv p0s, iv p1s, iv 4, iv dv3, rv w4, rv dv5, .unset] [(.int 4)]) _
  refine XS.iloadN X1.here hx rfl (hb hby at_39) rfl ?_
  show SF p e below T1 (mkF m 40 #[iv p0s, iv p1s, iv 4, iv dv3, rv w4, rv dv5, .unset] [(.int 4), (.int 4)]) _
  refine XS.icmpYes X1.here hx rfl (pc0 := 40) (pc' := 45) rfl (hb hby at_40) rfl (teq (by decide : (4 : Int32) = (4 : Int32))).1 (by decide) (by decide) ?_
  show SF p e below T1 (mkF m 45 #[iv p0s, iv p1s, iv 4, iv dv3, rv w4, rv dv5, .unset] []) _
  refine XS.aload X1.here hx rfl (hb hby at_45) rfl rfl ?_
  refine XS.aload X1.here hx rfl (hb hby at_47) rfl rfl ?_
  show SF p e below T1 (mkF m 49 #[iv p0s, iv p1s, iv 4, iv dv3, rv w4, rv dv5, .unset] [(.ref dv5), (.ref w4)]) _
  refine Jvm.RoadKit.acmp (g := (mkF m 49 #[iv p0s, iv p1s, iv 4, iv dv3, rv w4, rv dv5, .unset] [(.ref dv5), (.ref w4)])) X1 hx rfl rfl rfl (pc0 := 49) (pc' := 56) (same := false) rfl (hb hby at_49) rfl (decide_eq_false fun q => P2 (Value.ref.inj q)) (by decide) (by decide) ?_
  show SF p e below T1 (mkF m 56 #[iv p0s, iv p1s, iv 4, iv dv3, rv w4, rv dv5, .unset] []) _
  refine XS.iconst X1.here hx rfl (hb hby at_56) ?_
  refine XS.iloadN X1.here hx rfl (hb hby at_57) rfl ?_
  show SF p e below T1 (mkF m 58 #[iv p0s, iv p1s, iv 4, iv dv3, rv w4, rv dv5, .unset] [(.int 4), (.int 0)]) _
  refine XS.iloadN X1.here hx rfl (hb hby at_58) rfl ?_
  show SF p e below T1 (mkF m 59 #[iv p0s, iv p1s, iv 4, iv dv3, rv w4, rv dv5, .unset] [(.int dv3), (.int 4), (.int 0)]) _
  refine XS.icmpYes X1.here hx rfl (pc0 := 59) (pc' := 66) rfl (hb hby at_59) rfl (feq P1).2 (by decide) (by decide) ?_
  show SF p e below T1 (mkF m 66 #[iv p0s, iv p1s, iv 4, iv dv3, rv w4, rv dv5, .unset] [(.int 0)]) _
  refine XS.iconst X1.here hx rfl (hb hby at_66) ?_
  show SF p e below T1 (mkF m 67 #[iv p0s, iv p1s, iv 4, iv dv3, rv w4, rv dv5, .unset] [(.int 0), (.int 0)]) _
  refine XS.icmpYes X1.here hx rfl (pc0 := 67) (pc' := 72) rfl (hb hby at_67) rfl (teq (by decide : (0 : Int32) = (0 : Int32))).1 (by decide) (by decide) ?_
  exact k
set_option maxRecDepth 65536 in
set_option maxHeartbeats 400000000 in
theorem pc_15 {p : Program} {l : Launch} {e : Env} {s : State} {m : MethodId} {below : List Frame} {meth : Method} {c : Code} {T0 : State} {locs : List Loc} {Z : State} {a0 : Array Value} {h0 : Heap} {n0 : Nat} {p0s : Int32} {p1s : Int32} {GC : Int32} {GF : Value} {w4 : Addr} {w5 : Addr} {w6 : Addr}  (X0 : Stand p l e room_1 s m #[(.int p0s), (.int p1s)] below meth c T0 locs 0 0) (hx : p.tables.exec = Jvm.exec) (hZ : Z.Warmed39 s.vm) (hw : HW Z a0) (hby : c.code = code) (hml : c.maxLocals = 7) (hown : s.vm.findClass zs8 = some m.cls) (hre : meth.sig.returnType = some .boolean) (hlk : meth.locks = false) (e0 : T0.heap = h0) (N0 : Fr n0 locs) (Z0 : n0 ≤ h0.size) (O0 : Old Z n0 h0) (Sg0 : Sta Z Z.heap "java/lang/String" "COMPACT_STRINGS" "Z" (.int GC)) (Sg1 : Sta Z Z.heap zs9 "SIOOBE_FORMATTER" zs5 GF) (rGF : GF.isRef = true) (nzGC : ¬ (GC = (0 : Int32))) (Sg7 : Sta Z Z.heap zs7 "READ" zs4 (.ref w4)) (E_w4 : Exa Z Z.heap w4 zs7) (Sg9 : Sta Z Z.heap zs7 "WRITE" zs4 (.ref w5)) (Sg11 : Sta Z Z.heap zs7 "EXECUTE" zs4 (.ref w6)) (F_w4_bits : Fld Z Z.heap w4 zs7 "bits" "I" (.int 4)) (F_w5_bits : Fld Z Z.heap w5 zs7 "bits" "I" (.int 2)) (F_w6_bits : Fld Z Z.heap w6 zs7 "bits" "I" (.int 1)) :
    Fine p e below s n0 (T0.setTop (mkF m 22 #[iv p0s, iv p1s, iv 4, iv 4, rv w4, rv w4, .unset] [])) := by
  obtain ⟨cq1, kq1, q1a, q1b, q1c⟩ := isOf hZ e0 (E_w4.ext O0.2)
  obtain ⟨_, _, ⟨T1, L1, k1x, n1⟩, -, X1, ⟨Lc1, hQ1, l1, y1, z1⟩, st1⟩ := X0.virtualBack hx (y := (⟨zs7, "bits", "()I"⟩ : MethodName)) (z := (⟨zs7, "bits", "()I"⟩ : MethodName)) hown (mvT hZ (tw hw 6 rfl)) (mvT hZ (tw hw 7 rfl)) (notFace_of_selects (args := #[]) (mvT hZ (tw hw 9 rfl))) (mvT hZ (tw hw 9 rfl)) (mvT hZ (tw hw 8 rfl)) (by decide) (backOf (W := 0) (rm2_53 l Z a0 hw [] w4 h0 n0 Z0 F_w4_bits O0) hZ (tw hw 10 rfl) (tw hw 2 rfl) (by decide) (by decide)) q1a q1c (g := (mkF m 36 #[iv p0s, iv p1s, iv 4, iv 4, rv w4, rv w4, .unset] [(.ref w4)])) rfl (by rw [hml]; rfl) (Steps.refl _) (argsL := []) (rest := []) (lenOf pd_1 rfl) rfl (Nat.le_of_eq rfl) (hb hby at_36) (fun _ _ => ⟨rfl, e0, (by decide : 0 + 0 ≤ _), (by decide : 0 + 0 ≤ _)⟩)
  dsimp only [Pt.U, Pt.locs, Pt.cells, Pt.slots] at X1 l1 y1 z1 st1 hQ1
  subst l1 y1 z1
  obtain ⟨rfl, N1q, e1⟩ := hQ1
  have N1 := Fr.app N0 N1q
  refine Fine.pre (fun t k => ?_) (pc_14 (dv3 := (4 : Int32)) (dv5 := w4) X1 hx hZ hw hby hml hown hre hlk e1 N1 Z0 O0 Sg0 Sg1 rGF nzGC Sg7 E_w4 Sg9 Sg11 F_w4_bits F_w5_bits F_w6_bits )
  show SF p e below T0 (mkF m 22 #[iv p0s, iv p1s, iv 4, iv 4, rv w4, rv w4, .unset] []) _
  refine XS.aload X0.here hx rfl (hb hby at_22) rfl rfl ?_
  show SF p e below T0 (mkF m 24 #[iv p0s, iv p1s, iv 4, iv 4, rv w4, rv w4, .unset] [(.ref w4)]) _
  refine XS.ifnullNo X0.here hx rfl (hb hby at_24) rfl ?_
  show SF p e below T0 (mkF m 27 #[iv p0s, iv p1s, iv 4, iv 4, rv w4, rv w4, .unset] []) _
  refine XS.aload X0.here hx rfl (hb hby at_27) rfl rfl ?_
  show SF p e below T0 (mkF m 29 #[iv p0s, iv p1s, iv 4, iv 4, rv w4, rv w4, .unset] [(.ref w4)]) _
  refine XS.ifnonnullYes X0.here hx rfl (pc0 := 29) (pc' := 34) rfl (hb hby at_29) rfl (by decide) (by decide) ?_
  show SF p e below T0 (mkF m 34 #[iv p0s, iv p1s, iv 4, iv 4, rv w4, rv w4, .unset] []) _
  refine XS.aload X0.here hx rfl (hb hby at_34) rfl rfl ?_
  show SF p e below T0 (mkF m 36 #[iv p0s, iv p1s, iv 4, iv 4, rv w4, rv w4, .unset] [(.ref w4)]) _
  refine st1.trans ?_
  show SF p e below T1 (mkF m 39 #[iv p0s, iv p1s, iv 4, iv 4, rv w4, rv w4, .unset] [(.int 4)]) _
  refine XS.iloadN X1.here hx rfl (hb hby at_39) rfl ?_
  show SF p e below T1 (mkF m 40 #[iv p0s, iv p1s, iv 4, iv 4, rv w4, rv w4, .unset] [(.int 4), (.int 4)]) _
  refine XS.icmpYes X1.here hx rfl (pc0 := 40) (pc' := 45) rfl (hb hby at_40) rfl (teq (by decide : (4 : Int32) = (4 : Int32))).1 (by decide) (by decide) ?_
  show SF p e below T1 (mkF m 45 #[iv p0s, iv p1s, iv 4, iv 4, rv w4, rv w4, .unset] []) _
  refine XS.aload X1.here hx rfl (hb hby at_45) rfl rfl ?_
  refine XS.aload X1.here hx rfl (hb hby at_47) rfl rfl ?_
  show SF p e below T1 (mkF m 49 #[iv p0s, iv p1s, iv 4, iv 4, rv w4, rv w4, .unset] [(.ref w4), (.ref w4)]) _
  refine Jvm.RoadKit.acmp (g := (mkF m 49 #[iv p0s, iv p1s, iv 4, iv 4, rv w4, rv w4, .unset] [(.ref w4), (.ref w4)])) X1 hx rfl rfl rfl (pc0 := 49) (pc' := 52) (same := true) rfl (hb hby at_49) rfl (decide_eq_true rfl) (by decide) (by decide) ?_
  show SF p e below T1 (mkF m 52 #[iv p0s, iv p1s, iv 4, iv 4, rv w4, rv w4, .unset] []) _
  refine XS.iconst X1.here hx rfl (hb hby at_52) ?_
  refine XS.goto X1.here hx rfl (pc0 := 53) (pc' := 57) rfl (hb hby at_53) (by decide) (by decide) ?_
  show SF p e below T1 (mkF m 57 #[iv p0s, iv p1s, iv 4, iv 4, rv w4, rv w4, .unset] [(.int 1)]) _
  refine XS.iloadN X1.here hx rfl (hb hby at_57) rfl ?_
  refine XS.iloadN X1.here hx rfl (hb hby at_58) rfl ?_
  show SF p e below T1 (mkF m 59 #[iv p0s, iv p1s, iv 4, iv 4, rv w4, rv w4, .unset] [(.int 4), (.int 4), (.int 1)]) _
  refine XS.icmpNo X1.here hx rfl (hb hby at_59) rfl (teq (by decide : (4 : Int32) = (4 : Int32))).2 ?_
  show SF p e below T1 (mkF m 62 #[iv p0s, iv p1s, iv 4, iv 4, rv w4, rv w4, .unset] [(.int 1)]) _
  refine XS.iconst X1.here hx rfl (hb hby at_62) ?_
  refine XS.goto X1.here hx rfl (pc0 := 63) (pc' := 67) rfl (hb hby at_63) (by decide) (by decide) ?_
  show SF p e below T1 (mkF m 67 #[iv p0s, iv p1s, iv 4, iv 4, rv w4, rv w4, .unset] [(.int 1), (.int 1)]) _
  refine XS.icmpYes X1.here hx rfl (pc0 := 67) (pc' := 72) rfl (hb hby at_67) rfl (teq (by decide : (1 : Int32) = (1 : Int32))).1 (by decide) (by decide) ?_
  exact k
-- Rights.bits 
def Q2_64 (Z : State) (w8 : Addr) (h0 : Heap) (n0 : Nat) (v : Option Value) (h : Heap) (L : List Loc) : Prop := v = some (.int 5) ∧ Fr n0 L ∧ h = h0
set_option maxRecDepth 65536 in
set_option maxHeartbeats 40000000 in
theorem rm2_64 (l : Launch) (Z : State) (a0 : Array Value) (hw : HW Z a0) (ws : List Jvm.Cond) (w8 : Addr) (h0 : Heap) (n0 : Nat) (Z0 : n0 ≤ h0.size) (F_w8_bits : Fld Z Z.heap w8 zs7 "bits" "I" (.int 5)) (P2 : Old Z n0 h0) :
    MF l Z (⟨zs7, "bits", "()I"⟩ : MethodName) (Jvm.Cond.code (⟨zs7, "bits", "()I"⟩ : MethodName) prog_35_method_3_code 1 (some .int)) ws ({ frames := 0, cells := 0, slots := 0, locals := 0 } : Room) #[(.ref w8)] h0 (Q2_64 Z w8 h0 n0) := by
  refine own_enter (plainFor_of_name pn_0) fun p e s m below meth c s₁ X0 hx hby hml hown hnm hZ e0 hre hlk => ?_
  have N0 := Fr.nil n0
  have pre0 : ∀ t, SF p e below s₁ (mkF m 0 #[rv w8] []) t → SF p e below s₁ (entryFrame m #[(.ref w8)] 1) t := fun t k => castTop (ef_1 m w8) k
  obtain ⟨T1, X1, e1, st1⟩ := getF X0 hx hZ hown (host := "") (Or.inl (tw hw 11 rfl)) Via.refl e0 (F_w8_bits.ext P2.2) (g := (mkF m 1 #[rv w8] [(.ref w8)])) rfl rfl (hb hby d2_1)
  obtain ⟨fs, hr, hrun, hended, hW, hsame⟩ := X1.leave (v := some (.int 5)) (fun h => by rw [hre] at h; cases h)
  refine ⟨_, _, pre0 _ ?_, hrun, hended, _, _, rfl, ?_, ⟨_, rfl⟩, hW, hsame.mono (by decide) (by decide)⟩
  · show SF p e below s₁ (mkF m 0 #[rv w8] []) _
    refine XS.aloadN X0.here hx rfl (hb hby d2_0) rfl rfl ?_
    show SF p e below s₁ (mkF m 1 #[rv w8] [(.ref w8)]) _
    refine st1 _ ?_
    show SF p e below T1 (mkF m 4 #[rv w8] [(.int 5)]) _
    exact retI X1 hx hre (hb hby d2_4) hr
  · show Q2_64 Z w8 h0 n0 _ T1.heap _
    rw [e1]
    exact ⟨rfl, N0, rfl⟩
-- Rights.containsAll 
def Q5_65 (Z : State) (w8 : Addr) (w4 : Addr) (h0 : Heap) (n0 : Nat) (v : Option Value) (h : Heap) (L : List Loc) : Prop := v = some (.int 1) ∧ Fr n0 L ∧ h = h0
set_option maxRecDepth 65536 in
set_option maxHeartbeats 40000000 in
theorem rm5_65 (l : Launch) (Z : State) (a0 : Array Value) (hw : HW Z a0) (ws : List Jvm.Cond) (w8 : Addr) (w4 : Addr) (h0 : Heap) (n0 : Nat) (Z0 : n0 ≤ h0.size) (F_w4_bits : Fld Z Z.heap w4 zs7 "bits" "I" (.int 4)) (P2 : Old Z n0 h0) (F_w8_bits : Fld Z Z.heap w8 zs7 "bits" "I" (.int 5)) :
    MF l Z (⟨zs7, "containsAll", zs2⟩ : MethodName) (Jvm.Cond.code (⟨zs7, "containsAll", zs2⟩ : MethodName) prog_35_method_4_code 2 (some .boolean)) ws ({ frames := 0, cells := 0, slots := 0, locals := 0 } : Room) #[(.ref w8), (.ref w4)] h0 (Q5_65 Z w8 w4 h0 n0) := by
  refine own_enter (plainFor_of_name pn_0) fun p e s m below meth c s₁ X0 hx hby hml hown hnm hZ e0 hre hlk => ?_
  have N0 := Fr.nil n0
  have pre0 : ∀ t, SF p e below s₁ (mkF m 0 #[rv w8, rv w4] []) t → SF p e below s₁ (entryFrame m #[(.ref w8), (.ref w4)] 2) t := fun t k => castTop (ef_2 m w8 w4) k
  obtain ⟨T1, X1, e1, st1⟩ := getF X0 hx hZ hown (host := "") (Or.inl (tw hw 11 rfl)) Via.refl e0 (F_w4_bits.ext P2.2) (g := (mkF m 1 #[rv w8, rv w4] [(.ref w4)])) rfl rfl (hb hby d5_1)
  obtain ⟨T2, X2, e2, st2⟩ := getF X1 hx hZ hown (host := "") (Or.inl (tw hw 11 rfl)) Via.refl e1 (F_w8_bits.ext P2.2) (g := (mkF m 5 #[rv w8, rv w4] [(.ref w8), (.int 4)])) rfl rfl (hb hby d5_5)
  obtain ⟨fs, hr, hrun, hended, hW, hsame⟩ := X2.leave (v := some (.int 1)) (fun h => by rw [hre] at h; cases h)
  refine ⟨_, _, pre0 _ ?_, hrun, hended, _, _, rfl, ?_, ⟨_, rfl⟩, hW, hsame.mono (by decide) (by decide)⟩
  · show SF p e below s₁ (mkF m 0 #[rv w8, rv w4] []) _
    refine XS.aloadN X0.here hx rfl (hb hby d5_0) rfl rfl ?_
    show SF p e below s₁ (mkF m 1 #[rv w8, rv w4] [(.ref w4)]) _
    refine st1 _ ?_
    show SF p e below T1 (mkF m 4 #[rv w8, rv w4] [(.int 4)]) _
    refine XS.aloadN X1.here hx rfl (hb hby d5_4) rfl rfl ?_
    show SF p e below T1 (mkF m 5 #[rv w8, rv w4] [(.ref w8), (.int 4)]) _
    refine st2 _ ?_
    show SF p e below T2 (mkF m 8 #[rv w8, rv w4] [(.int 5), (.int 4)]) _
    refine XS.iconst X2.here hx rfl (hb hby d5_8) ?_
    show SF p e below T2 (mkF m 9 #[rv w8, rv w4] [(.int (-1)), (.int 5), (.int 4)]) _
    refine XS.ixor X2.here hx rfl (hb hby d5_9) rfl ?_
    show SF p e below T2 (mkF m 10 #[rv w8, rv w4] [(.int ((5 : Int32) ^^^ (-1 : Int32))), (.int 4)]) _
    rw [show ((5 : Int32) ^^^ (-1 : Int32)) = (-6 : Int32) from by decide]
    show SF p e below T2 (mkF m 10 #[rv w8, rv w4] [(.int (-6)), (.int 4)]) _
    refine XS.iand X2.here hx rfl (hb hby d5_10) rfl ?_
    show SF p e below T2 (mkF m 11 #[rv w8, rv w4] [(.int ((4 : Int32) &&& (-6 : Int32)))]) _
    rw [show ((4 : Int32) &&& (-6 : Int32)) = (0 : Int32) from by decide]
    show SF p e below T2 (mkF m 11 #[rv w8, rv w4] [(.int 0)]) _
    refine XS.ifNo X2.here hx rfl (hb hby d5_11) rfl ((if0 _ _).trans (teq (by decide : (0 : Int32) = (0 : Int32))).2) ?_
    show SF p e below T2 (mkF m 14 #[rv w8, rv w4] []) _
    refine XS.iconst X2.here hx rfl (hb hby d5_14) ?_
    refine XS.goto X2.here hx rfl (pc0 := 15) (pc' := 19) rfl (hb hby d5_15) (by decide) (by decide) ?_
    show SF p e below T2 (mkF m 19 #[rv w8, rv w4] [(.int 1)]) _
    exact retN X2 hx (t := .boolean) hre (by simp) (hb hby d5_19) hr
  · show Q5_65 Z w8 w4 h0 n0 _ T2.heap _
    rw [e2]
    exact ⟨rfl, N0, rfl⟩
-- Rights.letter 
def Q4_66 (Z : State) (w8 : Addr) (w4 : Addr) (h0 : Heap) (n0 : Nat) (v : Option Value) (h : Heap) (L : List Loc) : Prop := v = some (.int 114) ∧ Fr n0 L ∧ h = h0
set_option maxRecDepth 65536 in
set_option maxHeartbeats 40000000 in
theorem rm4_66 (l : Launch) (Z : State) (a0 : Array Value) (hw : HW Z a0) (ws : List Jvm.Cond) (w8 : Addr) (w4 : Addr) (h0 : Heap) (n0 : Nat) (Z0 : n0 ≤ h0.size) (E_w8 : Exa Z Z.heap w8 zs7) (P2 : Old Z n0 h0) (F_w4_bits : Fld Z Z.heap w4 zs7 "bits" "I" (.int 4)) (F_w8_bits : Fld Z Z.heap w8 zs7 "bits" "I" (.int 5)) :
    MF l Z (⟨zs7, "letter", zs3⟩ : MethodName) (Jvm.Cond.code (⟨zs7, "letter", zs3⟩ : MethodName) prog_35_method_6_code 3 (some .char)) ws ({ frames := 1, cells := 0, slots := 0, locals := 13 } : Room) #[(.ref w8), (.ref w4), (.int 114)] h0 (Q4_66 Z w8 w4 h0 n0) := by
  refine own_enter (plainFor_of_name pn_0) fun p e s m below meth c s₁ X0 hx hby hml hown hnm hZ e0 hre hlk => ?_
  have N0 := Fr.nil n0
  have pre0 : ∀ t, SF p e below s₁ (mkF m 0 #[rv w8, rv w4, iv 114] []) t → SF p e below s₁ (entryFrame m #[(.ref w8), (.ref w4), (.int 114)] 3) t := fun t k => castTop (ef_3 m w8 w4 (114 : Int32)) k
  obtain ⟨cq1, kq1, q1a, q1b, q1c⟩ := isOf hZ e0 (E_w8.ext P2.2)
  obtain ⟨_, _, ⟨T1, L1, k1x, n1⟩, -, X1, ⟨Lc1, hQ1, l1, y1, z1⟩, st1⟩ := X0.virtualBack hx (y := (⟨zs7, "containsAll", zs2⟩ : MethodName)) (z := (⟨zs7, "containsAll", zs2⟩ : MethodName)) hown (mvT hZ (tw hw 30 rfl)) (mvT hZ (tw hw 31 rfl)) (notFace_of_selects (args := #[]) (mvT hZ (tw hw 33 rfl))) (mvT hZ (tw hw 33 rfl)) (mvT hZ (tw hw 32 rfl)) (by decide) (backOf (W := 0) (rm5_65 l Z a0 hw [] w8 w4 h0 n0 Z0 F_w4_bits P2 F_w8_bits) hZ (tw hw 34 rfl) (tw hw 2 rfl) (by decide) (by decide)) q1a q1c (g := (mkF m 2 #[rv w8, rv w4, iv 114] [(.ref w4), (.ref w8)])) rfl (by rw [hml]; rfl) (Steps.refl _) (argsL := [(.ref w4)]) (rest := []) (lenOf pd_2 rfl) rfl (Nat.le_of_eq rfl) (hb hby d4_2) (fun _ _ => ⟨rfl, e0, (by decide : 0 + 0 ≤ _), (by decide : 0 + 0 ≤ _)⟩)
  dsimp only [Pt.U, Pt.locs, Pt.cells, Pt.slots] at X1 l1 y1 z1 st1 hQ1
  subst l1 y1 z1
  obtain ⟨rfl, N1q, e1⟩ := hQ1
  have N1 := Fr.app N0 N1q
  obtain ⟨fs, hr, hrun, hended, hW, hsame⟩ := X1.leave (v := some (.int 114)) (fun h => by rw [hre] at h; cases h)
  refine ⟨_, _, pre0 _ ?_, hrun, hended, _, _, rfl, ?_, ⟨_, rfl⟩, hW, hsame.mono (by decide) (by decide)⟩
  · show SF p e below s₁ (mkF m 0 #[rv w8, rv w4, iv 114] []) _
    refine XS.aloadN X0.here hx rfl (hb hby d4_0) rfl rfl ?_
    refine XS.aloadN X0.here hx rfl (hb hby d4_1) rfl rfl ?_
    show SF p e below s₁ (mkF m 2 #[rv w8, rv w4, iv 114] [(.ref w4), (.ref w8)]) _
    refine st1.trans ?_
    show SF p e below T1 (mkF m 5 #[rv w8, rv w4, iv 114] [(.int 1)]) _
    refine XS.ifNo X1.here hx rfl (hb hby d4_5) rfl ((if0 _ _).trans (feq (by decide : ¬ ((1 : Int32) = (0 : Int32)))).1) ?_
    show SF p e below T1 (mkF m 8 #[rv w8, rv w4, iv 114] []) _
    refine XS.iloadN X1.here hx rfl (hb hby d4_8) rfl ?_
    refine XS.goto X1.here hx rfl (pc0 := 9) (pc' := 14) rfl (hb hby d4_9) (by decide) (by decide) ?_
    show SF p e below T1 (mkF m 14 #[rv w8, rv w4, iv 114] [(.int 114)]) _
    exact retN X1 hx (t := .char) hre (by simp) (hb hby d4_14) hr
  · show Q4_66 Z w8 w4 h0 n0 _ T1.heap _
    rw [e1]
    exact ⟨rfl, N1, rfl⟩
-- Rights.containsAll 
def Q5_67 (Z : State) (w8 : Addr) (w5 : Addr) (h0 : Heap) (n0 : Nat) (v : Option Value) (h : Heap) (L : List Loc) : Prop := v = some (.int 0) ∧ Fr n0 L ∧ h = h0
set_option maxRecDepth 65536 in
set_option maxHeartbeats 40000000 in
theorem rm5_67 (l : Launch) (Z : State) (a0 : Array Value) (hw : HW Z a0) (ws : List Jvm.Cond) (w8 : Addr) (w5 : Addr) (h0 : Heap) (n0 : Nat) (Z0 : n0 ≤ h0.size) (F_w5_bits : Fld Z Z.heap w5 zs7 "bits" "I" (.int 2)) (P2 : Old Z n0 h0) (F_w8_bits : Fld Z Z.heap w8 zs7 "bits" "I" (.int 5)) :
    MF l Z (⟨zs7, "containsAll", zs2⟩ : MethodName) (Jvm.Cond.code (⟨zs7, "containsAll", zs2⟩ : MethodName) prog_35_method_4_code 2 (some .boolean)) ws ({ frames := 0, cells := 0, slots := 0, locals := 0 } : Room) #[(.ref w8), (.ref w5)] h0 (Q5_67 Z w8 w5 h0 n0) := by
  refine own_enter (plainFor_of_name pn_0) fun p e s m below meth c s₁ X0 hx hby hml hown hnm hZ e0 hre hlk => ?_
  have N0 := Fr.nil n0
  have pre0 : ∀ t, SF p e below s₁ (mkF m 0 #[rv w8, rv w5] []) t → SF p e below s₁ (entryFrame m #[(.ref w8), (.ref w5)] 2) t := fun t k => castTop (ef_2 m w8 w5) k
  obtain ⟨T1, X1, e1, st1⟩ := getF X0 hx hZ hown (host := "") (Or.inl (tw hw 11 rfl)) Via.refl e0 (F_w5_bits.ext P2.2) (g := (mkF m 1 #[rv w8, rv w5] [(.ref w5)])) rfl rfl (hb hby d5_1)
  obtain ⟨T2, X2, e2, st2⟩ := getF X1 hx hZ hown (host := "") (Or.inl (tw hw 11 rfl)) Via.refl e1 (F_w8_bits.ext P2.2) (g := (mkF m 5 #[rv w8, rv w5] [(.ref w8), (.int 2)])) rfl rfl (hb hby d5_5)
  obtain ⟨fs, hr, hrun, hended, hW, hsame⟩ := X2.leave (v := some (.int 0)) (fun h => by rw [hre] at h; cases h)
  refine ⟨_, _, pre0 _ ?_, hrun, hended, _, _, rfl, ?_, ⟨_, rfl⟩, hW, hsame.mono (by decide) (by decide)⟩
  · show SF p e below s₁ (mkF m 0 #[rv w8, rv w5] []) _
    refine XS.aloadN X0.here hx rfl (hb hby d5_0) rfl rfl ?_
    show SF p e below s₁ (mkF m 1 #[rv w8, rv w5] [(.ref w5)]) _
    refine st1 _ ?_
    show SF p e below T1 (mkF m 4 #[rv w8, rv w5] [(.int 2)]) _
    refine XS.aloadN X1.here hx rfl (hb hby d5_4) rfl rfl ?_
    show SF p e below T1 (mkF m 5 #[rv w8, rv w5] [(.ref w8), (.int 2)]) _
    refine st2 _ ?_
    show SF p e below T2 (mkF m 8 #[rv w8, rv w5] [(.int 5), (.int 2)]) _
    refine XS.iconst X2.here hx rfl (hb hby d5_8) ?_
    show SF p e below T2 (mkF m 9 #[rv w8, rv w5] [(.int (-1)), (.int 5), (.int 2)]) _
    refine XS.ixor X2.here hx rfl (hb hby d5_9) rfl ?_
    show SF p e below T2 (mkF m 10 #[rv w8, rv w5] [(.int ((5 : Int32) ^^^ (-1 : Int32))), (.int 2)]) _
    rw [show ((5 : Int32) ^^^ (-1 : Int32)) = (-6 : Int32) from by decide]
    show SF p e below T2 (mkF m 10 #[rv w8, rv w5] [(.int (-6)), (.int 2)]) _
    refine XS.iand X2.here hx rfl (hb hby d5_10) rfl ?_
    show SF p e below T2 (mkF m 11 #[rv w8, rv w5] [(.int ((2 : Int32) &&& (-6 : Int32)))]) _
    rw [show ((2 : Int32) &&& (-6 : Int32)) = (2 : Int32) from by decide]
    show SF p e below T2 (mkF m 11 #[rv w8, rv w5] [(.int 2)]) _
    refine XS.ifYes X2.here hx rfl (pc0 := 11) (pc' := 18) rfl (hb hby d5_11) rfl ((if0 _ _).trans (feq (by decide : ¬ ((2 : Int32) = (0 : Int32)))).2) (by decide) (by decide) ?_
    show SF p e below T2 (mkF m 18 #[rv w8, rv w5] []) _
    refine XS.iconst X2.here hx rfl (hb hby d5_18) ?_
    show SF p e below T2 (mkF m 19 #[rv w8, rv w5] [(.int 0)]) _
    exact retN X2 hx (t := .boolean) hre (by simp) (hb hby d5_19) hr
  · show Q5_67 Z w8 w5 h0 n0 _ T2.heap _
    rw [e2]
    exact ⟨rfl, N0, rfl⟩
-- Rights.letter 
def Q4_68 (Z : State) (w8 : Addr) (w5 : Addr) (h0 : Heap) (n0 : Nat) (v : Option Value) (h : Heap) (L : List Loc) : Prop := v = some (.int 45) ∧ Fr n0 L ∧ h = h0
set_option maxRecDepth 65536 in
set_option maxHeartbeats 40000000 in
theorem rm4_68 (l : Launch) (Z : State) (a0 : Array Value) (hw : HW Z a0) (ws : List Jvm.Cond) (w8 : Addr) (w5 : Addr) (h0 : Heap) (n0 : Nat) (Z0 : n0 ≤ h0.size) (E_w8 : Exa Z Z.heap w8 zs7) (P2 : Old Z n0 h0) (F_w5_bits : Fld Z Z.heap w5 zs7 "bits" "I" (.int 2)) (F_w8_bits : Fld Z Z.heap w8 zs7 "bits" "I" (.int 5)) :
    MF l Z (⟨zs7, "letter", zs3⟩ : MethodName) (Jvm.Cond.code (⟨zs7, "letter", zs3⟩ : MethodName) prog_35_method_6_code 3 (some .char)) ws ({ frames := 1, cells := 0, slots := 0, locals := 13 } : Room) #[(.ref w8), (.ref w5), (.int 119)] h0 (Q4_68 Z w8 w5 h0 n0) := by
  refine own_enter (plainFor_of_name pn_0) fun p e s m below meth c s₁ X0 hx hby hml hown hnm hZ e0 hre hlk => ?_
  have N0 := Fr.nil n0
  have pre0 : ∀ t, SF p e below s₁ (mkF m 0 #[rv w8, rv w5, iv 119] []) t → SF p e below s₁ (entryFrame m #[(.ref w8), (.ref w5), (.int 119)] 3) t := fun t k => castTop (ef_3 m w8 w5 (119 : Int32)) k
  obtain ⟨cq1, kq1, q1a, q1b, q1c⟩ := isOf hZ e0 (E_w8.ext P2.2)
  obtain ⟨_, _, ⟨T1, L1, k1x, n1⟩, -, X1, ⟨Lc1, hQ1, l1, y1, z1⟩, st1⟩ := X0.virtualBack hx (y := (⟨zs7, "containsAll", zs2⟩ : MethodName)) (z := (⟨zs7, "containsAll", zs2⟩ : MethodName)) hown (mvT hZ (tw hw 30 rfl)) (mvT hZ (tw hw 31 rfl)) (notFace_of_selects (args := #[]) (mvT hZ (tw hw 33 rfl))) (mvT hZ (tw hw 33 rfl)) (mvT hZ (tw hw 32 rfl)) (by decide) (backOf (W := 0) (rm5_67 l Z a0 hw [] w8 w5 h0 n0 Z0 F_w5_bits P2 F_w8_bits) hZ (tw hw 34 rfl) (tw hw 2 rfl) (by decide) (by decide)) q1a q1c (g := (mkF m 2 #[rv w8, rv w5, iv 119] [(.ref w5), (.ref w8)])) rfl (by rw [hml]; rfl) (Steps.refl _) (argsL := [(.ref w5)]) (rest := []) (lenOf pd_2 rfl) rfl (Nat.le_of_eq rfl) (hb hby d4_2) (fun _ _ => ⟨rfl, e0, (by decide : 0 + 0 ≤ _), (by decide : 0 + 0 ≤ _)⟩)
  dsimp only [Pt.U, Pt.locs, Pt.cells, Pt.slots] at X1 l1 y1 z1 st1 hQ1
  subst l1 y1 z1
  obtain ⟨rfl, N1q, e1⟩ := hQ1
  have N1 := Fr.app N0 N1q
  obtain ⟨fs, hr, hrun, hended, hW, hsame⟩ := X1.leave (v := some (.int 45)) (fun h => by rw [hre] at h; cases h)
  refine ⟨_, _, pre0 _ ?_, hrun, hended, _, _, rfl, ?_, ⟨_, rfl⟩, hW, hsame.mono (by decide) (by decide)⟩
  · show SF p e below s₁ (mkF m 0 #[rv w8, rv w5, iv 119] []) _
    refine XS.aloadN X0.here hx rfl (hb hby d4_0) rfl rfl ?_
    refine XS.aloadN X0.here hx rfl (hb hby d4_1) rfl rfl ?_
    show SF p e below s₁ (mkF m 2 #[rv w8, rv w5, iv 119] [(.ref w5), (.ref w8)]) _
    refine st1.trans ?_
    show SF p e below T1 (mkF m 5 #[rv w8, rv w5, iv 119] [(.int 0)]) _
    refine XS.ifYes X1.here hx rfl (pc0 := 5) (pc' := 12) rfl (hb hby d4_5) rfl ((if0 _ _).trans (teq (by decide : (0 : Int32) = (0 : Int32))).1) (by decide) (by decide) ?_
    show SF p e below T1 (mkF m 12 #[rv w8, rv w5, iv 119] []) _
    refine XS.bipush X1.here hx rfl (hb hby d4_12) ?_
    show SF p e below T1 (mkF m 14 #[rv w8, rv w5, iv 119] [(.int 45)]) _
    exact retN X1 hx (t := .char) hre (by simp) (hb hby d4_14) hr
  · show Q4_68 Z w8 w5 h0 n0 _ T1.heap _
    rw [e1]
    exact ⟨rfl, N1, rfl⟩
-- Rights.containsAll 
def Q5_69 (Z : State) (w8 : Addr) (w6 : Addr) (h0 : Heap) (n0 : Nat) (v : Option Value) (h : Heap) (L : List Loc) : Prop := v = some (.int 1) ∧ Fr n0 L ∧ h = h0
set_option maxRecDepth 65536 in
set_option maxHeartbeats 40000000 in
theorem rm5_69 (l : Launch) (Z : State) (a0 : Array Value) (hw : HW Z a0) (ws : List Jvm.Cond) (w8 : Addr) (w6 : Addr) (h0 : Heap) (n0 : Nat) (Z0 : n0 ≤ h0.size) (F_w6_bits : Fld Z Z.heap w6 zs7 "bits" "I" (.int 1)) (P2 : Old Z n0 h0) (F_w8_bits : Fld Z Z.heap w8 zs7 "bits" "I" (.int 5)) :
    MF l Z (⟨zs7, "containsAll", zs2⟩ : MethodName) (Jvm.Cond.code (⟨zs7, "containsAll", zs2⟩ : MethodName) prog_35_method_4_code 2 (some .boolean)) ws ({ frames := 0, cells := 0, slots := 0, locals := 0 } : Room) #[(.ref w8), (.ref w6)] h0 (Q5_69 Z w8 w6 h0 n0) := by
  refine own_enter (plainFor_of_name pn_0) fun p e s m below meth c s₁ X0 hx hby hml hown hnm hZ e0 hre hlk => ?_
  have N0 := Fr.nil n0
  have pre0 : ∀ t, SF p e below s₁ (mkF m 0 #[rv w8, rv w6] []) t → SF p e below s₁ (entryFrame m #[(.ref w8), (.ref w6)] 2) t := fun t k => castTop (ef_2 m w8 w6) k
  obtain ⟨T1, X1, e1, st1⟩ := getF X0 hx hZ hown (host := "") (Or.inl (tw hw 11 rfl)) Via.refl e0 (F_w6_bits.ext P2.2) (g := (mkF m 1 #[rv w8, rv w6] [(.ref w6)])) rfl rfl (hb hby d5_1)
  obtain ⟨T2, X2, e2, st2⟩ := getF X1 hx hZ hown (host := "") (Or.inl (tw hw 11 rfl)) Via.refl e1 (F_w8_bits.ext P2.2) (g := (mkF m 5 #[rv w8, rv w6] [(.ref w8), (.int 1)])) rfl rfl (hb hby d5_5)
  obtain ⟨fs, hr, hrun, hended, hW, hsame⟩ := X2.leave (v := some (.int 1)) (fun h => by rw [hre] at h; cases h)
  refine ⟨_, _, pre0 _ ?_, hrun, hended, _, _, rfl, ?_, ⟨_, rfl⟩, hW, hsame.mono (by decide) (by decide)⟩
  · show SF p e below s₁ (mkF m 0 #[rv w8, rv w6] []) _
    refine XS.aloadN X0.here hx rfl (hb hby d5_0) rfl rfl ?_
    show SF p e below s₁ (mkF m 1 #[rv w8, rv w6] [(.ref w6)]) _
    refine st1 _ ?_
    show SF p e below T1 (mkF m 4 #[rv w8, rv w6] [(.int 1)]) _
    refine XS.aloadN X1.here hx rfl (hb hby d5_4) rfl rfl ?_
    show SF p e below T1 (mkF m 5 #[rv w8, rv w6] [(.ref w8), (.int 1)]) _
    refine st2 _ ?_
    show SF p e below T2 (mkF m 8 #[rv w8, rv w6] [(.int 5), (.int 1)]) _
    refine XS.iconst X2.here hx rfl (hb hby d5_8) ?_
    show SF p e below T2 (mkF m 9 #[rv w8, rv w6] [(.int (-1)), (.int 5), (.int 1)]) _
    refine XS.ixor X2.here hx rfl (hb hby d5_9) rfl ?_
    show SF p e below T2 (mkF m 10 #[rv w8, rv w6] [(.int ((5 : Int32) ^^^ (-1 : Int32))), (.int 1)]) _
    rw [show ((5 : Int32) ^^^ (-1 : Int32)) = (-6 : Int32) from by decide]
    show SF p e below T2 (mkF m 10 #[rv w8, rv w6] [(.int (-6)), (.int 1)]) _
    refine XS.iand X2.here hx rfl (hb hby d5_10) rfl ?_
    show SF p e below T2 (mkF m 11 #[rv w8, rv w6] [(.int ((1 : Int32) &&& (-6 : Int32)))]) _
    rw [show ((1 : Int32) &&& (-6 : Int32)) = (0 : Int32) from by decide]
    show SF p e below T2 (mkF m 11 #[rv w8, rv w6] [(.int 0)]) _
    refine XS.ifNo X2.here hx rfl (hb hby d5_11) rfl ((if0 _ _).trans (teq (by decide : (0 : Int32) = (0 : Int32))).2) ?_
    show SF p e below T2 (mkF m 14 #[rv w8, rv w6] []) _
    refine XS.iconst X2.here hx rfl (hb hby d5_14) ?_
    refine XS.goto X2.here hx rfl (pc0 := 15) (pc' := 19) rfl (hb hby d5_15) (by decide) (by decide) ?_
    show SF p e below T2 (mkF m 19 #[rv w8, rv w6] [(.int 1)]) _
    exact retN X2 hx (t := .boolean) hre (by simp) (hb hby d5_19) hr
  · show Q5_69 Z w8 w6 h0 n0 _ T2.heap _
    rw [e2]
    exact ⟨rfl, N0, rfl⟩
-- Rights.letter 
def Q4_70 (Z : State) (w8 : Addr) (w6 : Addr) (h0 : Heap) (n0 : Nat) (v : Option Value) (h : Heap) (L : List Loc) : Prop := v = some (.int 120) ∧ Fr n0 L ∧ h = h0
set_option maxRecDepth 65536 in
set_option maxHeartbeats 40000000 in
theorem rm4_70 (l : Launch) (Z : State) (a0 : Array Value) (hw : HW Z a0) (ws : List Jvm.Cond) (w8 : Addr) (w6 : Addr) (h0 : Heap) (n0 : Nat) (Z0 : n0 ≤ h0.size) (E_w8 : Exa Z Z.heap w8 zs7) (P2 : Old Z n0 h0) (F_w6_bits : Fld Z Z.heap w6 zs7 "bits" "I" (.int 1)) (F_w8_bits : Fld Z Z.heap w8 zs7 "bits" "I" (.int 5)) :
    MF l Z (⟨zs7, "letter", zs3⟩ : MethodName) (Jvm.Cond.code (⟨zs7, "letter", zs3⟩ : MethodName) prog_35_method_6_code 3 (some .char)) ws ({ frames := 1, cells := 0, slots := 0, locals := 13 } : Room) #[(.ref w8), (.ref w6), (.int 120)] h0 (Q4_70 Z w8 w6 h0 n0) := by
  refine own_enter (plainFor_of_name pn_0) fun p e s m below meth c s₁ X0 hx hby hml hown hnm hZ e0 hre hlk => ?_
  have N0 := Fr.nil n0
  have pre0 : ∀ t, SF p e below s₁ (mkF m 0 #[rv w8, rv w6, iv 120] []) t → SF p e below s₁ (entryFrame m #[(.ref w8), (.ref w6), (.int 120)] 3) t := fun t k => castTop (ef_3 m w8 w6 (120 : Int32)) k
  obtain ⟨cq1, kq1, q1a, q1b, q1c⟩ := isOf hZ e0 (E_w8.ext P2.2)
  obtain ⟨_, _, ⟨T1, L1, k1x, n1⟩, -, X1, ⟨Lc1, hQ1, l1, y1, z1⟩, st1⟩ := X0.virtualBack hx (y := (⟨zs7, "containsAll", zs2⟩ : MethodName)) (z := (⟨zs7, "containsAll", zs2⟩ : MethodName)) hown (mvT hZ (tw hw 30 rfl)) (mvT hZ (tw hw 31 rfl)) (notFace_of_selects (args := #[]) (mvT hZ (tw hw 33 rfl))) (mvT hZ (tw hw 33 rfl)) (mvT hZ (tw hw 32 rfl)) (by decide) (backOf (W := 0) (rm5_69 l Z a0 hw [] w8 w6 h0 n0 Z0 F_w6_bits P2 F_w8_bits) hZ (tw hw 34 rfl) (tw hw 2 rfl) (by decide) (by decide)) q1a q1c (g := (mkF m 2 #[rv w8, rv w6, iv 120] [(.ref w6), (.ref w8)])) rfl (by rw [hml]; rfl) (Steps.refl _) (argsL := [(.ref w6)]) (rest := []) (lenOf pd_2 rfl) rfl (Nat.le_of_eq rfl) (hb hby d4_2) (fun _ _ => ⟨rfl, e0, (by decide : 0 + 0 ≤ _), (by decide : 0 + 0 ≤ _)⟩)
  dsimp only [Pt.U, Pt.locs, Pt.cells, Pt.slots] at X1 l1 y1 z1 st1 hQ1
  subst l1 y1 z1
  obtain ⟨rfl, N1q, e1⟩ := hQ1
  have N1 := Fr.app N0 N1q
  obtain ⟨fs, hr, hrun, hended, hW, hsame⟩ := X1.leave (v := some (.int 120)) (fun h => by rw [hre] at h; cases h)
  refine ⟨_, _, pre0 _ ?_, hrun, hended, _, _, rfl, ?_, ⟨_, rfl⟩, hW, hsame.mono (by decide) (by decide)⟩
  · show SF p e below s₁ (mkF m 0 #[rv w8, rv w6, iv 120] []) _
    refine XS.aloadN X0.here hx rfl (hb hby d4_0) rfl rfl ?_
    refine XS.aloadN X0.here hx rfl (hb hby d4_1) rfl rfl ?_
    show SF p e below s₁ (mkF m 2 #[rv w8, rv w6, iv 120] [(.ref w6), (.ref w8)]) _
    refine st1.trans ?_
    show SF p e below T1 (mkF m 5 #[rv w8, rv w6, iv 120] [(.int 1)]) _
    refine XS.ifNo X1.here hx rfl (hb hby d4_5) rfl ((if0 _ _).trans (feq (by decide : ¬ ((1 : Int32) = (0 : Int32)))).1) ?_
    show SF p e below T1 (mkF m 8 #[rv w8, rv w6, iv 120] []) _
    refine XS.iloadN X1.here hx rfl (hb hby d4_8) rfl ?_
    refine XS.goto X1.here hx rfl (pc0 := 9) (pc' := 14) rfl (hb hby d4_9) (by decide) (by decide) ?_
    show SF p e below T1 (mkF m 14 #[rv w8, rv w6, iv 120] [(.int 120)]) _
    exact retN X1 hx (t := .char) hre (by simp) (hb hby d4_14) hr
  · show Q4_70 Z w8 w6 h0 n0 _ T1.heap _
    rw [e1]
    exact ⟨rfl, N1, rfl⟩
-- Rights.toString 
def Q3_71 (Z : State) (w8 : Addr) (w4 : Addr) (w5 : Addr) (w6 : Addr) (GC : Int32) (h0 : Heap) (n0 : Nat) (v : Option Value) (h : Heap) (L : List Loc) : Prop := ∃ e1x : Addr, ∃ e2x : Addr, ∃ e3x : ClassId, h0.size ≤ e1x ∧ h0.size ≤ e2x ∧ e1x ≠ e2x ∧ v = some (.ref e1x) ∧ Fr n0 L ∧ Keep h0 h [] ∧ Exa Z h e1x "java/lang/String" ∧ Fld Z h e1x "java/lang/String" "coder" "B" (.int 0) ∧ Fld Z h e1x "java/lang/String" "value" "[B" (.ref e2x) ∧ Arv Z h e2x e3x .byte (3 : Int32) (((([(114 : Int32), (45 : Int32), (120 : Int32)] : List Int32)).map (fun c => c.toInt8.toInt32)).map Value.int) (.int (0 : Int32))
set_option maxRecDepth 65536 in
set_option maxHeartbeats 40000000 in
theorem rm3_71 (l : Launch) (Z : State) (a0 : Array Value) (hw : HW Z a0) (ws : List Jvm.Cond) (w8 : Addr) (w4 : Addr) (w5 : Addr) (w6 : Addr) (GC : Int32) (h0 : Heap) (n0 : Nat) (Z0 : n0 ≤ h0.size) (Sg7 : Sta Z Z.heap zs7 "READ" zs4 (.ref w4)) (P2 : Old Z n0 h0) (E_w8 : Exa Z Z.heap w8 zs7) (F_w4_bits : Fld Z Z.heap w4 zs7 "bits" "I" (.int 4)) (F_w8_bits : Fld Z Z.heap w8 zs7 "bits" "I" (.int 5)) (Sg9 : Sta Z Z.heap zs7 "WRITE" zs4 (.ref w5)) (F_w5_bits : Fld Z Z.heap w5 zs7 "bits" "I" (.int 2)) (Sg11 : Sta Z Z.heap zs7 "EXECUTE" zs4 (.ref w6)) (F_w6_bits : Fld Z Z.heap w6 zs7 "bits" "I" (.int 1)) (Sg0 : Sta Z Z.heap "java/lang/String" "COMPACT_STRINGS" "Z" (.int GC)) (nzGC : ¬ (GC = (0 : Int32))) :
    MF l Z (⟨zs7, "toString", zs0⟩ : MethodName) (Jvm.Cond.code (⟨zs7, "toString", zs0⟩ : MethodName) prog_35_method_5_code 1 (some (.object "java/lang/String"))) ws ({ frames := 4, cells := 3, slots := 10, locals := 66 } : Room) #[(.ref w8)] h0 (Q3_71 Z w8 w4 w5 w6 GC h0 n0) := by
  refine own_enter (plainFor_of_name pn_0) fun p e s m below meth c s₁ X0 hx hby hml hown hnm hZ e0 hre hlk => ?_
  have N0 := Fr.nil n0
  have pre0 : ∀ t, SF p e below s₁ (mkF m 0 #[rv w8] []) t → SF p e below s₁ (entryFrame m #[(.ref w8)] 1) t := fun t k => castTop (ef_4 m w8) k
  obtain ⟨T1, h1, X1, e1, E1, A1, D1, -, st1⟩ := newO X0 hx hZ hown (tw hw 20 rfl) (tw hw 21 rfl) (tw hw 22 rfl) e0 (g := (mkF m 0 #[rv w8] [])) rfl (hb hby d3_0) (by decide) (by decide)
  obtain ⟨e1x, g1⟩ : ∃ z, z = h0.size := ⟨_, rfl⟩
  rw [← g1] at A1 D1 st1
  have K1 : Keep h0 h1 [] := (Keep.refl h0 []).ext E1
  have Fn2 : Fld Z h1 e1x "java/lang/String" "coder" "B" (.int 0) := D1 (Or.inr (tw hw 62 rfl)) (ty := .byte) (by decide)
  have Fn3 : Fld Z h1 e1x "java/lang/String" "value" "[B" .null := D1 (Or.inr (tw hw 64 rfl)) (ty := (.array .byte)) (by decide)
  obtain ⟨T4, h4, w5x, X4, e4, E4, A4, st4⟩ := newP X1 hx hZ (tw hw 23 rfl) e1 (g := (mkF m 5 #[rv w8] [(.int 3), (.ref e1x), (.ref e1x)])) rfl (hb hby d3_5) rfl (by decide) (cap := 3) (by decide) (by decide) (by decide) (by decide)
  obtain ⟨w4x, g4⟩ : ∃ z, z = h1.size := ⟨_, rfl⟩
  rw [← g4] at A4 st4
  have K4 : Keep h0 h4 [] := K1.ext E4
  have V4 : Arv Z h4 w4x w5x .char (3 : Int32) [(.int 0), (.int 0), (.int 0)] (.int (0 : Int32)) := (Arv.new A4 (by decide)).pad (pad_rep [] (.int (0 : Int32)) 3)
  have O1 : Old Z n0 h1 := P2.ext E1
  have O4 : Old Z n0 h4 := O1.ext E4
  obtain ⟨T5, X5, e5, st5⟩ := getS2 X4 hx hZ hown (host := "") (Or.inl (tw hw 24 rfl)) Via.refl e4 (Sg7.ext O4.2) (g := (mkF m 10 #[rv w8] [(.ref w8), (.int 0), (.ref w4x), (.ref w4x), (.ref e1x), (.ref e1x)])) rfl (hb hby d3_10)
  have Z1 : n0 ≤ h1.size := Nat.le_trans Z0 E1.1
  have Z4 : n0 ≤ h4.size := Nat.le_trans Z1 E4.1
  obtain ⟨cq6, q6, q6'⟩ := (E_w8.ext O4.2).cell
  obtain ⟨_, _, ⟨T6, L6, k6x, n6⟩, -, X6, ⟨Lc6, hQ6, l6, y6, z6⟩, st6⟩ := X5.privateBack hx (y := (⟨zs7, "letter", zs3⟩ : MethodName)) hown (mvT hZ (tw hw 26 rfl)) (mvT hZ (tw hw 27 rfl)) (own_selQ hZ (tw hw 9 rfl) (tw hw 28 rfl) (tw hw 27 rfl) (by decide)) (Cond.privateMethod_at (mvP hZ (tw hw 28 rfl) (args := #[]))) (mvT hZ (tw hw 29 rfl)) (by decide) (backOf (W := 5) (rm4_66 l Z a0 hw [] w8 w4 h4 n0 Z4 E_w8 O4 F_w4_bits F_w8_bits) hZ (tw hw 29 rfl) (tw hw 2 rfl) (by decide) (by decide)) (g := (mkF m 15 #[rv w8] [(.int 114), (.ref w4), (.ref w8), (.int 0), (.ref w4x), (.ref w4x), (.ref e1x), (.ref e1x)])) rfl (by rw [hml]; rfl) (Steps.refl _) (a := w8) (by rw [e5]; exact q6) q6' (argsL := [(.ref w4), (.int 114)]) (rest := [(.int 0), (.ref w4x), (.ref w4x), (.ref e1x), (.ref e1x)]) (lenOf pd_3 rfl) rfl (Nat.le_of_eq rfl) (hb hby d3_15) (fun _ _ => ⟨rfl, e5, (by decide : 2 + 0 ≤ _), (by decide : 7 + 0 ≤ _)⟩)
  dsimp only [Pt.U, Pt.locs, Pt.cells, Pt.slots] at X6 l6 y6 z6 st6 hQ6
  subst l6 y6 z6
  obtain ⟨rfl, N6q, e6⟩ := hQ6
  have N6 := Fr.app N0 N6q
  obtain ⟨cl7, Ar7, q7, S7, N7z, H7, G7⟩ := id V4
  have hin7 : ¬ ((0 : Int32) < 0 ∨ cl7.slots.size ≤ ((0 : Int32)).toNatClampNeg) := inb_of S7 ⟨by decide, by decide⟩
  obtain ⟨T8, h8, X8, e8, W8, st8⟩ := stC X6 hx hZ e6 Ar7 (j := (0 : Int32)) hin7 (g := (mkF m 18 #[rv w8] [(.int 114), (.int 0), (.ref w4x), (.ref w4x), (.ref e1x), (.ref e1x)])) rfl rfl (hb hby d3_18)
  have g_b3 : n0 ≤ w4x := Nat.le_trans Z1 (Nat.le_of_eq g4.symm)
  have sz0_b3 : h0.size ≤ w4x := Nat.le_trans K1.1 (Nat.le_of_eq g4.symm)
  have K8 : Keep h0 h8 [] := K4.wr W8 (Or.inr sz0_b3)
  have N8 := Fr.snoc X8 N6 g_b3
  have V8 : Arv Z h8 w4x w5x .char (3 : Int32) [(.int 114), (.int 0), (.int 0)] (.int (0 : Int32)) := Arv.set Ar7 q7 S7 N7z H7 G7 (by decide) W8 0 rfl (Nat.le_of_ble_eq_true rfl)
  have O8 : Old Z n0 h8 := O4.wr W8 g_b3
  obtain ⟨T9, X9, e9, st9⟩ := getS2 X8 hx hZ hown (host := "") (Or.inl (tw hw 35 rfl)) Via.refl e8 (Sg9.ext O8.2) (g := (mkF m 22 #[rv w8] [(.ref w8), (.int 1), (.ref w4x), (.ref w4x), (.ref e1x), (.ref e1x)])) rfl (hb hby d3_22)
  have Z8 : n0 ≤ h8.size := Nat.le_trans Z4 (Keep.of_wr W8).1
  obtain ⟨cq10, q10, q10'⟩ := (E_w8.ext O8.2).cell
  obtain ⟨_, _, ⟨T10, L10, k10x, n10⟩, -, X10, ⟨Lc10, hQ10, l10, y10, z10⟩, st10⟩ := X9.privateBack hx (y := (⟨zs7, "letter", zs3⟩ : MethodName)) hown (mvT hZ (tw hw 26 rfl)) (mvT hZ (tw hw 27 rfl)) (own_selQ hZ (tw hw 9 rfl) (tw hw 28 rfl) (tw hw 27 rfl) (by decide)) (Cond.privateMethod_at (mvP hZ (tw hw 28 rfl) (args := #[]))) (mvT hZ (tw hw 29 rfl)) (by decide) (backOf (W := 5) (rm4_68 l Z a0 hw [] w8 w5 h8 n0 Z8 E_w8 O8 F_w5_bits F_w8_bits) hZ (tw hw 29 rfl) (tw hw 2 rfl) (by decide) (by decide)) (g := (mkF m 27 #[rv w8] [(.int 119), (.ref w5), (.ref w8), (.int 1), (.ref w4x), (.ref w4x), (.ref e1x), (.ref e1x)])) rfl (by rw [hml]; rfl) (Steps.refl _) (a := w8) (by rw [e9]; exact q10) q10' (argsL := [(.ref w5), (.int 119)]) (rest := [(.int 1), (.ref w4x), (.ref w4x), (.ref e1x), (.ref e1x)]) (lenOf pd_3 rfl) rfl (Nat.le_of_eq rfl) (hb hby d3_27) (fun _ _ => ⟨rfl, e9, (by decide : 2 + 0 ≤ _), (by decide : 7 + 0 ≤ _)⟩)
  dsimp only [Pt.U, Pt.locs, Pt.cells, Pt.slots] at X10 l10 y10 z10 st10 hQ10
  subst l10 y10 z10
  obtain ⟨rfl, N10q, e10⟩ := hQ10
  have N10 := Fr.app N8 N10q
  obtain ⟨cl11, Ar11, q11, S11, N11z, H11, G11⟩ := id V8
  have hin11 : ¬ ((1 : Int32) < 0 ∨ cl11.slots.size ≤ ((1 : Int32)).toNatClampNeg) := inb_of S11 ⟨by decide, by decide⟩
  obtain ⟨T12, h12, X12, e12, W12, st12⟩ := stC X10 hx hZ e10 Ar11 (j := (1 : Int32)) hin11 (g := (mkF m 30 #[rv w8] [(.int 45), (.int 1), (.ref w4x), (.ref w4x), (.ref e1x), (.ref e1x)])) rfl rfl (hb hby d3_30)
  have K12 : Keep h0 h12 [] := K8.wr W12 (Or.inr sz0_b3)
  have N12 := Fr.snoc X12 N10 g_b3
  have V12 : Arv Z h12 w4x w5x .char (3 : Int32) [(.int 114), (.int 45), (.int 0)] (.int (0 : Int32)) := Arv.set Ar11 q11 S11 N11z H11 G11 (by decide) W12 1 rfl (Nat.le_of_ble_eq_true rfl)
  have O12 : Old Z n0 h12 := O8.wr W12 g_b3
  obtain ⟨T13, X13, e13, st13⟩ := getS2 X12 hx hZ hown (host := "") (Or.inl (tw hw 37 rfl)) Via.refl e12 (Sg11.ext O12.2) (g := (mkF m 34 #[rv w8] [(.ref w8), (.int 2), (.ref w4x), (.ref w4x), (.ref e1x), (.ref e1x)])) rfl (hb hby d3_34)
  have Z12 : n0 ≤ h12.size := Nat.le_trans Z8 (Keep.of_wr W12).1
  obtain ⟨cq14, q14, q14'⟩ := (E_w8.ext O12.2).cell
  obtain ⟨_, _, ⟨T14, L14, k14x, n14⟩, -, X14, ⟨Lc14, hQ14, l14, y14, z14⟩, st14⟩ := X13.privateBack hx (y := (⟨zs7, "letter", zs3⟩ : MethodName)) hown (mvT hZ (tw hw 26 rfl)) (mvT hZ (tw hw 27 rfl)) (own_selQ hZ (tw hw 9 rfl) (tw hw 28 rfl) (tw hw 27 rfl) (by decide)) (Cond.privateMethod_at (mvP hZ (tw hw 28 rfl) (args := #[]))) (mvT hZ (tw hw 29 rfl)) (by decide) (backOf (W := 5) (rm4_70 l Z a0 hw [] w8 w6 h12 n0 Z12 E_w8 O12 F_w6_bits F_w8_bits) hZ (tw hw 29 rfl) (tw hw 2 rfl) (by decide) (by decide)) (g := (mkF m 39 #[rv w8] [(.int 120), (.ref w6), (.ref w8), (.int 2), (.ref w4x), (.ref w4x), (.ref e1x), (.ref e1x)])) rfl (by rw [hml]; rfl) (Steps.refl _) (a := w8) (by rw [e13]; exact q14) q14' (argsL := [(.ref w6), (.int 120)]) (rest := [(.int 2), (.ref w4x), (.ref w4x), (.ref e1x), (.ref e1x)]) (lenOf pd_3 rfl) rfl (Nat.le_of_eq rfl) (hb hby d3_39) (fun _ _ => ⟨rfl, e13, (by decide : 2 + 0 ≤ _), (by decide : 7 + 0 ≤ _)⟩)
  dsimp only [Pt.U, Pt.locs, Pt.cells, Pt.slots] at X14 l14 y14 z14 st14 hQ14
  subst l14 y14 z14
  obtain ⟨rfl, N14q, e14⟩ := hQ14
  have N14 := Fr.app N12 N14q
  obtain ⟨cl15, Ar15, q15, S15, N15z, H15, G15⟩ := id V12
  have hin15 : ¬ ((2 : Int32) < 0 ∨ cl15.slots.size ≤ ((2 : Int32)).toNatClampNeg) := inb_of S15 ⟨by decide, by decide⟩
  obtain ⟨T16, h16, X16, e16, W16, st16⟩ := stC X14 hx hZ e14 Ar15 (j := (2 : Int32)) hin15 (g := (mkF m 42 #[rv w8] [(.int 120), (.int 2), (.ref w4x), (.ref w4x), (.ref e1x), (.ref e1x)])) rfl rfl (hb hby d3_42)
  have K16 : Keep h0 h16 [] := K12.wr W16 (Or.inr sz0_b3)
  have N16 := Fr.snoc X16 N14 g_b3
  have V16 : Arv Z h16 w4x w5x .char (3 : Int32) [(.int 114), (.int 45), (.int 120)] (.int (0 : Int32)) := Arv.set Ar15 q15 S15 N15z H15 G15 (by decide) W16 2 rfl (Nat.le_of_ble_eq_true rfl)
  have F2_17 : Exa Z h4 e1x "java/lang/String" := A1.ext E4
  have F3_18 : Exa Z h8 e1x "java/lang/String" := F2_17.wr W8
  have F4_19 : Exa Z h12 e1x "java/lang/String" := F3_18.wr W12
  have F5_20 : Exa Z h16 e1x "java/lang/String" := F4_19.wr W16
  have F2_21 : Fld Z h4 e1x "java/lang/String" "value" "[B" .null := Fn3.ext E4
  have F3_22 : Fld Z h8 e1x "java/lang/String" "value" "[B" .null := F2_21.other W8 (Or.inl (Nat.ne_of_lt (Nat.lt_of_lt_of_le A1.lt (Nat.le_of_eq g4.symm))))
  have F4_23 : Fld Z h12 e1x "java/lang/String" "value" "[B" .null := F3_22.other W12 (Or.inl (Nat.ne_of_lt (Nat.lt_of_lt_of_le A1.lt (Nat.le_of_eq g4.symm))))
  have F5_24 : Fld Z h16 e1x "java/lang/String" "value" "[B" .null := F4_23.other W16 (Or.inl (Nat.ne_of_lt (Nat.lt_of_lt_of_le A1.lt (Nat.le_of_eq g4.symm))))
  have F2_25 : Fld Z h4 e1x "java/lang/String" "coder" "B" (.int 0) := Fn2.ext E4
  have F3_26 : Fld Z h8 e1x "java/lang/String" "coder" "B" (.int 0) := F2_25.other W8 (Or.inl (Nat.ne_of_lt (Nat.lt_of_lt_of_le A1.lt (Nat.le_of_eq g4.symm))))
  have F4_27 : Fld Z h12 e1x "java/lang/String" "coder" "B" (.int 0) := F3_26.other W12 (Or.inl (Nat.ne_of_lt (Nat.lt_of_lt_of_le A1.lt (Nat.le_of_eq g4.symm))))
  have F5_28 : Fld Z h16 e1x "java/lang/String" "coder" "B" (.int 0) := F4_27.other W16 (Or.inl (Nat.ne_of_lt (Nat.lt_of_lt_of_le A1.lt (Nat.le_of_eq g4.symm))))
  have hwwords : ∀ d ∈ StrChars.Road.words, d.before a0 Z = true := fun d hd => hw d (own_words d hd)
  have hp29 : ∀ c ∈ ([(114 : Int32), (45 : Int32), (120 : Int32)] : List Int32), ¬ c < 0 ∧ ¬ (255 : Int32) < c := by
    intro c hc
    simp only [List.mem_cons, List.not_mem_nil, or_false] at hc
    rcases hc with rfl | rfl | rfl
    · decide
    · decide
    · decide
  have O16 : Old Z n0 h16 := O12.wr W16 g_b3
  have g_b1 : n0 ≤ e1x := Nat.le_trans Z0 (Nat.le_of_eq g1.symm)
  have Z16 : n0 ≤ h16.size := Nat.le_trans Z12 (Keep.of_wr W16).1
  obtain ⟨_, _, ⟨T30, L30, k30x, n30⟩, -, X30, ⟨Lc30, hQ30, l30, y30, z30⟩, st30⟩ := X16.specialBack hx (y := (⟨"java/lang/String", "<init>", "([C)V"⟩ : MethodName)) rfl hown (mvT hZ (tw hw 39 rfl)) (mvT hZ (tw hw 40 rfl)) (mvT hZ (tw hw 41 rfl)) (by decide) (StrChars.Road.backV (W := 1) hZ hwwords (kI := 4) (tw hw 21 rfl) (cs := ([(114 : Int32), (45 : Int32), (120 : Int32)] : List Int32)) (bs := ((([(114 : Int32), (45 : Int32), (120 : Int32)] : List Int32)).map (fun c => c.toInt8.toInt32))) (n := 3) g_b1 Z16 F5_20 F5_24 F5_28 V16 (Sg0.ext O16.2) nzGC rfl rfl (by decide) (by decide) hp29 rfl (by decide) (by decide)) (g := (mkF m 43 #[rv w8] [(.ref w4x), (.ref e1x), (.ref e1x)])) rfl (by rw [hml]; rfl) (Steps.refl _) (a := e1x) (argsL := [(.ref w4x)]) (rest := [(.ref e1x)]) (lenOf pd_4 rfl) rfl (Nat.le_of_eq rfl) (hb hby d3_43) (fun _ _ => ⟨rfl, e16, (by decide : 2 + 1 ≤ _), (by decide : 7 + 3 ≤ _)⟩)
  dsimp only [Pt.U, Pt.locs, Pt.cells, Pt.slots] at X30 l30 y30 z30 st30 hQ30
  subst l30 y30 z30
  obtain ⟨rfl, N30q, K30c, Fx30, Fc30, e2x, e3x, gt30, bz_b4, ne30, Fv30, Va30⟩ := hQ30
  have sz0_b1 : h0.size ≤ e1x := Nat.le_trans (Keep.refl h0 []).1 (Nat.le_of_eq g1.symm)
  have K30 : Keep h0 T30.heap [] := K16.trans K30c (allS (Or.inr sz0_b1) all0)
  have N30 := Fr.app N16 N30q
  have sz0_b4 : h0.size ≤ e2x := Nat.le_trans K16.1 bz_b4
  have lt_b1_2 : e1x < h4.size := Nat.lt_of_lt_of_le A1.lt E4.1
  have lt_b1_3 : e1x < h8.size := Nat.lt_of_lt_of_le lt_b1_2 (Keep.of_wr W8).1
  have lt_b1_4 : e1x < h12.size := Nat.lt_of_lt_of_le lt_b1_3 (Keep.of_wr W12).1
  have lt_b1_5 : e1x < h16.size := Nat.lt_of_lt_of_le lt_b1_4 (Keep.of_wr W16).1
  obtain ⟨fs, hr, hrun, hended, hW, hsame⟩ := X30.leave (v := some (.ref e1x)) (fun h => by rw [hre] at h; cases h)
  refine ⟨_, _, pre0 _ ?_, hrun, hended, _, _, rfl, ?_, ⟨_, rfl⟩, hW, hsame.mono (by decide) (by decide)⟩
  · show SF p e below s₁ (mkF m 0 #[rv w8] []) _
    refine st1 _ ?_
    show SF p e below T1 (mkF m 3 #[rv w8] [(.ref e1x)]) _
    refine XS.dup X1.here hx rfl (hb hby d3_3) rfl rfl ?_
    refine XS.iconst X1.here hx rfl (hb hby d3_4) ?_
    show SF p e below T1 (mkF m 5 #[rv w8] [(.int 3), (.ref e1x), (.ref e1x)]) _
    refine st4 _ ?_
    show SF p e below T4 (mkF m 7 #[rv w8] [(.ref w4x), (.ref e1x), (.ref e1x)]) _
    refine XS.dup X4.here hx rfl (hb hby d3_7) rfl rfl ?_
    refine XS.iconst X4.here hx rfl (hb hby d3_8) ?_
    show SF p e below T4 (mkF m 9 #[rv w8] [(.int 0), (.ref w4x), (.ref w4x), (.ref e1x), (.ref e1x)]) _
    refine XS.aloadN X4.here hx rfl (hb hby d3_9) rfl rfl ?_
    show SF p e below T4 (mkF m 10 #[rv w8] [(.ref w8), (.int 0), (.ref w4x), (.ref w4x), (.ref e1x), (.ref e1x)]) _
    refine st5 _ ?_
    show SF p e below T5 (mkF m 13 #[rv w8] [(.ref w4), (.ref w8), (.int 0), (.ref w4x), (.ref w4x), (.ref e1x), (.ref e1x)]) _
    refine XS.bipush X5.here hx rfl (hb hby d3_13) ?_
    show SF p e below T5 (mkF m 15 #[rv w8] [(.int 114), (.ref w4), (.ref w8), (.int 0), (.ref w4x), (.ref w4x), (.ref e1x), (.ref e1x)]) _
    refine st6.trans ?_
    show SF p e below T6 (mkF m 18 #[rv w8] [(.int 114), (.int 0), (.ref w4x), (.ref w4x), (.ref e1x), (.ref e1x)]) _
    refine st8 _ ?_
    show SF p e below T8 (mkF m 19 #[rv w8] [(.ref w4x), (.ref e1x), (.ref e1x)]) _
    refine XS.dup X8.here hx rfl (hb hby d3_19) rfl rfl ?_
    refine XS.iconst X8.here hx rfl (hb hby d3_20) ?_
    show SF p e below T8 (mkF m 21 #[rv w8] [(.int 1), (.ref w4x), (.ref w4x), (.ref e1x), (.ref e1x)]) _
    refine XS.aloadN X8.here hx rfl (hb hby d3_21) rfl rfl ?_
    show SF p e below T8 (mkF m 22 #[rv w8] [(.ref w8), (.int 1), (.ref w4x), (.ref w4x), (.ref e1x), (.ref e1x)]) _
    refine st9 _ ?_
    show SF p e below T9 (mkF m 25 #[rv w8] [(.ref w5), (.ref w8), (.int 1), (.ref w4x), (.ref w4x), (.ref e1x), (.ref e1x)]) _
    refine XS.bipush X9.here hx rfl (hb hby d3_25) ?_
    show SF p e below T9 (mkF m 27 #[rv w8] [(.int 119), (.ref w5), (.ref w8), (.int 1), (.ref w4x), (.ref w4x), (.ref e1x), (.ref e1x)]) _
    refine st10.trans ?_
    show SF p e below T10 (mkF m 30 #[rv w8] [(.int 45), (.int 1), (.ref w4x), (.ref w4x), (.ref e1x), (.ref e1x)]) _
    refine st12 _ ?_
    show SF p e below T12 (mkF m 31 #[rv w8] [(.ref w4x), (.ref e1x), (.ref e1x)]) _
    refine XS.dup X12.here hx rfl (hb hby d3_31) rfl rfl ?_
    refine XS.iconst X12.here hx rfl (hb hby d3_32) ?_
    show SF p e below T12 (mkF m 33 #[rv w8] [(.int 2), (.ref w4x), (.ref w4x), (.ref e1x), (.ref e1x)]) _
    refine XS.aloadN X12.here hx rfl (hb hby d3_33) rfl rfl ?_
    show SF p e below T12 (mkF m 34 #[rv w8] [(.ref w8), (.int 2), (.ref w4x), (.ref w4x), (.ref e1x), (.ref e1x)]) _
    refine st13 _ ?_
    show SF p e below T13 (mkF m 37 #[rv w8] [(.ref w6), (.ref w8), (.int 2), (.ref w4x), (.ref w4x), (.ref e1x), (.ref e1x)]) _
    refine XS.bipush X13.here hx rfl (hb hby d3_37) ?_
    show SF p e below T13 (mkF m 39 #[rv w8] [(.int 120), (.ref w6), (.ref w8), (.int 2), (.ref w4x), (.ref w4x), (.ref e1x), (.ref e1x)]) _
    refine st14.trans ?_
    show SF p e below T14 (mkF m 42 #[rv w8] [(.int 120), (.int 2), (.ref w4x), (.ref w4x), (.ref e1x), (.ref e1x)]) _
    refine st16 _ ?_
    show SF p e below T16 (mkF m 43 #[rv w8] [(.ref w4x), (.ref e1x), (.ref e1x)]) _
    refine st30.trans ?_
    show SF p e below T30 (mkF m 46 #[rv w8] [(.ref e1x)]) _
    exact own_retR X30 hx hre rfl rfl (hb hby d3_46) hr
  · show Q3_71 Z w8 w4 w5 w6 GC h0 n0 _ T30.heap _
    exact ⟨e1x, e2x, e3x, sz0_b1, sz0_b4, (Nat.ne_of_lt (Nat.lt_of_lt_of_le lt_b1_5 bz_b4)), rfl, N30, K30, Fx30, Fc30, Fv30, Va30⟩
-- RightsOfPinLaw.expect 
def Q19_72 (Z : State)  (h0 : Heap) (n0 : Nat) (v : Option Value) (h : Heap) (L : List Loc) : Prop := v = some (.int 114) ∧ Fr n0 L ∧ h = h0
set_option maxRecDepth 65536 in
set_option maxHeartbeats 40000000 in
theorem rm19_72 (l : Launch) (Z : State) (a0 : Array Value) (hw : HW Z a0) (ws : List Jvm.Cond)  (h0 : Heap) (n0 : Nat) (Z0 : n0 ≤ h0.size) :
    MF l Z (⟨zs8, "expect", "(IIC)C"⟩ : MethodName) (Jvm.Cond.code (⟨zs8, "expect", "(IIC)C"⟩ : MethodName) method_2_code 3 (some .char)) ws ({ frames := 0, cells := 0, slots := 0, locals := 0 } : Room) #[(.int 5), (.int 4), (.int 114)] h0 (Q19_72 Z  h0 n0) := by
  refine own_enter (plainFor_of_name pn_1) fun p e s m below meth c s₁ X0 hx hby hml hown hnm hZ e0 hre hlk => ?_
  have N0 := Fr.nil n0
  have pre0 : ∀ t, SF p e below s₁ (mkF m 0 #[iv 5, iv 4, iv 114] []) t → SF p e below s₁ (entryFrame m #[(.int 5), (.int 4), (.int 114)] 3) t := fun t k => castTop (ef_5 m (5 : Int32) (4 : Int32) (114 : Int32)) k
  obtain ⟨fs, hr, hrun, hended, hW, hsame⟩ := X0.leave (v := some (.int 114)) (fun h => by rw [hre] at h; cases h)
  refine ⟨_, _, pre0 _ ?_, hrun, hended, _, _, rfl, ?_, ⟨_, rfl⟩, hW, hsame.mono (by decide) (by decide)⟩
  · show SF p e below s₁ (mkF m 0 #[iv 5, iv 4, iv 114] []) _
    refine XS.iloadN X0.here hx rfl (hb hby d19_0) rfl ?_
    refine XS.iloadN X0.here hx rfl (hb hby d19_1) rfl ?_
    show SF p e below s₁ (mkF m 2 #[iv 5, iv 4, iv 114] [(.int 4), (.int 5)]) _
    refine XS.iand X0.here hx rfl (hb hby d19_2) rfl ?_
    show SF p e below s₁ (mkF m 3 #[iv 5, iv 4, iv 114] [(.int ((5 : Int32) &&& (4 : Int32)))]) _
    rw [show ((5 : Int32) &&& (4 : Int32)) = (4 : Int32) from by decide]
    show SF p e below s₁ (mkF m 3 #[iv 5, iv 4, iv 114] [(.int 4)]) _
    refine XS.ifNo X0.here hx rfl (hb hby d19_3) rfl ((if0 _ _).trans (feq (by decide : ¬ ((4 : Int32) = (0 : Int32)))).1) ?_
    show SF p e below s₁ (mkF m 6 #[iv 5, iv 4, iv 114] []) _
    refine XS.iloadN X0.here hx rfl (hb hby d19_6) rfl ?_
    refine XS.goto X0.here hx rfl (pc0 := 7) (pc' := 12) rfl (hb hby d19_7) (by decide) (by decide) ?_
    show SF p e below s₁ (mkF m 12 #[iv 5, iv 4, iv 114] [(.int 114)]) _
    exact retN X0 hx (t := .char) hre (by simp) (hb hby d19_12) hr
  · show Q19_72 Z  h0 n0 _ s₁.heap _
    rw [e0]
    exact ⟨rfl, N0, rfl⟩
-- RightsOfPinLaw.expect 
def Q19_73 (Z : State)  (h0 : Heap) (n0 : Nat) (v : Option Value) (h : Heap) (L : List Loc) : Prop := v = some (.int 45) ∧ Fr n0 L ∧ h = h0
set_option maxRecDepth 65536 in
set_option maxHeartbeats 40000000 in
theorem rm19_73 (l : Launch) (Z : State) (a0 : Array Value) (hw : HW Z a0) (ws : List Jvm.Cond)  (h0 : Heap) (n0 : Nat) (Z0 : n0 ≤ h0.size) :
    MF l Z (⟨zs8, "expect", "(IIC)C"⟩ : MethodName) (Jvm.Cond.code (⟨zs8, "expect", "(IIC)C"⟩ : MethodName) method_2_code 3 (some .char)) ws ({ frames := 0, cells := 0, slots := 0, locals := 0 } : Room) #[(.int 5), (.int 2), (.int 119)] h0 (Q19_73 Z  h0 n0) := by
  refine own_enter (plainFor_of_name pn_1) fun p e s m below meth c s₁ X0 hx hby hml hown hnm hZ e0 hre hlk => ?_
  have N0 := Fr.nil n0
  have pre0 : ∀ t, SF p e below s₁ (mkF m 0 #[iv 5, iv 2, iv 119] []) t → SF p e below s₁ (entryFrame m #[(.int 5), (.int 2), (.int 119)] 3) t := fun t k => castTop (ef_5 m (5 : Int32) (2 : Int32) (119 : Int32)) k
  obtain ⟨fs, hr, hrun, hended, hW, hsame⟩ := X0.leave (v := some (.int 45)) (fun h => by rw [hre] at h; cases h)
  refine ⟨_, _, pre0 _ ?_, hrun, hended, _, _, rfl, ?_, ⟨_, rfl⟩, hW, hsame.mono (by decide) (by decide)⟩
  · show SF p e below s₁ (mkF m 0 #[iv 5, iv 2, iv 119] []) _
    refine XS.iloadN X0.here hx rfl (hb hby d19_0) rfl ?_
    refine XS.iloadN X0.here hx rfl (hb hby d19_1) rfl ?_
    show SF p e below s₁ (mkF m 2 #[iv 5, iv 2, iv 119] [(.int 2), (.int 5)]) _
    refine XS.iand X0.here hx rfl (hb hby d19_2) rfl ?_
    show SF p e below s₁ (mkF m 3 #[iv 5, iv 2, iv 119] [(.int ((5 : Int32) &&& (2 : Int32)))]) _
    rw [show ((5 : Int32) &&& (2 : Int32)) = (0 : Int32) from by decide]
    show SF p e below s₁ (mkF m 3 #[iv 5, iv 2, iv 119] [(.int 0)]) _
    refine XS.ifYes X0.here hx rfl (pc0 := 3) (pc' := 10) rfl (hb hby d19_3) rfl ((if0 _ _).trans (teq (by decide : (0 : Int32) = (0 : Int32))).1) (by decide) (by decide) ?_
    show SF p e below s₁ (mkF m 10 #[iv 5, iv 2, iv 119] []) _
    refine XS.bipush X0.here hx rfl (hb hby d19_10) ?_
    show SF p e below s₁ (mkF m 12 #[iv 5, iv 2, iv 119] [(.int 45)]) _
    exact retN X0 hx (t := .char) hre (by simp) (hb hby d19_12) hr
  · show Q19_73 Z  h0 n0 _ s₁.heap _
    rw [e0]
    exact ⟨rfl, N0, rfl⟩
-- RightsOfPinLaw.expect 
def Q19_74 (Z : State)  (h0 : Heap) (n0 : Nat) (v : Option Value) (h : Heap) (L : List Loc) : Prop := v = some (.int 120) ∧ Fr n0 L ∧ h = h0
set_option maxRecDepth 65536 in
set_option maxHeartbeats 40000000 in
theorem rm19_74 (l : Launch) (Z : State) (a0 : Array Value) (hw : HW Z a0) (ws : List Jvm.Cond)  (h0 : Heap) (n0 : Nat) (Z0 : n0 ≤ h0.size) :
    MF l Z (⟨zs8, "expect", "(IIC)C"⟩ : MethodName) (Jvm.Cond.code (⟨zs8, "expect", "(IIC)C"⟩ : MethodName) method_2_code 3 (some .char)) ws ({ frames := 0, cells := 0, slots := 0, locals := 0 } : Room) #[(.int 5), (.int 1), (.int 120)] h0 (Q19_74 Z  h0 n0) := by
  refine own_enter (plainFor_of_name pn_1) fun p e s m below meth c s₁ X0 hx hby hml hown hnm hZ e0 hre hlk => ?_
  have N0 := Fr.nil n0
  have pre0 : ∀ t, SF p e below s₁ (mkF m 0 #[iv 5, iv 1, iv 120] []) t → SF p e below s₁ (entryFrame m #[(.int 5), (.int 1), (.int 120)] 3) t := fun t k => castTop (ef_5 m (5 : Int32) (1 : Int32) (120 : Int32)) k
  obtain ⟨fs, hr, hrun, hended, hW, hsame⟩ := X0.leave (v := some (.int 120)) (fun h => by rw [hre] at h; cases h)
  refine ⟨_, _, pre0 _ ?_, hrun, hended, _, _, rfl, ?_, ⟨_, rfl⟩, hW, hsame.mono (by decide) (by decide)⟩
  · show SF p e below s₁ (mkF m 0 #[iv 5, iv 1, iv 120] []) _
    refine XS.iloadN X0.here hx rfl (hb hby d19_0) rfl ?_
    refine XS.iloadN X0.here hx rfl (hb hby d19_1) rfl ?_
    show SF p e below s₁ (mkF m 2 #[iv 5, iv 1, iv 120] [(.int 1), (.int 5)]) _
    refine XS.iand X0.here hx rfl (hb hby d19_2) rfl ?_
    show SF p e below s₁ (mkF m 3 #[iv 5, iv 1, iv 120] [(.int ((5 : Int32) &&& (1 : Int32)))]) _
    rw [show ((5 : Int32) &&& (1 : Int32)) = (1 : Int32) from by decide]
    show SF p e below s₁ (mkF m 3 #[iv 5, iv 1, iv 120] [(.int 1)]) _
    refine XS.ifNo X0.here hx rfl (hb hby d19_3) rfl ((if0 _ _).trans (feq (by decide : ¬ ((1 : Int32) = (0 : Int32)))).1) ?_
    show SF p e below s₁ (mkF m 6 #[iv 5, iv 1, iv 120] []) _
    refine XS.iloadN X0.here hx rfl (hb hby d19_6) rfl ?_
    refine XS.goto X0.here hx rfl (pc0 := 7) (pc' := 12) rfl (hb hby d19_7) (by decide) (by decide) ?_
    show SF p e below s₁ (mkF m 12 #[iv 5, iv 1, iv 120] [(.int 120)]) _
    exact retN X0 hx (t := .char) hre (by simp) (hb hby d19_12) hr
  · show Q19_74 Z  h0 n0 _ s₁.heap _
    rw [e0]
    exact ⟨rfl, N0, rfl⟩
set_option maxRecDepth 65536 in
set_option maxHeartbeats 400000000 in
theorem pc_17 {p : Program} {l : Launch} {e : Env} {s : State} {m : MethodId} {below : List Frame} {meth : Method} {c : Code} {T0 : State} {locs : List Loc} {Z : State} {a0 : Array Value} {h0 : Heap} {n0 : Nat} {p0s : Int32} {p1s : Int32} {GC : Int32} {GF : Value} {w4 : Addr} {w5 : Addr} {w6 : Addr} {w8 : Addr} {dv3 : Int32} {dv5 : Addr} (X0 : Stand p l e room_1 s m #[(.int p0s), (.int p1s)] below meth c T0 locs 0 0) (hx : p.tables.exec = Jvm.exec) (hZ : Z.Warmed39 s.vm) (hw : HW Z a0) (hby : c.code = code) (hml : c.maxLocals = 7) (hown : s.vm.findClass zs8 = some m.cls) (hre : meth.sig.returnType = some .boolean) (hlk : meth.locks = false) (e0 : T0.heap = h0) (N0 : Fr n0 locs) (Z0 : n0 ≤ h0.size) (O0 : Old Z n0 h0) (Sg0 : Sta Z Z.heap "java/lang/String" "COMPACT_STRINGS" "Z" (.int GC)) (Sg1 : Sta Z Z.heap zs9 "SIOOBE_FORMATTER" zs5 GF) (rGF : GF.isRef = true) (nzGC : ¬ (GC = (0 : Int32))) (Sg7 : Sta Z Z.heap zs7 "READ" zs4 (.ref w4)) (Sg9 : Sta Z Z.heap zs7 "WRITE" zs4 (.ref w5)) (Sg11 : Sta Z Z.heap zs7 "EXECUTE" zs4 (.ref w6)) (E_w8 : Exa Z Z.heap w8 zs7) (F_w4_bits : Fld Z Z.heap w4 zs7 "bits" "I" (.int 4)) (F_w5_bits : Fld Z Z.heap w5 zs7 "bits" "I" (.int 2)) (F_w6_bits : Fld Z Z.heap w6 zs7 "bits" "I" (.int 1)) (F_w8_bits : Fld Z Z.heap w8 zs7 "bits" "I" (.int 5)) :
    Fine p e below s n0 (T0.setTop (mkF m 72 #[iv p0s, iv p1s, iv 5, iv dv3, rv w8, rv dv5, .unset] [])) := by
  obtain ⟨cq1, kq1, q1a, q1b, q1c⟩ := isOf hZ e0 (E_w8.ext O0.2)
  obtain ⟨_, _, ⟨T1, L1, k1x, n1⟩, -, X1, ⟨Lc1, hQ1, l1, y1, z1⟩, st1⟩ := X0.virtualBack hx (y := (⟨zs7, "toString", zs0⟩ : MethodName)) (z := (⟨zs7, "toString", zs0⟩ : MethodName)) hown (mvT hZ (tw hw 15 rfl)) (mvT hZ (tw hw 16 rfl)) (notFace_of_selects (args := #[]) (mvT hZ (tw hw 18 rfl))) (mvT hZ (tw hw 18 rfl)) (mvT hZ (tw hw 17 rfl)) (by decide) (backOf (W := 0) (rm3_71 l Z a0 hw [] w8 w4 w5 w6 GC h0 n0 Z0 Sg7 O0 E_w8 F_w4_bits F_w8_bits Sg9 F_w5_bits Sg11 F_w6_bits Sg0 nzGC) hZ (tw hw 19 rfl) (tw hw 2 rfl) (by decide) (by decide)) q1a q1c (g := (mkF m 133 #[iv p0s, iv p1s, iv 5, iv dv3, rv w8, rv dv5, .unset] [(.ref w8)])) rfl (by rw [hml]; rfl) (Steps.refl _) (argsL := []) (rest := []) (lenOf pd_5 rfl) rfl (Nat.le_of_eq rfl) (hb hby at_133) (fun _ _ => ⟨rfl, e0, (by decide : 0 + 3 ≤ _), (by decide : 0 + 10 ≤ _)⟩)
  dsimp only [Pt.U, Pt.locs, Pt.cells, Pt.slots] at X1 l1 y1 z1 st1 hQ1
  subst l1 y1 z1
  obtain ⟨b6, b7, k8, bz_b6, bz_b7, bn1_0, rfl, N1q, K1c, Fq1_0, Fq1_1, Fq1_2, Fq1_3⟩ := hQ1
  have N1 := Fr.app N0 N1q
  have hwwordsLen : ∀ d ∈ StrChars.Road.wordsLen, d.before a0 Z = true := fun d hd => hw d (own_wordsLen d hd)
  have hp2 : ∀ c ∈ ([(114 : Int32), (45 : Int32), (120 : Int32)] : List Int32), ¬ c < 0 ∧ ¬ (255 : Int32) < c := by
    intro c hc
    simp only [List.mem_cons, List.not_mem_nil, or_false] at hc
    rcases hc with rfl | rfl | rfl
    · decide
    · decide
    · decide
  have hcd3 : StrChars.Road.CodA ([(114 : Int32), (45 : Int32), (120 : Int32)] : List Int32) 0 (3 : Int32) (((([(114 : Int32), (45 : Int32), (120 : Int32)] : List Int32)).map (fun c => c.toInt8.toInt32)).map Value.int) := StrChars.Road.codOf (n := 3) rfl (fun c hc => (hp2 c hc).2)
  have hbd3 : ∀ c ∈ ([(114 : Int32), (45 : Int32), (120 : Int32)] : List Int32), ¬ c < 0 ∧ ¬ (65535 : Int32) < c := own_up _ hp2
  have O1 : Old Z n0 T1.heap := O0.keep K1c all0
  obtain ⟨cq4, kq4, q4a, q4b, q4c⟩ := isOf hZ rfl Fq1_0
  obtain ⟨_, _, ⟨T4, L4, k4x, n4⟩, -, X4, ⟨Lc4, hQ4, l4, y4, z4⟩, st4⟩ := X1.virtualBack hx (y := (⟨"java/lang/String", "length", "()I"⟩ : MethodName)) (z := (⟨"java/lang/String", "length", "()I"⟩ : MethodName)) hown (mvT hZ (tw hw 65 rfl)) (mvT hZ (tw hw 66 rfl)) (notFace_of_selects (args := #[]) (mvT hZ (tw hw 68 rfl))) (mvT hZ (tw hw 68 rfl)) (mvT hZ (tw hw 67 rfl)) (by decide) (StrChars.Road.lenW (W := 0) hZ hwwordsLen (kI := 4) (tw hw 21 rfl) Fq1_0 Fq1_2 Fq1_1 Fq1_3 hcd3 hbd3 (Sg0.ext O1.2) nzGC (Nat.le_of_ble_eq_true rfl) (by decide) (by decide)) q4a q4c (g := (mkF m 140 #[iv p0s, iv p1s, iv 5, iv dv3, rv w8, rv dv5, rv b6] [(.ref b6)])) rfl (by rw [hml]; rfl) (Steps.refl _) (argsL := []) (rest := []) (lenOf pd_1 rfl) rfl (Nat.le_of_eq rfl) (hb hby at_140) (fun _ _ => ⟨rfl, rfl, (by decide : 3 + 0 ≤ _), (by decide : 10 + 0 ≤ _)⟩)
  dsimp only [Pt.U, Pt.locs, Pt.cells, Pt.slots] at X4 l4 y4 z4 st4 hQ4
  subst l4 y4 z4
  obtain ⟨rfl, rfl, e4⟩ := hQ4
  have N4 := Fr.app N1 (Fr.nil n0)
  have hwwordsChN : ∀ d ∈ StrChars.Road.wordsChN, d.before a0 Z = true := fun d hd => hw d (own_wordsChN d hd)
  have hp5 : ∀ c ∈ ([(114 : Int32), (45 : Int32), (120 : Int32)] : List Int32), ¬ c < 0 ∧ ¬ (255 : Int32) < c := by
    intro c hc
    simp only [List.mem_cons, List.not_mem_nil, or_false] at hc
    rcases hc with rfl | rfl | rfl
    · decide
    · decide
    · decide
  have hcd6 : StrChars.Road.CodA ([(114 : Int32), (45 : Int32), (120 : Int32)] : List Int32) 0 (3 : Int32) (((([(114 : Int32), (45 : Int32), (120 : Int32)] : List Int32)).map (fun c => c.toInt8.toInt32)).map Value.int) := StrChars.Road.codOf (n := 3) rfl (fun c hc => (hp5 c hc).2)
  have hbd6 : ∀ c ∈ ([(114 : Int32), (45 : Int32), (120 : Int32)] : List Int32), ¬ c < 0 ∧ ¬ (65535 : Int32) < c := own_up _ hp5
  obtain ⟨cq7, kq7, q7a, q7b, q7c⟩ := isOf hZ e4 Fq1_0
  obtain ⟨_, _, ⟨T7, L7, k7x, n7⟩, -, X7, ⟨Lc7, hQ7, l7, y7, z7⟩, st7⟩ := X4.virtualBack hx (y := (⟨"java/lang/String", "charAt", "(I)C"⟩ : MethodName)) (z := (⟨"java/lang/String", "charAt", "(I)C"⟩ : MethodName)) hown (mvT hZ (tw hw 75 rfl)) (mvT hZ (tw hw 76 rfl)) (notFace_of_selects (args := #[]) (mvT hZ (tw hw 78 rfl))) (mvT hZ (tw hw 78 rfl)) (mvT hZ (tw hw 77 rfl)) (by decide) (StrChars.Road.chN (W := 0) hZ hwwordsChN (kI := 4) (tw hw 21 rfl) Fq1_0 Fq1_2 Fq1_1 Fq1_3 hcd6 hbd6 (Sg0.ext O1.2) nzGC (Sg1.ext O1.2) rGF (Nat.le_of_ble_eq_true rfl) (i := 0) (Nat.le_of_ble_eq_true rfl) (j := (0 : Int32)) rfl (by decide) (by decide)) q7a q7c (g := (mkF m 150 #[iv p0s, iv p1s, iv 5, iv dv3, rv w8, rv dv5, rv b6] [(.int 0), (.ref b6)])) rfl (by rw [hml]; rfl) (Steps.refl _) (argsL := [(.int 0)]) (rest := []) (lenOf pd_6 rfl) rfl (Nat.le_of_eq rfl) (hb hby at_150) (fun _ _ => ⟨rfl, e4, (by decide : 3 + 0 ≤ _), (by decide : 10 + 0 ≤ _)⟩)
  dsimp only [Pt.U, Pt.locs, Pt.cells, Pt.slots] at X7 l7 y7 z7 st7 hQ7
  subst l7 y7 z7
  obtain ⟨rfl, rfl, e7⟩ := hQ7
  have N7 := Fr.app N4 (Fr.nil n0)
  have Z1 : n0 ≤ T1.heap.size := Nat.le_trans Z0 K1c.1
  obtain ⟨_, _, ⟨T8, L8, k8x, n8⟩, -, X8, ⟨Lc8, hQ8, l8, y8, z8⟩, st8⟩ := Jvm.LawKit.callS X7 hx (y := (⟨zs8, "expect", "(IIC)C"⟩ : MethodName)) hown (mvT hZ (tw hw 97 rfl)) (mvT hZ (tw hw 98 rfl)) (mvT hZ (tw hw 99 rfl)) (mvT hZ (tw hw 100 rfl)) (by decide) (backOf (W := 1) (rm19_72 l Z a0 hw []  T1.heap n0 Z1 ) hZ (tw hw 100 rfl) (tw hw 99 rfl) (by decide) (by decide)) (g := (mkF m 157 #[iv p0s, iv p1s, iv 5, iv dv3, rv w8, rv dv5, rv b6] [(.int 114), (.int 4), (.int 5), (.int 114)])) rfl (by rw [hml]; rfl) (argsL := [(.int 5), (.int 4), (.int 114)]) (rest := [(.int 114)]) (lenOf pd_7 rfl) rfl (Nat.le_of_eq rfl) (hb hby at_157) (fun _ _ => ⟨rfl, e7, (by decide : 3 + 0 ≤ _), (by decide : 10 + 0 ≤ _)⟩)
  dsimp only [Pt.U, Pt.locs, Pt.cells, Pt.slots] at X8 l8 y8 z8 st8 hQ8
  subst l8 y8 z8
  obtain ⟨rfl, N8q, e8⟩ := hQ8
  have N8 := Fr.app N7 N8q
  have hp9 : ∀ c ∈ ([(114 : Int32), (45 : Int32), (120 : Int32)] : List Int32), ¬ c < 0 ∧ ¬ (255 : Int32) < c := by
    intro c hc
    simp only [List.mem_cons, List.not_mem_nil, or_false] at hc
    rcases hc with rfl | rfl | rfl
    · decide
    · decide
    · decide
  have hcd10 : StrChars.Road.CodA ([(114 : Int32), (45 : Int32), (120 : Int32)] : List Int32) 0 (3 : Int32) (((([(114 : Int32), (45 : Int32), (120 : Int32)] : List Int32)).map (fun c => c.toInt8.toInt32)).map Value.int) := StrChars.Road.codOf (n := 3) rfl (fun c hc => (hp9 c hc).2)
  have hbd10 : ∀ c ∈ ([(114 : Int32), (45 : Int32), (120 : Int32)] : List Int32), ¬ c < 0 ∧ ¬ (65535 : Int32) < c := own_up _ hp9
  obtain ⟨cq11, kq11, q11a, q11b, q11c⟩ := isOf hZ e8 Fq1_0
  obtain ⟨_, _, ⟨T11, L11, k11x, n11⟩, -, X11, ⟨Lc11, hQ11, l11, y11, z11⟩, st11⟩ := X8.virtualBack hx (y := (⟨"java/lang/String", "charAt", "(I)C"⟩ : MethodName)) (z := (⟨"java/lang/String", "charAt", "(I)C"⟩ : MethodName)) hown (mvT hZ (tw hw 75 rfl)) (mvT hZ (tw hw 76 rfl)) (notFace_of_selects (args := #[]) (mvT hZ (tw hw 78 rfl))) (mvT hZ (tw hw 78 rfl)) (mvT hZ (tw hw 77 rfl)) (by decide) (StrChars.Road.chN (W := 0) hZ hwwordsChN (kI := 4) (tw hw 21 rfl) Fq1_0 Fq1_2 Fq1_1 Fq1_3 hcd10 hbd10 (Sg0.ext O1.2) nzGC (Sg1.ext O1.2) rGF (Nat.le_of_ble_eq_true rfl) (i := 1) (Nat.le_of_ble_eq_true rfl) (j := (1 : Int32)) rfl (by decide) (by decide)) q11a q11c (g := (mkF m 166 #[iv p0s, iv p1s, iv 5, iv dv3, rv w8, rv dv5, rv b6] [(.int 1), (.ref b6)])) rfl (by rw [hml]; rfl) (Steps.refl _) (argsL := [(.int 1)]) (rest := []) (lenOf pd_6 rfl) rfl (Nat.le_of_eq rfl) (hb hby at_166) (fun _ _ => ⟨rfl, e8, (by decide : 3 + 0 ≤ _), (by decide : 10 + 0 ≤ _)⟩)
  dsimp only [Pt.U, Pt.locs, Pt.cells, Pt.slots] at X11 l11 y11 z11 st11 hQ11
  subst l11 y11 z11
  obtain ⟨rfl, rfl, e11⟩ := hQ11
  have N11 := Fr.app N8 (Fr.nil n0)
  obtain ⟨_, _, ⟨T12, L12, k12x, n12⟩, -, X12, ⟨Lc12, hQ12, l12, y12, z12⟩, st12⟩ := Jvm.LawKit.callS X11 hx (y := (⟨zs8, "expect", "(IIC)C"⟩ : MethodName)) hown (mvT hZ (tw hw 97 rfl)) (mvT hZ (tw hw 98 rfl)) (mvT hZ (tw hw 99 rfl)) (mvT hZ (tw hw 100 rfl)) (by decide) (backOf (W := 1) (rm19_73 l Z a0 hw []  T1.heap n0 Z1 ) hZ (tw hw 100 rfl) (tw hw 99 rfl) (by decide) (by decide)) (g := (mkF m 173 #[iv p0s, iv p1s, iv 5, iv dv3, rv w8, rv dv5, rv b6] [(.int 119), (.int 2), (.int 5), (.int 45)])) rfl (by rw [hml]; rfl) (argsL := [(.int 5), (.int 2), (.int 119)]) (rest := [(.int 45)]) (lenOf pd_7 rfl) rfl (Nat.le_of_eq rfl) (hb hby at_173) (fun _ _ => ⟨rfl, e11, (by decide : 3 + 0 ≤ _), (by decide : 10 + 0 ≤ _)⟩)
  dsimp only [Pt.U, Pt.locs, Pt.cells, Pt.slots] at X12 l12 y12 z12 st12 hQ12
  subst l12 y12 z12
  obtain ⟨rfl, N12q, e12⟩ := hQ12
  have N12 := Fr.app N11 N12q
  have hp13 : ∀ c ∈ ([(114 : Int32), (45 : Int32), (120 : Int32)] : List Int32), ¬ c < 0 ∧ ¬ (255 : Int32) < c := by
    intro c hc
    simp only [List.mem_cons, List.not_mem_nil, or_false] at hc
    rcases hc with rfl | rfl | rfl
    · decide
    · decide
    · decide
  have hcd14 : StrChars.Road.CodA ([(114 : Int32), (45 : Int32), (120 : Int32)] : List Int32) 0 (3 : Int32) (((([(114 : Int32), (45 : Int32), (120 : Int32)] : List Int32)).map (fun c => c.toInt8.toInt32)).map Value.int) := StrChars.Road.codOf (n := 3) rfl (fun c hc => (hp13 c hc).2)
  have hbd14 : ∀ c ∈ ([(114 : Int32), (45 : Int32), (120 : Int32)] : List Int32), ¬ c < 0 ∧ ¬ (65535 : Int32) < c := own_up _ hp13
  obtain ⟨cq15, kq15, q15a, q15b, q15c⟩ := isOf hZ e12 Fq1_0
  obtain ⟨_, _, ⟨T15, L15, k15x, n15⟩, -, X15, ⟨Lc15, hQ15, l15, y15, z15⟩, st15⟩ := X12.virtualBack hx (y := (⟨"java/lang/String", "charAt", "(I)C"⟩ : MethodName)) (z := (⟨"java/lang/String", "charAt", "(I)C"⟩ : MethodName)) hown (mvT hZ (tw hw 75 rfl)) (mvT hZ (tw hw 76 rfl)) (notFace_of_selects (args := #[]) (mvT hZ (tw hw 78 rfl))) (mvT hZ (tw hw 78 rfl)) (mvT hZ (tw hw 77 rfl)) (by decide) (StrChars.Road.chN (W := 0) hZ hwwordsChN (kI := 4) (tw hw 21 rfl) Fq1_0 Fq1_2 Fq1_1 Fq1_3 hcd14 hbd14 (Sg0.ext O1.2) nzGC (Sg1.ext O1.2) rGF (Nat.le_of_ble_eq_true rfl) (i := 2) (Nat.le_of_ble_eq_true rfl) (j := (2 : Int32)) rfl (by decide) (by decide)) q15a q15c (g := (mkF m 182 #[iv p0s, iv p1s, iv 5, iv dv3, rv w8, rv dv5, rv b6] [(.int 2), (.ref b6)])) rfl (by rw [hml]; rfl) (Steps.refl _) (argsL := [(.int 2)]) (rest := []) (lenOf pd_6 rfl) rfl (Nat.le_of_eq rfl) (hb hby at_182) (fun _ _ => ⟨rfl, e12, (by decide : 3 + 0 ≤ _), (by decide : 10 + 0 ≤ _)⟩)
  dsimp only [Pt.U, Pt.locs, Pt.cells, Pt.slots] at X15 l15 y15 z15 st15 hQ15
  subst l15 y15 z15
  obtain ⟨rfl, rfl, e15⟩ := hQ15
  have N15 := Fr.app N12 (Fr.nil n0)
  obtain ⟨_, _, ⟨T16, L16, k16x, n16⟩, -, X16, ⟨Lc16, hQ16, l16, y16, z16⟩, st16⟩ := Jvm.LawKit.callS X15 hx (y := (⟨zs8, "expect", "(IIC)C"⟩ : MethodName)) hown (mvT hZ (tw hw 97 rfl)) (mvT hZ (tw hw 98 rfl)) (mvT hZ (tw hw 99 rfl)) (mvT hZ (tw hw 100 rfl)) (by decide) (backOf (W := 1) (rm19_74 l Z a0 hw []  T1.heap n0 Z1 ) hZ (tw hw 100 rfl) (tw hw 99 rfl) (by decide) (by decide)) (g := (mkF m 189 #[iv p0s, iv p1s, iv 5, iv dv3, rv w8, rv dv5, rv b6] [(.int 120), (.int 1), (.int 5), (.int 120)])) rfl (by rw [hml]; rfl) (argsL := [(.int 5), (.int 1), (.int 120)]) (rest := [(.int 120)]) (lenOf pd_7 rfl) rfl (Nat.le_of_eq rfl) (hb hby at_189) (fun _ _ => ⟨rfl, e15, (by decide : 3 + 0 ≤ _), (by decide : 10 + 0 ≤ _)⟩)
  dsimp only [Pt.U, Pt.locs, Pt.cells, Pt.slots] at X16 l16 y16 z16 st16 hQ16
  subst l16 y16 z16
  obtain ⟨rfl, N16q, e16⟩ := hQ16
  have N16 := Fr.app N15 N16q
  obtain ⟨fs, hr, hrun, hended, hW, hsame⟩ := X16.leave (v := some (.int (1 : Int32))) (fun h => by rw [hre] at h; cases h)
  refine ⟨_, _, ?_, hrun, hended, _, _, rfl, ?_, ⟨_, rfl⟩, hW, hsame.mono (by decide) (by decide)⟩
  · show SF p e below T0 (mkF m 72 #[iv p0s, iv p1s, iv 5, iv dv3, rv w8, rv dv5, .unset] []) _
    refine XS.iloadN X0.here hx rfl (hb hby at_72) rfl ?_
    show SF p e below T0 (mkF m 73 #[iv p0s, iv p1s, iv 5, iv dv3, rv w8, rv dv5, .unset] [(.int 5)]) _
    refine XS.ifYes X0.here hx rfl (pc0 := 73) (pc' := 86) rfl (hb hby at_73) rfl ((if0 _ _).trans (feq (by decide : ¬ ((5 : Int32) = (0 : Int32)))).2) (by decide) (by decide) ?_
    show SF p e below T0 (mkF m 86 #[iv p0s, iv p1s, iv 5, iv dv3, rv w8, rv dv5, .unset] []) _
    refine XS.iloadN X0.here hx rfl (hb hby at_86) rfl ?_
    refine XS.iconst X0.here hx rfl (hb hby at_87) ?_
    show SF p e below T0 (mkF m 88 #[iv p0s, iv p1s, iv 5, iv dv3, rv w8, rv dv5, .unset] [(.int 4), (.int 5)]) _
    refine XS.icmpYes X0.here hx rfl (pc0 := 88) (pc' := 101) rfl (hb hby at_88) rfl (feq (by decide : ¬ ((5 : Int32) = (4 : Int32)))).2 (by decide) (by decide) ?_
    show SF p e below T0 (mkF m 101 #[iv p0s, iv p1s, iv 5, iv dv3, rv w8, rv dv5, .unset] []) _
    refine XS.iloadN X0.here hx rfl (hb hby at_101) rfl ?_
    refine XS.iconst X0.here hx rfl (hb hby at_102) ?_
    show SF p e below T0 (mkF m 103 #[iv p0s, iv p1s, iv 5, iv dv3, rv w8, rv dv5, .unset] [(.int 2), (.int 5)]) _
    refine XS.icmpYes X0.here hx rfl (pc0 := 103) (pc' := 116) rfl (hb hby at_103) rfl (feq (by decide : ¬ ((5 : Int32) = (2 : Int32)))).2 (by decide) (by decide) ?_
    show SF p e below T0 (mkF m 116 #[iv p0s, iv p1s, iv 5, iv dv3, rv w8, rv dv5, .unset] []) _
    refine XS.iloadN X0.here hx rfl (hb hby at_116) rfl ?_
    refine XS.iconst X0.here hx rfl (hb hby at_117) ?_
    show SF p e below T0 (mkF m 118 #[iv p0s, iv p1s, iv 5, iv dv3, rv w8, rv dv5, .unset] [(.int 1), (.int 5)]) _
    refine XS.icmpYes X0.here hx rfl (pc0 := 118) (pc' := 131) rfl (hb hby at_118) rfl (feq (by decide : ¬ ((5 : Int32) = (1 : Int32)))).2 (by decide) (by decide) ?_
    show SF p e below T0 (mkF m 131 #[iv p0s, iv p1s, iv 5, iv dv3, rv w8, rv dv5, .unset] []) _
    refine XS.aload X0.here hx rfl (hb hby at_131) rfl rfl ?_
    show SF p e below T0 (mkF m 133 #[iv p0s, iv p1s, iv 5, iv dv3, rv w8, rv dv5, .unset] [(.ref w8)]) _
    refine st1.trans ?_
    show SF p e below T1 (mkF m 136 #[iv p0s, iv p1s, iv 5, iv dv3, rv w8, rv dv5, .unset] [(.ref b6)]) _
    refine XS.astore X1.here hx rfl (hb hby at_136) rfl rfl (l' := #[iv p0s, iv p1s, iv 5, iv dv3, rv w8, rv dv5, rv b6]) rfl ?_
    refine XS.aload X1.here hx rfl (hb hby at_138) rfl rfl ?_
    show SF p e below T1 (mkF m 140 #[iv p0s, iv p1s, iv 5, iv dv3, rv w8, rv dv5, rv b6] [(.ref b6)]) _
    refine st4.trans ?_
    show SF p e below T4 (mkF m 143 #[iv p0s, iv p1s, iv 5, iv dv3, rv w8, rv dv5, rv b6] [(.int 3)]) _
    refine XS.iconst X4.here hx rfl (hb hby at_143) ?_
    show SF p e below T4 (mkF m 144 #[iv p0s, iv p1s, iv 5, iv dv3, rv w8, rv dv5, rv b6] [(.int 3), (.int 3)]) _
    refine XS.icmpNo X4.here hx rfl (hb hby at_144) rfl (teq (by decide : (3 : Int32) = (3 : Int32))).2 ?_
    show SF p e below T4 (mkF m 147 #[iv p0s, iv p1s, iv 5, iv dv3, rv w8, rv dv5, rv b6] []) _
    refine XS.aload X4.here hx rfl (hb hby at_147) rfl rfl ?_
    refine XS.iconst X4.here hx rfl (hb hby at_149) ?_
    show SF p e below T4 (mkF m 150 #[iv p0s, iv p1s, iv 5, iv dv3, rv w8, rv dv5, rv b6] [(.int 0), (.ref b6)]) _
    refine st7.trans ?_
    show SF p e below T7 (mkF m 153 #[iv p0s, iv p1s, iv 5, iv dv3, rv w8, rv dv5, rv b6] [(.int 114)]) _
    refine XS.iloadN X7.here hx rfl (hb hby at_153) rfl ?_
    refine XS.iconst X7.here hx rfl (hb hby at_154) ?_
    show SF p e below T7 (mkF m 155 #[iv p0s, iv p1s, iv 5, iv dv3, rv w8, rv dv5, rv b6] [(.int 4), (.int 5), (.int 114)]) _
    refine XS.bipush X7.here hx rfl (hb hby at_155) ?_
    show SF p e below T7 (mkF m 157 #[iv p0s, iv p1s, iv 5, iv dv3, rv w8, rv dv5, rv b6] [(.int 114), (.int 4), (.int 5), (.int 114)]) _
    refine st8 _ ?_
    show SF p e below T8 (mkF m 160 #[iv p0s, iv p1s, iv 5, iv dv3, rv w8, rv dv5, rv b6] [(.int 114), (.int 114)]) _
    refine XS.icmpNo X8.here hx rfl (hb hby at_160) rfl (teq (by decide : (114 : Int32) = (114 : Int32))).2 ?_
    show SF p e below T8 (mkF m 163 #[iv p0s, iv p1s, iv 5, iv dv3, rv w8, rv dv5, rv b6] []) _
    refine XS.aload X8.here hx rfl (hb hby at_163) rfl rfl ?_
    refine XS.iconst X8.here hx rfl (hb hby at_165) ?_
    show SF p e below T8 (mkF m 166 #[iv p0s, iv p1s, iv 5, iv dv3, rv w8, rv dv5, rv b6] [(.int 1), (.ref b6)]) _
    refine st11.trans ?_
    show SF p e below T11 (mkF m 169 #[iv p0s, iv p1s, iv 5, iv dv3, rv w8, rv dv5, rv b6] [(.int 45)]) _
    refine XS.iloadN X11.here hx rfl (hb hby at_169) rfl ?_
    refine XS.iconst X11.here hx rfl (hb hby at_170) ?_
    show SF p e below T11 (mkF m 171 #[iv p0s, iv p1s, iv 5, iv dv3, rv w8, rv dv5, rv b6] [(.int 2), (.int 5), (.int 45)]) _
    refine XS.bipush X11.here hx rfl (hb hby at_171) ?_
    show SF p e below T11 (mkF m 173 #[iv p0s, iv p1s, iv 5, iv dv3, rv w8, rv dv5, rv b6] [(.int 119), (.int 2), (.int 5), (.int 45)]) _
    refine st12 _ ?_
    show SF p e below T12 (mkF m 176 #[iv p0s, iv p1s, iv 5, iv dv3, rv w8, rv dv5, rv b6] [(.int 45), (.int 45)]) _
    refine XS.icmpNo X12.here hx rfl (hb hby at_176) rfl (teq (by decide : (45 : Int32) = (45 : Int32))).2 ?_
    show SF p e below T12 (mkF m 179 #[iv p0s, iv p1s, iv 5, iv dv3, rv w8, rv dv5, rv b6] []) _
    refine XS.aload X12.here hx rfl (hb hby at_179) rfl rfl ?_
    refine XS.iconst X12.here hx rfl (hb hby at_181) ?_
    show SF p e below T12 (mkF m 182 #[iv p0s, iv p1s, iv 5, iv dv3, rv w8, rv dv5, rv b6] [(.int 2), (.ref b6)]) _
    refine st15.trans ?_
    show SF p e below T15 (mkF m 185 #[iv p0s, iv p1s, iv 5, iv dv3, rv w8, rv dv5, rv b6] [(.int 120)]) _
    refine XS.iloadN X15.here hx rfl (hb hby at_185) rfl ?_
    refine XS.iconst X15.here hx rfl (hb hby at_186) ?_
    show SF p e below T15 (mkF m 187 #[iv p0s, iv p1s, iv 5, iv dv3, rv w8, rv dv5, rv b6] [(.int 1), (.int 5), (.int 120)]) _
    refine XS.bipush X15.here hx rfl (hb hby at_187) ?_
    show SF p e below T15 (mkF m 189 #[iv p0s, iv p1s, iv 5, iv dv3, rv w8, rv dv5, rv b6] [(.int 120), (.int 1), (.int 5), (.int 120)]) _
    refine st16 _ ?_
    show SF p e below T16 (mkF m 192 #[iv p0s, iv p1s, iv 5, iv dv3, rv w8, rv dv5, rv b6] [(.int 120), (.int 120)]) _
    refine XS.icmpNo X16.here hx rfl (hb hby at_192) rfl (teq (by decide : (120 : Int32) = (120 : Int32))).2 ?_
    show SF p e below T16 (mkF m 195 #[iv p0s, iv p1s, iv 5, iv dv3, rv w8, rv dv5, rv b6] []) _
    refine XS.iconst X16.here hx rfl (hb hby at_195) ?_
    refine XS.goto X16.here hx rfl (pc0 := 196) (pc' := 200) rfl (hb hby at_196) (by decide) (by decide) ?_
    show SF p e below T16 (mkF m 200 #[iv p0s, iv p1s, iv 5, iv dv3, rv w8, rv dv5, rv b6] [(.int 1)]) _
    exact retN X16 hx (t := .boolean) hre (by simp) (hb hby at_200) hr
  · exact ⟨rfl, N16⟩
set_option maxRecDepth 65536 in
set_option maxHeartbeats 400000000 in
theorem pc_16 {p : Program} {l : Launch} {e : Env} {s : State} {m : MethodId} {below : List Frame} {meth : Method} {c : Code} {T0 : State} {locs : List Loc} {Z : State} {a0 : Array Value} {h0 : Heap} {n0 : Nat} {p0s : Int32} {p1s : Int32} {GC : Int32} {GF : Value} {w4 : Addr} {w5 : Addr} {w6 : Addr} {w8 : Addr} {dv3 : Int32} {dv5 : Addr} (X0 : Stand p l e room_1 s m #[(.int p0s), (.int p1s)] below meth c T0 locs 0 0) (hx : p.tables.exec = Jvm.exec) (hZ : Z.Warmed39 s.vm) (hw : HW Z a0) (hby : c.code = code) (hml : c.maxLocals = 7) (hown : s.vm.findClass zs8 = some m.cls) (hre : meth.sig.returnType = some .boolean) (hlk : meth.locks = false) (e0 : T0.heap = h0) (N0 : Fr n0 locs) (Z0 : n0 ≤ h0.size) (O0 : Old Z n0 h0) (Sg0 : Sta Z Z.heap "java/lang/String" "COMPACT_STRINGS" "Z" (.int GC)) (Sg1 : Sta Z Z.heap zs9 "SIOOBE_FORMATTER" zs5 GF) (rGF : GF.isRef = true) (nzGC : ¬ (GC = (0 : Int32))) (Sg7 : Sta Z Z.heap zs7 "READ" zs4 (.ref w4)) (Sg9 : Sta Z Z.heap zs7 "WRITE" zs4 (.ref w5)) (Sg11 : Sta Z Z.heap zs7 "EXECUTE" zs4 (.ref w6)) (E_w8 : Exa Z Z.heap w8 zs7) (F_w4_bits : Fld Z Z.heap w4 zs7 "bits" "I" (.int 4)) (F_w5_bits : Fld Z Z.heap w5 zs7 "bits" "I" (.int 2)) (F_w6_bits : Fld Z Z.heap w6 zs7 "bits" "I" (.int 1)) (F_w8_bits : Fld Z Z.heap w8 zs7 "bits" "I" (.int 5)) (P1 : ¬ ((5 : Int32) = dv3)) (P2 : w8 ≠ dv5) :
    Fine p e below s n0 (T0.setTop (mkF m 22 #[iv p0s, iv p1s, iv 5, iv dv3, rv w8, rv dv5, .unset] [])) := by
  obtain ⟨cq1, kq1, q1a, q1b, q1c⟩ := isOf hZ e0 (E_w8.ext O0.2)
  obtain ⟨_, _, ⟨T1, L1, k1x, n1⟩, -, X1, ⟨Lc1, hQ1, l1, y1, z1⟩, st1⟩ := X0.virtualBack hx (y := (⟨zs7, "bits", "()I"⟩ : MethodName)) (z := (⟨zs7, "bits", "()I"⟩ : MethodName)) hown (mvT hZ (tw hw 6 rfl)) (mvT hZ (tw hw 7 rfl)) (notFace_of_selects (args := #[]) (mvT hZ (tw hw 9 rfl))) (mvT hZ (tw hw 9 rfl)) (mvT hZ (tw hw 8 rfl)) (by decide) (backOf (W := 0) (rm2_64 l Z a0 hw [] w8 h0 n0 Z0 F_w8_bits O0) hZ (tw hw 10 rfl) (tw hw 2 rfl) (by decide) (by decide)) q1a q1c (g := (mkF m 36 #[iv p0s, iv p1s, iv 5, iv dv3, rv w8, rv dv5, .unset] [(.ref w8)])) rfl (by rw [hml]; rfl) (Steps.refl _) (argsL := []) (rest := []) (lenOf pd_1 rfl) rfl (Nat.le_of_eq rfl) (hb hby at_36) (fun _ _ => ⟨rfl, e0, (by decide : 0 + 0 ≤ _), (by decide : 0 + 0 ≤ _)⟩)
  dsimp only [Pt.U, Pt.locs, Pt.cells, Pt.slots] at X1 l1 y1 z1 st1 hQ1
  subst l1 y1 z1
  obtain ⟨rfl, N1q, e1⟩ := hQ1
  have N1 := Fr.app N0 N1q
  refine Fine.pre (fun t k => ?_) (pc_17 (dv3 := dv3) (dv5 := dv5) X1 hx hZ hw hby hml hown hre hlk e1 N1 Z0 O0 Sg0 Sg1 rGF nzGC Sg7 Sg9 Sg11 E_w8 F_w4_bits F_w5_bits F_w6_bits F_w8_bits )
  show SF p e below T0 (mkF m 22 #[iv p0s, iv p1s, iv 5, iv dv3, rv w8, rv dv5, .unset] []) _
  refine XS.aload X0.here hx rfl (hb hby at_22) rfl rfl ?_
  show SF p e below T0 (mkF m 24 #[iv p0s, iv p1s, iv 5, iv dv3, rv w8, rv dv5, .unset] [(.ref w8)]) _
  refine XS.ifnullNo X0.here hx rfl (hb hby at_24) rfl ?_
  show SF p e below T0 (mkF m 27 #[iv p0s, iv p1s, iv 5, iv dv3, rv w8, rv dv5, .unset] []) _
  refine XS.aload X0.here hx rfl (hb hby at_27) rfl rfl ?_
  show SF p e below T0 (mkF m 29 #[iv p0s, iv p1s, iv 5, iv dv3, rv w8, rv dv5, .unset] [(.ref dv5)]) _
  refine XS.ifnonnullYes X0.here hx rfl (pc0 := 29) (pc' := 34) rfl (hb hby at_29) rfl (by decide) (by decide) ?_
  show SF p e below T0 (mkF m 34 #[iv p0s, iv p1s, iv 5, iv dv3, rv w8, rv dv5, .unset] []) _
  refine XS.aload X0.here hx rfl (hb hby at_34) rfl rfl ?_
  show SF p e below T0 (mkF m 36 #[iv p0s, iv p1s, iv 5, iv dv3, rv w8, rv dv5, .unset] [(.ref w8)]) _
  refine st1.trans ?_
  show SF p e below T1 (mkF m 39 #[iv p0s, iv p1s, iv 5, iv dv3, rv w8, rv dv5, .unset] [(.int 5)]) _
  refine XS.iloadN X1.here hx rfl (hb hby at_39) rfl ?_
  show SF p e below T1 (mkF m 40 #[iv p0s, iv p1s, iv 5, iv dv3, rv w8, rv dv5, .unset] [(.int 5), (.int 5)]) _
  refine XS.icmpYes X1.here hx rfl (pc0 := 40) (pc' := 45) rfl (hb hby at_40) rfl (teq (by decide : (5 : Int32) = (5 : Int32))).1 (by decide) (by decide) ?_
  show SF p e below T1 (mkF m 45 #[iv p0s, iv p1s, iv 5, iv dv3, rv w8, rv dv5, .unset] []) _
  refine XS.aload X1.here hx rfl (hb hby at_45) rfl rfl ?_
  refine XS.aload X1.here hx rfl (hb hby at_47) rfl rfl ?_
  show SF p e below T1 (mkF m 49 #[iv p0s, iv p1s, iv 5, iv dv3, rv w8, rv dv5, .unset] [(.ref dv5), (.ref w8)]) _
  refine Jvm.RoadKit.acmp (g := (mkF m 49 #[iv p0s, iv p1s, iv 5, iv dv3, rv w8, rv dv5, .unset] [(.ref dv5), (.ref w8)])) X1 hx rfl rfl rfl (pc0 := 49) (pc' := 56) (same := false) rfl (hb hby at_49) rfl (decide_eq_false fun q => P2 (Value.ref.inj q)) (by decide) (by decide) ?_
  show SF p e below T1 (mkF m 56 #[iv p0s, iv p1s, iv 5, iv dv3, rv w8, rv dv5, .unset] []) _
  refine XS.iconst X1.here hx rfl (hb hby at_56) ?_
  refine XS.iloadN X1.here hx rfl (hb hby at_57) rfl ?_
  show SF p e below T1 (mkF m 58 #[iv p0s, iv p1s, iv 5, iv dv3, rv w8, rv dv5, .unset] [(.int 5), (.int 0)]) _
  refine XS.iloadN X1.here hx rfl (hb hby at_58) rfl ?_
  show SF p e below T1 (mkF m 59 #[iv p0s, iv p1s, iv 5, iv dv3, rv w8, rv dv5, .unset] [(.int dv3), (.int 5), (.int 0)]) _
  refine XS.icmpYes X1.here hx rfl (pc0 := 59) (pc' := 66) rfl (hb hby at_59) rfl (feq P1).2 (by decide) (by decide) ?_
  show SF p e below T1 (mkF m 66 #[iv p0s, iv p1s, iv 5, iv dv3, rv w8, rv dv5, .unset] [(.int 0)]) _
  refine XS.iconst X1.here hx rfl (hb hby at_66) ?_
  show SF p e below T1 (mkF m 67 #[iv p0s, iv p1s, iv 5, iv dv3, rv w8, rv dv5, .unset] [(.int 0), (.int 0)]) _
  refine XS.icmpYes X1.here hx rfl (pc0 := 67) (pc' := 72) rfl (hb hby at_67) rfl (teq (by decide : (0 : Int32) = (0 : Int32))).1 (by decide) (by decide) ?_
  exact k
set_option maxRecDepth 65536 in
set_option maxHeartbeats 400000000 in
theorem pc_18 {p : Program} {l : Launch} {e : Env} {s : State} {m : MethodId} {below : List Frame} {meth : Method} {c : Code} {T0 : State} {locs : List Loc} {Z : State} {a0 : Array Value} {h0 : Heap} {n0 : Nat} {p0s : Int32} {p1s : Int32} {GC : Int32} {GF : Value} {w4 : Addr} {w5 : Addr} {w6 : Addr} {w8 : Addr}  (X0 : Stand p l e room_1 s m #[(.int p0s), (.int p1s)] below meth c T0 locs 0 0) (hx : p.tables.exec = Jvm.exec) (hZ : Z.Warmed39 s.vm) (hw : HW Z a0) (hby : c.code = code) (hml : c.maxLocals = 7) (hown : s.vm.findClass zs8 = some m.cls) (hre : meth.sig.returnType = some .boolean) (hlk : meth.locks = false) (e0 : T0.heap = h0) (N0 : Fr n0 locs) (Z0 : n0 ≤ h0.size) (O0 : Old Z n0 h0) (Sg0 : Sta Z Z.heap "java/lang/String" "COMPACT_STRINGS" "Z" (.int GC)) (Sg1 : Sta Z Z.heap zs9 "SIOOBE_FORMATTER" zs5 GF) (rGF : GF.isRef = true) (nzGC : ¬ (GC = (0 : Int32))) (Sg7 : Sta Z Z.heap zs7 "READ" zs4 (.ref w4)) (Sg9 : Sta Z Z.heap zs7 "WRITE" zs4 (.ref w5)) (Sg11 : Sta Z Z.heap zs7 "EXECUTE" zs4 (.ref w6)) (E_w8 : Exa Z Z.heap w8 zs7) (F_w4_bits : Fld Z Z.heap w4 zs7 "bits" "I" (.int 4)) (F_w5_bits : Fld Z Z.heap w5 zs7 "bits" "I" (.int 2)) (F_w6_bits : Fld Z Z.heap w6 zs7 "bits" "I" (.int 1)) (F_w8_bits : Fld Z Z.heap w8 zs7 "bits" "I" (.int 5)) :
    Fine p e below s n0 (T0.setTop (mkF m 22 #[iv p0s, iv p1s, iv 5, iv 5, rv w8, rv w8, .unset] [])) := by
  obtain ⟨cq1, kq1, q1a, q1b, q1c⟩ := isOf hZ e0 (E_w8.ext O0.2)
  obtain ⟨_, _, ⟨T1, L1, k1x, n1⟩, -, X1, ⟨Lc1, hQ1, l1, y1, z1⟩, st1⟩ := X0.virtualBack hx (y := (⟨zs7, "bits", "()I"⟩ : MethodName)) (z := (⟨zs7, "bits", "()I"⟩ : MethodName)) hown (mvT hZ (tw hw 6 rfl)) (mvT hZ (tw hw 7 rfl)) (notFace_of_selects (args := #[]) (mvT hZ (tw hw 9 rfl))) (mvT hZ (tw hw 9 rfl)) (mvT hZ (tw hw 8 rfl)) (by decide) (backOf (W := 0) (rm2_64 l Z a0 hw [] w8 h0 n0 Z0 F_w8_bits O0) hZ (tw hw 10 rfl) (tw hw 2 rfl) (by decide) (by decide)) q1a q1c (g := (mkF m 36 #[iv p0s, iv p1s, iv 5, iv 5, rv w8, rv w8, .unset] [(.ref w8)])) rfl (by rw [hml]; rfl) (Steps.refl _) (argsL := []) (rest := []) (lenOf pd_1 rfl) rfl (Nat.le_of_eq rfl) (hb hby at_36) (fun _ _ => ⟨rfl, e0, (by decide : 0 + 0 ≤ _), (by decide : 0 + 0 ≤ _)⟩)
  dsimp only [Pt.U, Pt.locs, Pt.cells, Pt.slots] at X1 l1 y1 z1 st1 hQ1
  subst l1 y1 z1
  obtain ⟨rfl, N1q, e1⟩ := hQ1
  have N1 := Fr.app N0 N1q
  refine Fine.pre (fun t k => ?_) (pc_17 (dv3 := (5 : Int32)) (dv5 := w8) X1 hx hZ hw hby hml hown hre hlk e1 N1 Z0 O0 Sg0 Sg1 rGF nzGC Sg7 Sg9 Sg11 E_w8 F_w4_bits F_w5_bits F_w6_bits F_w8_bits )
  show SF p e below T0 (mkF m 22 #[iv p0s, iv p1s, iv 5, iv 5, rv w8, rv w8, .unset] []) _
  refine XS.aload X0.here hx rfl (hb hby at_22) rfl rfl ?_
  show SF p e below T0 (mkF m 24 #[iv p0s, iv p1s, iv 5, iv 5, rv w8, rv w8, .unset] [(.ref w8)]) _
  refine XS.ifnullNo X0.here hx rfl (hb hby at_24) rfl ?_
  show SF p e below T0 (mkF m 27 #[iv p0s, iv p1s, iv 5, iv 5, rv w8, rv w8, .unset] []) _
  refine XS.aload X0.here hx rfl (hb hby at_27) rfl rfl ?_
  show SF p e below T0 (mkF m 29 #[iv p0s, iv p1s, iv 5, iv 5, rv w8, rv w8, .unset] [(.ref w8)]) _
  refine XS.ifnonnullYes X0.here hx rfl (pc0 := 29) (pc' := 34) rfl (hb hby at_29) rfl (by decide) (by decide) ?_
  show SF p e below T0 (mkF m 34 #[iv p0s, iv p1s, iv 5, iv 5, rv w8, rv w8, .unset] []) _
  refine XS.aload X0.here hx rfl (hb hby at_34) rfl rfl ?_
  show SF p e below T0 (mkF m 36 #[iv p0s, iv p1s, iv 5, iv 5, rv w8, rv w8, .unset] [(.ref w8)]) _
  refine st1.trans ?_
  show SF p e below T1 (mkF m 39 #[iv p0s, iv p1s, iv 5, iv 5, rv w8, rv w8, .unset] [(.int 5)]) _
  refine XS.iloadN X1.here hx rfl (hb hby at_39) rfl ?_
  show SF p e below T1 (mkF m 40 #[iv p0s, iv p1s, iv 5, iv 5, rv w8, rv w8, .unset] [(.int 5), (.int 5)]) _
  refine XS.icmpYes X1.here hx rfl (pc0 := 40) (pc' := 45) rfl (hb hby at_40) rfl (teq (by decide : (5 : Int32) = (5 : Int32))).1 (by decide) (by decide) ?_
  show SF p e below T1 (mkF m 45 #[iv p0s, iv p1s, iv 5, iv 5, rv w8, rv w8, .unset] []) _
  refine XS.aload X1.here hx rfl (hb hby at_45) rfl rfl ?_
  refine XS.aload X1.here hx rfl (hb hby at_47) rfl rfl ?_
  show SF p e below T1 (mkF m 49 #[iv p0s, iv p1s, iv 5, iv 5, rv w8, rv w8, .unset] [(.ref w8), (.ref w8)]) _
  refine Jvm.RoadKit.acmp (g := (mkF m 49 #[iv p0s, iv p1s, iv 5, iv 5, rv w8, rv w8, .unset] [(.ref w8), (.ref w8)])) X1 hx rfl rfl rfl (pc0 := 49) (pc' := 52) (same := true) rfl (hb hby at_49) rfl (decide_eq_true rfl) (by decide) (by decide) ?_
  show SF p e below T1 (mkF m 52 #[iv p0s, iv p1s, iv 5, iv 5, rv w8, rv w8, .unset] []) _
  refine XS.iconst X1.here hx rfl (hb hby at_52) ?_
  refine XS.goto X1.here hx rfl (pc0 := 53) (pc' := 57) rfl (hb hby at_53) (by decide) (by decide) ?_
  show SF p e below T1 (mkF m 57 #[iv p0s, iv p1s, iv 5, iv 5, rv w8, rv w8, .unset] [(.int 1)]) _
  refine XS.iloadN X1.here hx rfl (hb hby at_57) rfl ?_
  refine XS.iloadN X1.here hx rfl (hb hby at_58) rfl ?_
  show SF p e below T1 (mkF m 59 #[iv p0s, iv p1s, iv 5, iv 5, rv w8, rv w8, .unset] [(.int 5), (.int 5), (.int 1)]) _
  refine XS.icmpNo X1.here hx rfl (hb hby at_59) rfl (teq (by decide : (5 : Int32) = (5 : Int32))).2 ?_
  show SF p e below T1 (mkF m 62 #[iv p0s, iv p1s, iv 5, iv 5, rv w8, rv w8, .unset] [(.int 1)]) _
  refine XS.iconst X1.here hx rfl (hb hby at_62) ?_
  refine XS.goto X1.here hx rfl (pc0 := 63) (pc' := 67) rfl (hb hby at_63) (by decide) (by decide) ?_
  show SF p e below T1 (mkF m 67 #[iv p0s, iv p1s, iv 5, iv 5, rv w8, rv w8, .unset] [(.int 1), (.int 1)]) _
  refine XS.icmpYes X1.here hx rfl (pc0 := 67) (pc' := 72) rfl (hb hby at_67) rfl (teq (by decide : (1 : Int32) = (1 : Int32))).1 (by decide) (by decide) ?_
  exact k
-- Rights.bits 
def Q2_75 (Z : State) (w7 : Addr) (h0 : Heap) (n0 : Nat) (v : Option Value) (h : Heap) (L : List Loc) : Prop := v = some (.int 6) ∧ Fr n0 L ∧ h = h0
set_option maxRecDepth 65536 in
set_option maxHeartbeats 40000000 in
theorem rm2_75 (l : Launch) (Z : State) (a0 : Array Value) (hw : HW Z a0) (ws : List Jvm.Cond) (w7 : Addr) (h0 : Heap) (n0 : Nat) (Z0 : n0 ≤ h0.size) (F_w7_bits : Fld Z Z.heap w7 zs7 "bits" "I" (.int 6)) (P2 : Old Z n0 h0) :
    MF l Z (⟨zs7, "bits", "()I"⟩ : MethodName) (Jvm.Cond.code (⟨zs7, "bits", "()I"⟩ : MethodName) prog_35_method_3_code 1 (some .int)) ws ({ frames := 0, cells := 0, slots := 0, locals := 0 } : Room) #[(.ref w7)] h0 (Q2_75 Z w7 h0 n0) := by
  refine own_enter (plainFor_of_name pn_0) fun p e s m below meth c s₁ X0 hx hby hml hown hnm hZ e0 hre hlk => ?_
  have N0 := Fr.nil n0
  have pre0 : ∀ t, SF p e below s₁ (mkF m 0 #[rv w7] []) t → SF p e below s₁ (entryFrame m #[(.ref w7)] 1) t := fun t k => castTop (ef_1 m w7) k
  obtain ⟨T1, X1, e1, st1⟩ := getF X0 hx hZ hown (host := "") (Or.inl (tw hw 11 rfl)) Via.refl e0 (F_w7_bits.ext P2.2) (g := (mkF m 1 #[rv w7] [(.ref w7)])) rfl rfl (hb hby d2_1)
  obtain ⟨fs, hr, hrun, hended, hW, hsame⟩ := X1.leave (v := some (.int 6)) (fun h => by rw [hre] at h; cases h)
  refine ⟨_, _, pre0 _ ?_, hrun, hended, _, _, rfl, ?_, ⟨_, rfl⟩, hW, hsame.mono (by decide) (by decide)⟩
  · show SF p e below s₁ (mkF m 0 #[rv w7] []) _
    refine XS.aloadN X0.here hx rfl (hb hby d2_0) rfl rfl ?_
    show SF p e below s₁ (mkF m 1 #[rv w7] [(.ref w7)]) _
    refine st1 _ ?_
    show SF p e below T1 (mkF m 4 #[rv w7] [(.int 6)]) _
    exact retI X1 hx hre (hb hby d2_4) hr
  · show Q2_75 Z w7 h0 n0 _ T1.heap _
    rw [e1]
    exact ⟨rfl, N0, rfl⟩
-- Rights.containsAll 
def Q5_76 (Z : State) (w7 : Addr) (w4 : Addr) (h0 : Heap) (n0 : Nat) (v : Option Value) (h : Heap) (L : List Loc) : Prop := v = some (.int 1) ∧ Fr n0 L ∧ h = h0
set_option maxRecDepth 65536 in
set_option maxHeartbeats 40000000 in
theorem rm5_76 (l : Launch) (Z : State) (a0 : Array Value) (hw : HW Z a0) (ws : List Jvm.Cond) (w7 : Addr) (w4 : Addr) (h0 : Heap) (n0 : Nat) (Z0 : n0 ≤ h0.size) (F_w4_bits : Fld Z Z.heap w4 zs7 "bits" "I" (.int 4)) (P2 : Old Z n0 h0) (F_w7_bits : Fld Z Z.heap w7 zs7 "bits" "I" (.int 6)) :
    MF l Z (⟨zs7, "containsAll", zs2⟩ : MethodName) (Jvm.Cond.code (⟨zs7, "containsAll", zs2⟩ : MethodName) prog_35_method_4_code 2 (some .boolean)) ws ({ frames := 0, cells := 0, slots := 0, locals := 0 } : Room) #[(.ref w7), (.ref w4)] h0 (Q5_76 Z w7 w4 h0 n0) := by
  refine own_enter (plainFor_of_name pn_0) fun p e s m below meth c s₁ X0 hx hby hml hown hnm hZ e0 hre hlk => ?_
  have N0 := Fr.nil n0
  have pre0 : ∀ t, SF p e below s₁ (mkF m 0 #[rv w7, rv w4] []) t → SF p e below s₁ (entryFrame m #[(.ref w7), (.ref w4)] 2) t := fun t k => castTop (ef_2 m w7 w4) k
  obtain ⟨T1, X1, e1, st1⟩ := getF X0 hx hZ hown (host := "") (Or.inl (tw hw 11 rfl)) Via.refl e0 (F_w4_bits.ext P2.2) (g := (mkF m 1 #[rv w7, rv w4] [(.ref w4)])) rfl rfl (hb hby d5_1)
  obtain ⟨T2, X2, e2, st2⟩ := getF X1 hx hZ hown (host := "") (Or.inl (tw hw 11 rfl)) Via.refl e1 (F_w7_bits.ext P2.2) (g := (mkF m 5 #[rv w7, rv w4] [(.ref w7), (.int 4)])) rfl rfl (hb hby d5_5)
  obtain ⟨fs, hr, hrun, hended, hW, hsame⟩ := X2.leave (v := some (.int 1)) (fun h => by rw [hre] at h; cases h)
  refine ⟨_, _, pre0 _ ?_, hrun, hended, _, _, rfl, ?_, ⟨_, rfl⟩, hW, hsame.mono (by decide) (by decide)⟩
  · show SF p e below s₁ (mkF m 0 #[rv w7, rv w4] []) _
    refine XS.aloadN X0.here hx rfl (hb hby d5_0) rfl rfl ?_
    show SF p e below s₁ (mkF m 1 #[rv w7, rv w4] [(.ref w4)]) _
    refine st1 _ ?_
    show SF p e below T1 (mkF m 4 #[rv w7, rv w4] [(.int 4)]) _
    refine XS.aloadN X1.here hx rfl (hb hby d5_4) rfl rfl ?_
    show SF p e below T1 (mkF m 5 #[rv w7, rv w4] [(.ref w7), (.int 4)]) _
    refine st2 _ ?_
    show SF p e below T2 (mkF m 8 #[rv w7, rv w4] [(.int 6), (.int 4)]) _
    refine XS.iconst X2.here hx rfl (hb hby d5_8) ?_
    show SF p e below T2 (mkF m 9 #[rv w7, rv w4] [(.int (-1)), (.int 6), (.int 4)]) _
    refine XS.ixor X2.here hx rfl (hb hby d5_9) rfl ?_
    show SF p e below T2 (mkF m 10 #[rv w7, rv w4] [(.int ((6 : Int32) ^^^ (-1 : Int32))), (.int 4)]) _
    rw [show ((6 : Int32) ^^^ (-1 : Int32)) = (-7 : Int32) from by decide]
    show SF p e below T2 (mkF m 10 #[rv w7, rv w4] [(.int (-7)), (.int 4)]) _
    refine XS.iand X2.here hx rfl (hb hby d5_10) rfl ?_
    show SF p e below T2 (mkF m 11 #[rv w7, rv w4] [(.int ((4 : Int32) &&& (-7 : Int32)))]) _
    rw [show ((4 : Int32) &&& (-7 : Int32)) = (0 : Int32) from by decide]
    show SF p e below T2 (mkF m 11 #[rv w7, rv w4] [(.int 0)]) _
    refine XS.ifNo X2.here hx rfl (hb hby d5_11) rfl ((if0 _ _).trans (teq (by decide : (0 : Int32) = (0 : Int32))).2) ?_
    show SF p e below T2 (mkF m 14 #[rv w7, rv w4] []) _
    refine XS.iconst X2.here hx rfl (hb hby d5_14) ?_
    refine XS.goto X2.here hx rfl (pc0 := 15) (pc' := 19) rfl (hb hby d5_15) (by decide) (by decide) ?_
    show SF p e below T2 (mkF m 19 #[rv w7, rv w4] [(.int 1)]) _
    exact retN X2 hx (t := .boolean) hre (by simp) (hb hby d5_19) hr
  · show Q5_76 Z w7 w4 h0 n0 _ T2.heap _
    rw [e2]
    exact ⟨rfl, N0, rfl⟩
-- Rights.letter 
def Q4_77 (Z : State) (w7 : Addr) (w4 : Addr) (h0 : Heap) (n0 : Nat) (v : Option Value) (h : Heap) (L : List Loc) : Prop := v = some (.int 114) ∧ Fr n0 L ∧ h = h0
set_option maxRecDepth 65536 in
set_option maxHeartbeats 40000000 in
theorem rm4_77 (l : Launch) (Z : State) (a0 : Array Value) (hw : HW Z a0) (ws : List Jvm.Cond) (w7 : Addr) (w4 : Addr) (h0 : Heap) (n0 : Nat) (Z0 : n0 ≤ h0.size) (E_w7 : Exa Z Z.heap w7 zs7) (P2 : Old Z n0 h0) (F_w4_bits : Fld Z Z.heap w4 zs7 "bits" "I" (.int 4)) (F_w7_bits : Fld Z Z.heap w7 zs7 "bits" "I" (.int 6)) :
    MF l Z (⟨zs7, "letter", zs3⟩ : MethodName) (Jvm.Cond.code (⟨zs7, "letter", zs3⟩ : MethodName) prog_35_method_6_code 3 (some .char)) ws ({ frames := 1, cells := 0, slots := 0, locals := 13 } : Room) #[(.ref w7), (.ref w4), (.int 114)] h0 (Q4_77 Z w7 w4 h0 n0) := by
  refine own_enter (plainFor_of_name pn_0) fun p e s m below meth c s₁ X0 hx hby hml hown hnm hZ e0 hre hlk => ?_
  have N0 := Fr.nil n0
  have pre0 : ∀ t, SF p e below s₁ (mkF m 0 #[rv w7, rv w4, iv 114] []) t → SF p e below s₁ (entryFrame m #[(.ref w7), (.ref w4), (.int 114)] 3) t := fun t k => castTop (ef_3 m w7 w4 (114 : Int32)) k
  obtain ⟨cq1, kq1, q1a, q1b, q1c⟩ := isOf hZ e0 (E_w7.ext P2.2)
  obtain ⟨_, _, ⟨T1, L1, k1x, n1⟩, -, X1, ⟨Lc1, hQ1, l1, y1, z1⟩, st1⟩ := X0.virtualBack hx (y := (⟨zs7, "containsAll", zs2⟩ : MethodName)) (z := (⟨zs7, "containsAll", zs2⟩ : MethodName)) hown (mvT hZ (tw hw 30 rfl)) (mvT hZ (tw hw 31 rfl)) (notFace_of_selects (args := #[]) (mvT hZ (tw hw 33 rfl))) (mvT hZ (tw hw 33 rfl)) (mvT hZ (tw hw 32 rfl)) (by decide) (backOf (W := 0) (rm5_76 l Z a0 hw [] w7 w4 h0 n0 Z0 F_w4_bits P2 F_w7_bits) hZ (tw hw 34 rfl) (tw hw 2 rfl) (by decide) (by decide)) q1a q1c (g := (mkF m 2 #[rv w7, rv w4, iv 114] [(.ref w4), (.ref w7)])) rfl (by rw [hml]; rfl) (Steps.refl _) (argsL := [(.ref w4)]) (rest := []) (lenOf pd_2 rfl) rfl (Nat.le_of_eq rfl) (hb hby d4_2) (fun _ _ => ⟨rfl, e0, (by decide : 0 + 0 ≤ _), (by decide : 0 + 0 ≤ _)⟩)
  dsimp only [Pt.U, Pt.locs, Pt.cells, Pt.slots] at X1 l1 y1 z1 st1 hQ1
  subst l1 y1 z1
  obtain ⟨rfl, N1q, e1⟩ := hQ1
  have N1 := Fr.app N0 N1q
  obtain ⟨fs, hr, hrun, hended, hW, hsame⟩ := X1.leave (v := some (.int 114)) (fun h => by rw [hre] at h; cases h)
  refine ⟨_, _, pre0 _ ?_, hrun, hended, _, _, rfl, ?_, ⟨_, rfl⟩, hW, hsame.mono (by decide) (by decide)⟩
  · show SF p e below s₁ (mkF m 0 #[rv w7, rv w4, iv 114] []) _
    refine XS.aloadN X0.here hx rfl (hb hby d4_0) rfl rfl ?_
    refine XS.aloadN X0.here hx rfl (hb hby d4_1) rfl rfl ?_
    show SF p e below s₁ (mkF m 2 #[rv w7, rv w4, iv 114] [(.ref w4), (.ref w7)]) _
    refine st1.trans ?_
    show SF p e below T1 (mkF m 5 #[rv w7, rv w4, iv 114] [(.int 1)]) _
    refine XS.ifNo X1.here hx rfl (hb hby d4_5) rfl ((if0 _ _).trans (feq (by decide : ¬ ((1 : Int32) = (0 : Int32)))).1) ?_
    show SF p e below T1 (mkF m 8 #[rv w7, rv w4, iv 114] []) _
    refine XS.iloadN X1.here hx rfl (hb hby d4_8) rfl ?_
    refine XS.goto X1.here hx rfl (pc0 := 9) (pc' := 14) rfl (hb hby d4_9) (by decide) (by decide) ?_
    show SF p e below T1 (mkF m 14 #[rv w7, rv w4, iv 114] [(.int 114)]) _
    exact retN X1 hx (t := .char) hre (by simp) (hb hby d4_14) hr
  · show Q4_77 Z w7 w4 h0 n0 _ T1.heap _
    rw [e1]
    exact ⟨rfl, N1, rfl⟩
-- Rights.containsAll 
def Q5_78 (Z : State) (w7 : Addr) (w5 : Addr) (h0 : Heap) (n0 : Nat) (v : Option Value) (h : Heap) (L : List Loc) : Prop := v = some (.int 1) ∧ Fr n0 L ∧ h = h0
set_option maxRecDepth 65536 in
set_option maxHeartbeats 40000000 in
theorem rm5_78 (l : Launch) (Z : State) (a0 : Array Value) (hw : HW Z a0) (ws : List Jvm.Cond) (w7 : Addr) (w5 : Addr) (h0 : Heap) (n0 : Nat) (Z0 : n0 ≤ h0.size) (F_w5_bits : Fld Z Z.heap w5 zs7 "bits" "I" (.int 2)) (P2 : Old Z n0 h0) (F_w7_bits : Fld Z Z.heap w7 zs7 "bits" "I" (.int 6)) :
    MF l Z (⟨zs7, "containsAll", zs2⟩ : MethodName) (Jvm.Cond.code (⟨zs7, "containsAll", zs2⟩ : MethodName) prog_35_method_4_code 2 (some .boolean)) ws ({ frames := 0, cells := 0, slots := 0, locals := 0 } : Room) #[(.ref w7), (.ref w5)] h0 (Q5_78 Z w7 w5 h0 n0) := by
  refine own_enter (plainFor_of_name pn_0) fun p e s m below meth c s₁ X0 hx hby hml hown hnm hZ e0 hre hlk => ?_
  have N0 := Fr.nil n0
  have pre0 : ∀ t, SF p e below s₁ (mkF m 0 #[rv w7, rv w5] []) t → SF p e below s₁ (entryFrame m #[(.ref w7), (.ref w5)] 2) t := fun t k => castTop (ef_2 m w7 w5) k
  obtain ⟨T1, X1, e1, st1⟩ := getF X0 hx hZ hown (host := "") (Or.inl (tw hw 11 rfl)) Via.refl e0 (F_w5_bits.ext P2.2) (g := (mkF m 1 #[rv w7, rv w5] [(.ref w5)])) rfl rfl (hb hby d5_1)
  obtain ⟨T2, X2, e2, st2⟩ := getF X1 hx hZ hown (host := "") (Or.inl (tw hw 11 rfl)) Via.refl e1 (F_w7_bits.ext P2.2) (g := (mkF m 5 #[rv w7, rv w5] [(.ref w7), (.int 2)])) rfl rfl (hb hby d5_5)
  obtain ⟨fs, hr, hrun, hended, hW, hsame⟩ := X2.leave (v := some (.int 1)) (fun h => by rw [hre] at h; cases h)
  refine ⟨_, _, pre0 _ ?_, hrun, hended, _, _, rfl, ?_, ⟨_, rfl⟩, hW, hsame.mono (by decide) (by decide)⟩
  · show SF p e below s₁ (mkF m 0 #[rv w7, rv w5] []) _
    refine XS.aloadN X0.here hx rfl (hb hby d5_0) rfl rfl ?_
    show SF p e below s₁ (mkF m 1 #[rv w7, rv w5] [(.ref w5)]) _
    refine st1 _ ?_
    show SF p e below T1 (mkF m 4 #[rv w7, rv w5] [(.int 2)]) _
    refine XS.aloadN X1.here hx rfl (hb hby d5_4) rfl rfl ?_
    show SF p e below T1 (mkF m 5 #[rv w7, rv w5] [(.ref w7), (.int 2)]) _
    refine st2 _ ?_
    show SF p e below T2 (mkF m 8 #[rv w7, rv w5] [(.int 6), (.int 2)]) _
    refine XS.iconst X2.here hx rfl (hb hby d5_8) ?_
    show SF p e below T2 (mkF m 9 #[rv w7, rv w5] [(.int (-1)), (.int 6), (.int 2)]) _
    refine XS.ixor X2.here hx rfl (hb hby d5_9) rfl ?_
    show SF p e below T2 (mkF m 10 #[rv w7, rv w5] [(.int ((6 : Int32) ^^^ (-1 : Int32))), (.int 2)]) _
    rw [show ((6 : Int32) ^^^ (-1 : Int32)) = (-7 : Int32) from by decide]
    show SF p e below T2 (mkF m 10 #[rv w7, rv w5] [(.int (-7)), (.int 2)]) _
    refine XS.iand X2.here hx rfl (hb hby d5_10) rfl ?_
    show SF p e below T2 (mkF m 11 #[rv w7, rv w5] [(.int ((2 : Int32) &&& (-7 : Int32)))]) _
    rw [show ((2 : Int32) &&& (-7 : Int32)) = (0 : Int32) from by decide]
    show SF p e below T2 (mkF m 11 #[rv w7, rv w5] [(.int 0)]) _
    refine XS.ifNo X2.here hx rfl (hb hby d5_11) rfl ((if0 _ _).trans (teq (by decide : (0 : Int32) = (0 : Int32))).2) ?_
    show SF p e below T2 (mkF m 14 #[rv w7, rv w5] []) _
    refine XS.iconst X2.here hx rfl (hb hby d5_14) ?_
    refine XS.goto X2.here hx rfl (pc0 := 15) (pc' := 19) rfl (hb hby d5_15) (by decide) (by decide) ?_
    show SF p e below T2 (mkF m 19 #[rv w7, rv w5] [(.int 1)]) _
    exact retN X2 hx (t := .boolean) hre (by simp) (hb hby d5_19) hr
  · show Q5_78 Z w7 w5 h0 n0 _ T2.heap _
    rw [e2]
    exact ⟨rfl, N0, rfl⟩
-- Rights.letter 
def Q4_79 (Z : State) (w7 : Addr) (w5 : Addr) (h0 : Heap) (n0 : Nat) (v : Option Value) (h : Heap) (L : List Loc) : Prop := v = some (.int 119) ∧ Fr n0 L ∧ h = h0
set_option maxRecDepth 65536 in
set_option maxHeartbeats 40000000 in
theorem rm4_79 (l : Launch) (Z : State) (a0 : Array Value) (hw : HW Z a0) (ws : List Jvm.Cond) (w7 : Addr) (w5 : Addr) (h0 : Heap) (n0 : Nat) (Z0 : n0 ≤ h0.size) (E_w7 : Exa Z Z.heap w7 zs7) (P2 : Old Z n0 h0) (F_w5_bits : Fld Z Z.heap w5 zs7 "bits" "I" (.int 2)) (F_w7_bits : Fld Z Z.heap w7 zs7 "bits" "I" (.int 6)) :
    MF l Z (⟨zs7, "letter", zs3⟩ : MethodName) (Jvm.Cond.code (⟨zs7, "letter", zs3⟩ : MethodName) prog_35_method_6_code 3 (some .char)) ws ({ frames := 1, cells := 0, slots := 0, locals := 13 } : Room) #[(.ref w7), (.ref w5), (.int 119)] h0 (Q4_79 Z w7 w5 h0 n0) := by
  refine own_enter (plainFor_of_name pn_0) fun p e s m below meth c s₁ X0 hx hby hml hown hnm hZ e0 hre hlk => ?_
  have N0 := Fr.nil n0
  have pre0 : ∀ t, SF p e below s₁ (mkF m 0 #[rv w7, rv w5, iv 119] []) t → SF p e below s₁ (entryFrame m #[(.ref w7), (.ref w5), (.int 119)] 3) t := fun t k => castTop (ef_3 m w7 w5 (119 : Int32)) k
  obtain ⟨cq1, kq1, q1a, q1b, q1c⟩ := isOf hZ e0 (E_w7.ext P2.2)
  obtain ⟨_, _, ⟨T1, L1, k1x, n1⟩, -, X1, ⟨Lc1, hQ1, l1, y1, z1⟩, st1⟩ := X0.virtualBack hx (y := (⟨zs7, "containsAll", zs2⟩ : MethodName)) (z := (⟨zs7, "containsAll", zs2⟩ : MethodName)) hown (mvT hZ (tw hw 30 rfl)) (mvT hZ (tw hw 31 rfl)) (notFace_of_selects (args := #[]) (mvT hZ (tw hw 33 rfl))) (mvT hZ (tw hw 33 rfl)) (mvT hZ (tw hw 32 rfl)) (by decide) (backOf (W := 0) (rm5_78 l Z a0 hw [] w7 w5 h0 n0 Z0 F_w5_bits P2 F_w7_bits) hZ (tw hw 34 rfl) (tw hw 2 rfl) (by decide) (by decide)) q1a q1c (g := (mkF m 2 #[rv w7, rv w5, iv 119] [(.ref w5), (.ref w7)])) rfl (by rw [hml]; rfl) (Steps.refl _) (argsL := [(.ref w5)]) (rest := []) (lenOf pd_2 rfl) rfl (Nat.le_of_eq rfl) (hb hby d4_2) (fun _ _ => ⟨rfl, e0, (by decide : 0 + 0 ≤ _), (by decide : 0 + 0 ≤ _)⟩)
  dsimp only [Pt.U, Pt.locs, Pt.cells, Pt.slots] at X1 l1 y1 z1 st1 hQ1
  subst l1 y1 z1
  obtain ⟨rfl, N1q, e1⟩ := hQ1
  have N1 := Fr.app N0 N1q
  obtain ⟨fs, hr, hrun, hended, hW, hsame⟩ := X1.leave (v := some (.int 119)) (fun h => by rw [hre] at h; cases h)
  refine ⟨_, _, pre0 _ ?_, hrun, hended, _, _, rfl, ?_, ⟨_, rfl⟩, hW, hsame.mono (by decide) (by decide)⟩
  · show SF p e below s₁ (mkF m 0 #[rv w7, rv w5, iv 119] []) _
    refine XS.aloadN X0.here hx rfl (hb hby d4_0) rfl rfl ?_
    refine XS.aloadN X0.here hx rfl (hb hby d4_1) rfl rfl ?_
    show SF p e below s₁ (mkF m 2 #[rv w7, rv w5, iv 119] [(.ref w5), (.ref w7)]) _
    refine st1.trans ?_
    show SF p e below T1 (mkF m 5 #[rv w7, rv w5, iv 119] [(.int 1)]) _
    refine XS.ifNo X1.here hx rfl (hb hby d4_5) rfl ((if0 _ _).trans (feq (by decide : ¬ ((1 : Int32) = (0 : Int32)))).1) ?_
    show SF p e below T1 (mkF m 8 #[rv w7, rv w5, iv 119] []) _
    refine XS.iloadN X1.here hx rfl (hb hby d4_8) rfl ?_
    refine XS.goto X1.here hx rfl (pc0 := 9) (pc' := 14) rfl (hb hby d4_9) (by decide) (by decide) ?_
    show SF p e below T1 (mkF m 14 #[rv w7, rv w5, iv 119] [(.int 119)]) _
    exact retN X1 hx (t := .char) hre (by simp) (hb hby d4_14) hr
  · show Q4_79 Z w7 w5 h0 n0 _ T1.heap _
    rw [e1]
    exact ⟨rfl, N1, rfl⟩
-- Rights.containsAll 
def Q5_80 (Z : State) (w7 : Addr) (w6 : Addr) (h0 : Heap) (n0 : Nat) (v : Option Value) (h : Heap) (L : List Loc) : Prop := v = some (.int 0) ∧ Fr n0 L ∧ h = h0
set_option maxRecDepth 65536 in
set_option maxHeartbeats 40000000 in
theorem rm5_80 (l : Launch) (Z : State) (a0 : Array Value) (hw : HW Z a0) (ws : List Jvm.Cond) (w7 : Addr) (w6 : Addr) (h0 : Heap) (n0 : Nat) (Z0 : n0 ≤ h0.size) (F_w6_bits : Fld Z Z.heap w6 zs7 "bits" "I" (.int 1)) (P2 : Old Z n0 h0) (F_w7_bits : Fld Z Z.heap w7 zs7 "bits" "I" (.int 6)) :
    MF l Z (⟨zs7, "containsAll", zs2⟩ : MethodName) (Jvm.Cond.code (⟨zs7, "containsAll", zs2⟩ : MethodName) prog_35_method_4_code 2 (some .boolean)) ws ({ frames := 0, cells := 0, slots := 0, locals := 0 } : Room) #[(.ref w7), (.ref w6)] h0 (Q5_80 Z w7 w6 h0 n0) := by
  refine own_enter (plainFor_of_name pn_0) fun p e s m below meth c s₁ X0 hx hby hml hown hnm hZ e0 hre hlk => ?_
  have N0 := Fr.nil n0
  have pre0 : ∀ t, SF p e below s₁ (mkF m 0 #[rv w7, rv w6] []) t → SF p e below s₁ (entryFrame m #[(.ref w7), (.ref w6)] 2) t := fun t k => castTop (ef_2 m w7 w6) k
  obtain ⟨T1, X1, e1, st1⟩ := getF X0 hx hZ hown (host := "") (Or.inl (tw hw 11 rfl)) Via.refl e0 (F_w6_bits.ext P2.2) (g := (mkF m 1 #[rv w7, rv w6] [(.ref w6)])) rfl rfl (hb hby d5_1)
  obtain ⟨T2, X2, e2, st2⟩ := getF X1 hx hZ hown (host := "") (Or.inl (tw hw 11 rfl)) Via.refl e1 (F_w7_bits.ext P2.2) (g := (mkF m 5 #[rv w7, rv w6] [(.ref w7), (.int 1)])) rfl rfl (hb hby d5_5)
  obtain ⟨fs, hr, hrun, hended, hW, hsame⟩ := X2.leave (v := some (.int 0)) (fun h => by rw [hre] at h; cases h)
  refine ⟨_, _, pre0 _ ?_, hrun, hended, _, _, rfl, ?_, ⟨_, rfl⟩, hW, hsame.mono (by decide) (by decide)⟩
  · show SF p e below s₁ (mkF m 0 #[rv w7, rv w6] []) _
    refine XS.aloadN X0.here hx rfl (hb hby d5_0) rfl rfl ?_
    show SF p e below s₁ (mkF m 1 #[rv w7, rv w6] [(.ref w6)]) _
    refine st1 _ ?_
    show SF p e below T1 (mkF m 4 #[rv w7, rv w6] [(.int 1)]) _
    refine XS.aloadN X1.here hx rfl (hb hby d5_4) rfl rfl ?_
    show SF p e below T1 (mkF m 5 #[rv w7, rv w6] [(.ref w7), (.int 1)]) _
    refine st2 _ ?_
    show SF p e below T2 (mkF m 8 #[rv w7, rv w6] [(.int 6), (.int 1)]) _
    refine XS.iconst X2.here hx rfl (hb hby d5_8) ?_
    show SF p e below T2 (mkF m 9 #[rv w7, rv w6] [(.int (-1)), (.int 6), (.int 1)]) _
    refine XS.ixor X2.here hx rfl (hb hby d5_9) rfl ?_
    show SF p e below T2 (mkF m 10 #[rv w7, rv w6] [(.int ((6 : Int32) ^^^ (-1 : Int32))), (.int 1)]) _
    rw [show ((6 : Int32) ^^^ (-1 : Int32)) = (-7 : Int32) from by decide]
    show SF p e below T2 (mkF m 10 #[rv w7, rv w6] [(.int (-7)), (.int 1)]) _
    refine XS.iand X2.here hx rfl (hb hby d5_10) rfl ?_
    show SF p e below T2 (mkF m 11 #[rv w7, rv w6] [(.int ((1 : Int32) &&& (-7 : Int32)))]) _
    rw [show ((1 : Int32) &&& (-7 : Int32)) = (1 : Int32) from by decide]
    show SF p e below T2 (mkF m 11 #[rv w7, rv w6] [(.int 1)]) _
    refine XS.ifYes X2.here hx rfl (pc0 := 11) (pc' := 18) rfl (hb hby d5_11) rfl ((if0 _ _).trans (feq (by decide : ¬ ((1 : Int32) = (0 : Int32)))).2) (by decide) (by decide) ?_
    show SF p e below T2 (mkF m 18 #[rv w7, rv w6] []) _
    refine XS.iconst X2.here hx rfl (hb hby d5_18) ?_
    show SF p e below T2 (mkF m 19 #[rv w7, rv w6] [(.int 0)]) _
    exact retN X2 hx (t := .boolean) hre (by simp) (hb hby d5_19) hr
  · show Q5_80 Z w7 w6 h0 n0 _ T2.heap _
    rw [e2]
    exact ⟨rfl, N0, rfl⟩
-- Rights.letter 
def Q4_81 (Z : State) (w7 : Addr) (w6 : Addr) (h0 : Heap) (n0 : Nat) (v : Option Value) (h : Heap) (L : List Loc) : Prop := v = some (.int 45) ∧ Fr n0 L ∧ h = h0
set_option maxRecDepth 65536 in
set_option maxHeartbeats 40000000 in
theorem rm4_81 (l : Launch) (Z : State) (a0 : Array Value) (hw : HW Z a0) (ws : List Jvm.Cond) (w7 : Addr) (w6 : Addr) (h0 : Heap) (n0 : Nat) (Z0 : n0 ≤ h0.size) (E_w7 : Exa Z Z.heap w7 zs7) (P2 : Old Z n0 h0) (F_w6_bits : Fld Z Z.heap w6 zs7 "bits" "I" (.int 1)) (F_w7_bits : Fld Z Z.heap w7 zs7 "bits" "I" (.int 6)) :
    MF l Z (⟨zs7, "letter", zs3⟩ : MethodName) (Jvm.Cond.code (⟨zs7, "letter", zs3⟩ : MethodName) prog_35_method_6_code 3 (some .char)) ws ({ frames := 1, cells := 0, slots := 0, locals := 13 } : Room) #[(.ref w7), (.ref w6), (.int 120)] h0 (Q4_81 Z w7 w6 h0 n0) := by
  refine own_enter (plainFor_of_name pn_0) fun p e s m below meth c s₁ X0 hx hby hml hown hnm hZ e0 hre hlk => ?_
  have N0 := Fr.nil n0
  have pre0 : ∀ t, SF p e below s₁ (mkF m 0 #[rv w7, rv w6, iv 120] []) t → SF p e below s₁ (entryFrame m #[(.ref w7), (.ref w6), (.int 120)] 3) t := fun t k => castTop (ef_3 m w7 w6 (120 : Int32)) k
  obtain ⟨cq1, kq1, q1a, q1b, q1c⟩ := isOf hZ e0 (E_w7.ext P2.2)
  obtain ⟨_, _, ⟨T1, L1, k1x, n1⟩, -, X1, ⟨Lc1, hQ1, l1, y1, z1⟩, st1⟩ := X0.virtualBack hx (y := (⟨zs7, "containsAll", zs2⟩ : MethodName)) (z := (⟨zs7, "containsAll", zs2⟩ : MethodName)) hown (mvT hZ (tw hw 30 rfl)) (mvT hZ (tw hw 31 rfl)) (notFace_of_selects (args := #[]) (mvT hZ (tw hw 33 rfl))) (mvT hZ (tw hw 33 rfl)) (mvT hZ (tw hw 32 rfl)) (by decide) (backOf (W := 0) (rm5_80 l Z a0 hw [] w7 w6 h0 n0 Z0 F_w6_bits P2 F_w7_bits) hZ (tw hw 34 rfl) (tw hw 2 rfl) (by decide) (by decide)) q1a q1c (g := (mkF m 2 #[rv w7, rv w6, iv 120] [(.ref w6), (.ref w7)])) rfl (by rw [hml]; rfl) (Steps.refl _) (argsL := [(.ref w6)]) (rest := []) (lenOf pd_2 rfl) rfl (Nat.le_of_eq rfl) (hb hby d4_2) (fun _ _ => ⟨rfl, e0, (by decide : 0 + 0 ≤ _), (by decide : 0 + 0 ≤ _)⟩)
  dsimp only [Pt.U, Pt.locs, Pt.cells, Pt.slots] at X1 l1 y1 z1 st1 hQ1
  subst l1 y1 z1
  obtain ⟨rfl, N1q, e1⟩ := hQ1
  have N1 := Fr.app N0 N1q
  obtain ⟨fs, hr, hrun, hended, hW, hsame⟩ := X1.leave (v := some (.int 45)) (fun h => by rw [hre] at h; cases h)
  refine ⟨_, _, pre0 _ ?_, hrun, hended, _, _, rfl, ?_, ⟨_, rfl⟩, hW, hsame.mono (by decide) (by decide)⟩
  · show SF p e below s₁ (mkF m 0 #[rv w7, rv w6, iv 120] []) _
    refine XS.aloadN X0.here hx rfl (hb hby d4_0) rfl rfl ?_
    refine XS.aloadN X0.here hx rfl (hb hby d4_1) rfl rfl ?_
    show SF p e below s₁ (mkF m 2 #[rv w7, rv w6, iv 120] [(.ref w6), (.ref w7)]) _
    refine st1.trans ?_
    show SF p e below T1 (mkF m 5 #[rv w7, rv w6, iv 120] [(.int 0)]) _
    refine XS.ifYes X1.here hx rfl (pc0 := 5) (pc' := 12) rfl (hb hby d4_5) rfl ((if0 _ _).trans (teq (by decide : (0 : Int32) = (0 : Int32))).1) (by decide) (by decide) ?_
    show SF p e below T1 (mkF m 12 #[rv w7, rv w6, iv 120] []) _
    refine XS.bipush X1.here hx rfl (hb hby d4_12) ?_
    show SF p e below T1 (mkF m 14 #[rv w7, rv w6, iv 120] [(.int 45)]) _
    exact retN X1 hx (t := .char) hre (by simp) (hb hby d4_14) hr
  · show Q4_81 Z w7 w6 h0 n0 _ T1.heap _
    rw [e1]
    exact ⟨rfl, N1, rfl⟩
-- Rights.toString 
def Q3_82 (Z : State) (w7 : Addr) (w4 : Addr) (w5 : Addr) (w6 : Addr) (GC : Int32) (h0 : Heap) (n0 : Nat) (v : Option Value) (h : Heap) (L : List Loc) : Prop := ∃ e1x : Addr, ∃ e2x : Addr, ∃ e3x : ClassId, h0.size ≤ e1x ∧ h0.size ≤ e2x ∧ e1x ≠ e2x ∧ v = some (.ref e1x) ∧ Fr n0 L ∧ Keep h0 h [] ∧ Exa Z h e1x "java/lang/String" ∧ Fld Z h e1x "java/lang/String" "coder" "B" (.int 0) ∧ Fld Z h e1x "java/lang/String" "value" "[B" (.ref e2x) ∧ Arv Z h e2x e3x .byte (3 : Int32) (((([(114 : Int32), (119 : Int32), (45 : Int32)] : List Int32)).map (fun c => c.toInt8.toInt32)).map Value.int) (.int (0 : Int32))
set_option maxRecDepth 65536 in
set_option maxHeartbeats 40000000 in
theorem rm3_82 (l : Launch) (Z : State) (a0 : Array Value) (hw : HW Z a0) (ws : List Jvm.Cond) (w7 : Addr) (w4 : Addr) (w5 : Addr) (w6 : Addr) (GC : Int32) (h0 : Heap) (n0 : Nat) (Z0 : n0 ≤ h0.size) (Sg7 : Sta Z Z.heap zs7 "READ" zs4 (.ref w4)) (P2 : Old Z n0 h0) (E_w7 : Exa Z Z.heap w7 zs7) (F_w4_bits : Fld Z Z.heap w4 zs7 "bits" "I" (.int 4)) (F_w7_bits : Fld Z Z.heap w7 zs7 "bits" "I" (.int 6)) (Sg9 : Sta Z Z.heap zs7 "WRITE" zs4 (.ref w5)) (F_w5_bits : Fld Z Z.heap w5 zs7 "bits" "I" (.int 2)) (Sg11 : Sta Z Z.heap zs7 "EXECUTE" zs4 (.ref w6)) (F_w6_bits : Fld Z Z.heap w6 zs7 "bits" "I" (.int 1)) (Sg0 : Sta Z Z.heap "java/lang/String" "COMPACT_STRINGS" "Z" (.int GC)) (nzGC : ¬ (GC = (0 : Int32))) :
    MF l Z (⟨zs7, "toString", zs0⟩ : MethodName) (Jvm.Cond.code (⟨zs7, "toString", zs0⟩ : MethodName) prog_35_method_5_code 1 (some (.object "java/lang/String"))) ws ({ frames := 4, cells := 3, slots := 10, locals := 66 } : Room) #[(.ref w7)] h0 (Q3_82 Z w7 w4 w5 w6 GC h0 n0) := by
  refine own_enter (plainFor_of_name pn_0) fun p e s m below meth c s₁ X0 hx hby hml hown hnm hZ e0 hre hlk => ?_
  have N0 := Fr.nil n0
  have pre0 : ∀ t, SF p e below s₁ (mkF m 0 #[rv w7] []) t → SF p e below s₁ (entryFrame m #[(.ref w7)] 1) t := fun t k => castTop (ef_4 m w7) k
  obtain ⟨T1, h1, X1, e1, E1, A1, D1, -, st1⟩ := newO X0 hx hZ hown (tw hw 20 rfl) (tw hw 21 rfl) (tw hw 22 rfl) e0 (g := (mkF m 0 #[rv w7] [])) rfl (hb hby d3_0) (by decide) (by decide)
  obtain ⟨e1x, g1⟩ : ∃ z, z = h0.size := ⟨_, rfl⟩
  rw [← g1] at A1 D1 st1
  have K1 : Keep h0 h1 [] := (Keep.refl h0 []).ext E1
  have Fn2 : Fld Z h1 e1x "java/lang/String" "coder" "B" (.int 0) := D1 (Or.inr (tw hw 62 rfl)) (ty := .byte) (by decide)
  have Fn3 : Fld Z h1 e1x "java/lang/String" "value" "[B" .null := D1 (Or.inr (tw hw 64 rfl)) (ty := (.array .byte)) (by decide)
  obtain ⟨T4, h4, w5x, X4, e4, E4, A4, st4⟩ := newP X1 hx hZ (tw hw 23 rfl) e1 (g := (mkF m 5 #[rv w7] [(.int 3), (.ref e1x), (.ref e1x)])) rfl (hb hby d3_5) rfl (by decide) (cap := 3) (by decide) (by decide) (by decide) (by decide)
  obtain ⟨w4x, g4⟩ : ∃ z, z = h1.size := ⟨_, rfl⟩
  rw [← g4] at A4 st4
  have K4 : Keep h0 h4 [] := K1.ext E4
  have V4 : Arv Z h4 w4x w5x .char (3 : Int32) [(.int 0), (.int 0), (.int 0)] (.int (0 : Int32)) := (Arv.new A4 (by decide)).pad (pad_rep [] (.int (0 : Int32)) 3)
  have O1 : Old Z n0 h1 := P2.ext E1
  have O4 : Old Z n0 h4 := O1.ext E4
  obtain ⟨T5, X5, e5, st5⟩ := getS2 X4 hx hZ hown (host := "") (Or.inl (tw hw 24 rfl)) Via.refl e4 (Sg7.ext O4.2) (g := (mkF m 10 #[rv w7] [(.ref w7), (.int 0), (.ref w4x), (.ref w4x), (.ref e1x), (.ref e1x)])) rfl (hb hby d3_10)
  have Z1 : n0 ≤ h1.size := Nat.le_trans Z0 E1.1
  have Z4 : n0 ≤ h4.size := Nat.le_trans Z1 E4.1
  obtain ⟨cq6, q6, q6'⟩ := (E_w7.ext O4.2).cell
  obtain ⟨_, _, ⟨T6, L6, k6x, n6⟩, -, X6, ⟨Lc6, hQ6, l6, y6, z6⟩, st6⟩ := X5.privateBack hx (y := (⟨zs7, "letter", zs3⟩ : MethodName)) hown (mvT hZ (tw hw 26 rfl)) (mvT hZ (tw hw 27 rfl)) (own_selQ hZ (tw hw 9 rfl) (tw hw 28 rfl) (tw hw 27 rfl) (by decide)) (Cond.privateMethod_at (mvP hZ (tw hw 28 rfl) (args := #[]))) (mvT hZ (tw hw 29 rfl)) (by decide) (backOf (W := 5) (rm4_77 l Z a0 hw [] w7 w4 h4 n0 Z4 E_w7 O4 F_w4_bits F_w7_bits) hZ (tw hw 29 rfl) (tw hw 2 rfl) (by decide) (by decide)) (g := (mkF m 15 #[rv w7] [(.int 114), (.ref w4), (.ref w7), (.int 0), (.ref w4x), (.ref w4x), (.ref e1x), (.ref e1x)])) rfl (by rw [hml]; rfl) (Steps.refl _) (a := w7) (by rw [e5]; exact q6) q6' (argsL := [(.ref w4), (.int 114)]) (rest := [(.int 0), (.ref w4x), (.ref w4x), (.ref e1x), (.ref e1x)]) (lenOf pd_3 rfl) rfl (Nat.le_of_eq rfl) (hb hby d3_15) (fun _ _ => ⟨rfl, e5, (by decide : 2 + 0 ≤ _), (by decide : 7 + 0 ≤ _)⟩)
  dsimp only [Pt.U, Pt.locs, Pt.cells, Pt.slots] at X6 l6 y6 z6 st6 hQ6
  subst l6 y6 z6
  obtain ⟨rfl, N6q, e6⟩ := hQ6
  have N6 := Fr.app N0 N6q
  obtain ⟨cl7, Ar7, q7, S7, N7z, H7, G7⟩ := id V4
  have hin7 : ¬ ((0 : Int32) < 0 ∨ cl7.slots.size ≤ ((0 : Int32)).toNatClampNeg) := inb_of S7 ⟨by decide, by decide⟩
  obtain ⟨T8, h8, X8, e8, W8, st8⟩ := stC X6 hx hZ e6 Ar7 (j := (0 : Int32)) hin7 (g := (mkF m 18 #[rv w7] [(.int 114), (.int 0), (.ref w4x), (.ref w4x), (.ref e1x), (.ref e1x)])) rfl rfl (hb hby d3_18)
  have g_b3 : n0 ≤ w4x := Nat.le_trans Z1 (Nat.le_of_eq g4.symm)
  have sz0_b3 : h0.size ≤ w4x := Nat.le_trans K1.1 (Nat.le_of_eq g4.symm)
  have K8 : Keep h0 h8 [] := K4.wr W8 (Or.inr sz0_b3)
  have N8 := Fr.snoc X8 N6 g_b3
  have V8 : Arv Z h8 w4x w5x .char (3 : Int32) [(.int 114), (.int 0), (.int 0)] (.int (0 : Int32)) := Arv.set Ar7 q7 S7 N7z H7 G7 (by decide) W8 0 rfl (Nat.le_of_ble_eq_true rfl)
  have O8 : Old Z n0 h8 := O4.wr W8 g_b3
  obtain ⟨T9, X9, e9, st9⟩ := getS2 X8 hx hZ hown (host := "") (Or.inl (tw hw 35 rfl)) Via.refl e8 (Sg9.ext O8.2) (g := (mkF m 22 #[rv w7] [(.ref w7), (.int 1), (.ref w4x), (.ref w4x), (.ref e1x), (.ref e1x)])) rfl (hb hby d3_22)
  have Z8 : n0 ≤ h8.size := Nat.le_trans Z4 (Keep.of_wr W8).1
  obtain ⟨cq10, q10, q10'⟩ := (E_w7.ext O8.2).cell
  obtain ⟨_, _, ⟨T10, L10, k10x, n10⟩, -, X10, ⟨Lc10, hQ10, l10, y10, z10⟩, st10⟩ := X9.privateBack hx (y := (⟨zs7, "letter", zs3⟩ : MethodName)) hown (mvT hZ (tw hw 26 rfl)) (mvT hZ (tw hw 27 rfl)) (own_selQ hZ (tw hw 9 rfl) (tw hw 28 rfl) (tw hw 27 rfl) (by decide)) (Cond.privateMethod_at (mvP hZ (tw hw 28 rfl) (args := #[]))) (mvT hZ (tw hw 29 rfl)) (by decide) (backOf (W := 5) (rm4_79 l Z a0 hw [] w7 w5 h8 n0 Z8 E_w7 O8 F_w5_bits F_w7_bits) hZ (tw hw 29 rfl) (tw hw 2 rfl) (by decide) (by decide)) (g := (mkF m 27 #[rv w7] [(.int 119), (.ref w5), (.ref w7), (.int 1), (.ref w4x), (.ref w4x), (.ref e1x), (.ref e1x)])) rfl (by rw [hml]; rfl) (Steps.refl _) (a := w7) (by rw [e9]; exact q10) q10' (argsL := [(.ref w5), (.int 119)]) (rest := [(.int 1), (.ref w4x), (.ref w4x), (.ref e1x), (.ref e1x)]) (lenOf pd_3 rfl) rfl (Nat.le_of_eq rfl) (hb hby d3_27) (fun _ _ => ⟨rfl, e9, (by decide : 2 + 0 ≤ _), (by decide : 7 + 0 ≤ _)⟩)
  dsimp only [Pt.U, Pt.locs, Pt.cells, Pt.slots] at X10 l10 y10 z10 st10 hQ10
  subst l10 y10 z10
  obtain ⟨rfl, N10q, e10⟩ := hQ10
  have N10 := Fr.app N8 N10q
  obtain ⟨cl11, Ar11, q11, S11, N11z, H11, G11⟩ := id V8
  have hin11 : ¬ ((1 : Int32) < 0 ∨ cl11.slots.size ≤ ((1 : Int32)).toNatClampNeg) := inb_of S11 ⟨by decide, by decide⟩
  obtain ⟨T12, h12, X12, e12, W12, st12⟩ := stC X10 hx hZ e10 Ar11 (j := (1 : Int32)) hin11 (g := (mkF m 30 #[rv w7] [(.int 119), (.int 1), (.ref w4x), (.ref w4x), (.ref e1x), (.ref e1x)])) rfl rfl (hb hby d3_30)
  have K12 : Keep h0 h12 [] := K8.wr W12 (Or.inr sz0_b3)
  have N12 := Fr.snoc X12 N10 g_b3
  have V12 : Arv Z h12 w4x w5x .char (3 : Int32) [(.int 114), (.int 119), (.int 0)] (.int (0 : Int32)) := Arv.set Ar11 q11 S11 N11z H11 G11 (by decide) W12 1 rfl (Nat.le_of_ble_eq_true rfl)
  have O12 : Old Z n0 h12 := O8.wr W12 g_b3
  obtain ⟨T13, X13, e13, st13⟩ := getS2 X12 hx hZ hown (host := "") (Or.inl (tw hw 37 rfl)) Via.refl e12 (Sg11.ext O12.2) (g := (mkF m 34 #[rv w7] [(.ref w7), (.int 2), (.ref w4x), (.ref w4x), (.ref e1x), (.ref e1x)])) rfl (hb hby d3_34)
  have Z12 : n0 ≤ h12.size := Nat.le_trans Z8 (Keep.of_wr W12).1
  obtain ⟨cq14, q14, q14'⟩ := (E_w7.ext O12.2).cell
  obtain ⟨_, _, ⟨T14, L14, k14x, n14⟩, -, X14, ⟨Lc14, hQ14, l14, y14, z14⟩, st14⟩ := X13.privateBack hx (y := (⟨zs7, "letter", zs3⟩ : MethodName)) hown (mvT hZ (tw hw 26 rfl)) (mvT hZ (tw hw 27 rfl)) (own_selQ hZ (tw hw 9 rfl) (tw hw 28 rfl) (tw hw 27 rfl) (by decide)) (Cond.privateMethod_at (mvP hZ (tw hw 28 rfl) (args := #[]))) (mvT hZ (tw hw 29 rfl)) (by decide) (backOf (W := 5) (rm4_81 l Z a0 hw [] w7 w6 h12 n0 Z12 E_w7 O12 F_w6_bits F_w7_bits) hZ (tw hw 29 rfl) (tw hw 2 rfl) (by decide) (by decide)) (g := (mkF m 39 #[rv w7] [(.int 120), (.ref w6), (.ref w7), (.int 2), (.ref w4x), (.ref w4x), (.ref e1x), (.ref e1x)])) rfl (by rw [hml]; rfl) (Steps.refl _) (a := w7) (by rw [e13]; exact q14) q14' (argsL := [(.ref w6), (.int 120)]) (rest := [(.int 2), (.ref w4x), (.ref w4x), (.ref e1x), (.ref e1x)]) (lenOf pd_3 rfl) rfl (Nat.le_of_eq rfl) (hb hby d3_39) (fun _ _ => ⟨rfl, e13, (by decide : 2 + 0 ≤ _), (by decide : 7 + 0 ≤ _)⟩)
  dsimp only [Pt.U, Pt.locs, Pt.cells, Pt.slots] at X14 l14 y14 z14 st14 hQ14
  subst l14 y14 z14
  obtain ⟨rfl, N14q, e14⟩ := hQ14
  have N14 := Fr.app N12 N14q
  obtain ⟨cl15, Ar15, q15, S15, N15z, H15, G15⟩ := id V12
  have hin15 : ¬ ((2 : Int32) < 0 ∨ cl15.slots.size ≤ ((2 : Int32)).toNatClampNeg) := inb_of S15 ⟨by decide, by decide⟩
  obtain ⟨T16, h16, X16, e16, W16, st16⟩ := stC X14 hx hZ e14 Ar15 (j := (2 : Int32)) hin15 (g := (mkF m 42 #[rv w7] [(.int 45), (.int 2), (.ref w4x), (.ref w4x), (.ref e1x), (.ref e1x)])) rfl rfl (hb hby d3_42)
  have K16 : Keep h0 h16 [] := K12.wr W16 (Or.inr sz0_b3)
  have N16 := Fr.snoc X16 N14 g_b3
  have V16 : Arv Z h16 w4x w5x .char (3 : Int32) [(.int 114), (.int 119), (.int 45)] (.int (0 : Int32)) := Arv.set Ar15 q15 S15 N15z H15 G15 (by decide) W16 2 rfl (Nat.le_of_ble_eq_true rfl)
  have F2_17 : Exa Z h4 e1x "java/lang/String" := A1.ext E4
  have F3_18 : Exa Z h8 e1x "java/lang/String" := F2_17.wr W8
  have F4_19 : Exa Z h12 e1x "java/lang/String" := F3_18.wr W12
  have F5_20 : Exa Z h16 e1x "java/lang/String" := F4_19.wr W16
  have F2_21 : Fld Z h4 e1x "java/lang/String" "value" "[B" .null := Fn3.ext E4
  have F3_22 : Fld Z h8 e1x "java/lang/String" "value" "[B" .null := F2_21.other W8 (Or.inl (Nat.ne_of_lt (Nat.lt_of_lt_of_le A1.lt (Nat.le_of_eq g4.symm))))
  have F4_23 : Fld Z h12 e1x "java/lang/String" "value" "[B" .null := F3_22.other W12 (Or.inl (Nat.ne_of_lt (Nat.lt_of_lt_of_le A1.lt (Nat.le_of_eq g4.symm))))
  have F5_24 : Fld Z h16 e1x "java/lang/String" "value" "[B" .null := F4_23.other W16 (Or.inl (Nat.ne_of_lt (Nat.lt_of_lt_of_le A1.lt (Nat.le_of_eq g4.symm))))
  have F2_25 : Fld Z h4 e1x "java/lang/String" "coder" "B" (.int 0) := Fn2.ext E4
  have F3_26 : Fld Z h8 e1x "java/lang/String" "coder" "B" (.int 0) := F2_25.other W8 (Or.inl (Nat.ne_of_lt (Nat.lt_of_lt_of_le A1.lt (Nat.le_of_eq g4.symm))))
  have F4_27 : Fld Z h12 e1x "java/lang/String" "coder" "B" (.int 0) := F3_26.other W12 (Or.inl (Nat.ne_of_lt (Nat.lt_of_lt_of_le A1.lt (Nat.le_of_eq g4.symm))))
  have F5_28 : Fld Z h16 e1x "java/lang/String" "coder" "B" (.int 0) := F4_27.other W16 (Or.inl (Nat.ne_of_lt (Nat.lt_of_lt_of_le A1.lt (Nat.le_of_eq g4.symm))))
  have hwwords : ∀ d ∈ StrChars.Road.words, d.before a0 Z = true := fun d hd => hw d (own_words d hd)
  have hp29 : ∀ c ∈ ([(114 : Int32), (119 : Int32), (45 : Int32)] : List Int32), ¬ c < 0 ∧ ¬ (255 : Int32) < c := by
    intro c hc
    simp only [List.mem_cons, List.not_mem_nil, or_false] at hc
    rcases hc with rfl | rfl | rfl
    · decide
    · decide
    · decide
  have O16 : Old Z n0 h16 := O12.wr W16 g_b3
  have g_b1 : n0 ≤ e1x := Nat.le_trans Z0 (Nat.le_of_eq g1.symm)
  have Z16 : n0 ≤ h16.size := Nat.le_trans Z12 (Keep.of_wr W16).1
  obtain ⟨_, _, ⟨T30, L30, k30x, n30⟩, -, X30, ⟨Lc30, hQ30, l30, y30, z30⟩, st30⟩ := X16.specialBack hx (y := (⟨"java/lang/String", "<init>", "([C)V"⟩ : MethodName)) rfl hown (mvT hZ (tw hw 39 rfl)) (mvT hZ (tw hw 40 rfl)) (mvT hZ (tw hw 41 rfl)) (by decide) (StrChars.Road.backV (W := 1) hZ hwwords (kI := 4) (tw hw 21 rfl) (cs := ([(114 : Int32), (119 : Int32), (45 : Int32)] : List Int32)) (bs := ((([(114 : Int32), (119 : Int32), (45 : Int32)] : List Int32)).map (fun c => c.toInt8.toInt32))) (n := 3) g_b1 Z16 F5_20 F5_24 F5_28 V16 (Sg0.ext O16.2) nzGC rfl rfl (by decide) (by decide) hp29 rfl (by decide) (by decide)) (g := (mkF m 43 #[rv w7] [(.ref w4x), (.ref e1x), (.ref e1x)])) rfl (by rw [hml]; rfl) (Steps.refl _) (a := e1x) (argsL := [(.ref w4x)]) (rest := [(.ref e1x)]) (lenOf pd_4 rfl) rfl (Nat.le_of_eq rfl) (hb hby d3_43) (fun _ _ => ⟨rfl, e16, (by decide : 2 + 1 ≤ _), (by decide : 7 + 3 ≤ _)⟩)
  dsimp only [Pt.U, Pt.locs, Pt.cells, Pt.slots] at X30 l30 y30 z30 st30 hQ30
  subst l30 y30 z30
  obtain ⟨rfl, N30q, K30c, Fx30, Fc30, e2x, e3x, gt30, bz_b4, ne30, Fv30, Va30⟩ := hQ30
  have sz0_b1 : h0.size ≤ e1x := Nat.le_trans (Keep.refl h0 []).1 (Nat.le_of_eq g1.symm)
  have K30 : Keep h0 T30.heap [] := K16.trans K30c (allS (Or.inr sz0_b1) all0)
  have N30 := Fr.app N16 N30q
  have sz0_b4 : h0.size ≤ e2x := Nat.le_trans K16.1 bz_b4
  have lt_b1_2 : e1x < h4.size := Nat.lt_of_lt_of_le A1.lt E4.1
  have lt_b1_3 : e1x < h8.size := Nat.lt_of_lt_of_le lt_b1_2 (Keep.of_wr W8).1
  have lt_b1_4 : e1x < h12.size := Nat.lt_of_lt_of_le lt_b1_3 (Keep.of_wr W12).1
  have lt_b1_5 : e1x < h16.size := Nat.lt_of_lt_of_le lt_b1_4 (Keep.of_wr W16).1
  obtain ⟨fs, hr, hrun, hended, hW, hsame⟩ := X30.leave (v := some (.ref e1x)) (fun h => by rw [hre] at h; cases h)
  refine ⟨_, _, pre0 _ ?_, hrun, hended, _, _, rfl, ?_, ⟨_, rfl⟩, hW, hsame.mono (by decide) (by decide)⟩
  · show SF p e below s₁ (mkF m 0 #[rv w7] []) _
    refine st1 _ ?_
    show SF p e below T1 (mkF m 3 #[rv w7] [(.ref e1x)]) _
    refine XS.dup X1.here hx rfl (hb hby d3_3) rfl rfl ?_
    refine XS.iconst X1.here hx rfl (hb hby d3_4) ?_
    show SF p e below T1 (mkF m 5 #[rv w7] [(.int 3), (.ref e1x), (.ref e1x)]) _
    refine st4 _ ?_
    show SF p e below T4 (mkF m 7 #[rv w7] [(.ref w4x), (.ref e1x), (.ref e1x)]) _
    refine XS.dup X4.here hx rfl (hb hby d3_7) rfl rfl ?_
    refine XS.iconst X4.here hx rfl (hb hby d3_8) ?_
    show SF p e below T4 (mkF m 9 #[rv w7] [(.int 0), (.ref w4x), (.ref w4x), (.ref e1x), (.ref e1x)]) _
    refine XS.aloadN X4.here hx rfl (hb hby d3_9) rfl rfl ?_
    show SF p e below T4 (mkF m 10 #[rv w7] [(.ref w7), (.int 0), (.ref w4x), (.ref w4x), (.ref e1x), (.ref e1x)]) _
    refine st5 _ ?_
    show SF p e below T5 (mkF m 13 #[rv w7] [(.ref w4), (.ref w7), (.int 0), (.ref w4x), (.ref w4x), (.ref e1x), (.ref e1x)]) _
    refine XS.bipush X5.here hx rfl (hb hby d3_13) ?_
    show SF p e below T5 (mkF m 15 #[rv w7] [(.int 114), (.ref w4), (.ref w7), (.int 0), (.ref w4x), (.ref w4x), (.ref e1x), (.ref e1x)]) _
    refine st6.trans ?_
    show SF p e below T6 (mkF m 18 #[rv w7] [(.int 114), (.int 0), (.ref w4x), (.ref w4x), (.ref e1x), (.ref e1x)]) _
    refine st8 _ ?_
    show SF p e below T8 (mkF m 19 #[rv w7] [(.ref w4x), (.ref e1x), (.ref e1x)]) _
    refine XS.dup X8.here hx rfl (hb hby d3_19) rfl rfl ?_
    refine XS.iconst X8.here hx rfl (hb hby d3_20) ?_
    show SF p e below T8 (mkF m 21 #[rv w7] [(.int 1), (.ref w4x), (.ref w4x), (.ref e1x), (.ref e1x)]) _
    refine XS.aloadN X8.here hx rfl (hb hby d3_21) rfl rfl ?_
    show SF p e below T8 (mkF m 22 #[rv w7] [(.ref w7), (.int 1), (.ref w4x), (.ref w4x), (.ref e1x), (.ref e1x)]) _
    refine st9 _ ?_
    show SF p e below T9 (mkF m 25 #[rv w7] [(.ref w5), (.ref w7), (.int 1), (.ref w4x), (.ref w4x), (.ref e1x), (.ref e1x)]) _
    refine XS.bipush X9.here hx rfl (hb hby d3_25) ?_
    show SF p e below T9 (mkF m 27 #[rv w7] [(.int 119), (.ref w5), (.ref w7), (.int 1), (.ref w4x), (.ref w4x), (.ref e1x), (.ref e1x)]) _
    refine st10.trans ?_
    show SF p e below T10 (mkF m 30 #[rv w7] [(.int 119), (.int 1), (.ref w4x), (.ref w4x), (.ref e1x), (.ref e1x)]) _
    refine st12 _ ?_
    show SF p e below T12 (mkF m 31 #[rv w7] [(.ref w4x), (.ref e1x), (.ref e1x)]) _
    refine XS.dup X12.here hx rfl (hb hby d3_31) rfl rfl ?_
    refine XS.iconst X12.here hx rfl (hb hby d3_32) ?_
    show SF p e below T12 (mkF m 33 #[rv w7] [(.int 2), (.ref w4x), (.ref w4x), (.ref e1x), (.ref e1x)]) _
    refine XS.aloadN X12.here hx rfl (hb hby d3_33) rfl rfl ?_
    show SF p e below T12 (mkF m 34 #[rv w7] [(.ref w7), (.int 2), (.ref w4x), (.ref w4x), (.ref e1x), (.ref e1x)]) _
    refine st13 _ ?_
    show SF p e below T13 (mkF m 37 #[rv w7] [(.ref w6), (.ref w7), (.int 2), (.ref w4x), (.ref w4x), (.ref e1x), (.ref e1x)]) _
    refine XS.bipush X13.here hx rfl (hb hby d3_37) ?_
    show SF p e below T13 (mkF m 39 #[rv w7] [(.int 120), (.ref w6), (.ref w7), (.int 2), (.ref w4x), (.ref w4x), (.ref e1x), (.ref e1x)]) _
    refine st14.trans ?_
    show SF p e below T14 (mkF m 42 #[rv w7] [(.int 45), (.int 2), (.ref w4x), (.ref w4x), (.ref e1x), (.ref e1x)]) _
    refine st16 _ ?_
    show SF p e below T16 (mkF m 43 #[rv w7] [(.ref w4x), (.ref e1x), (.ref e1x)]) _
    refine st30.trans ?_
    show SF p e below T30 (mkF m 46 #[rv w7] [(.ref e1x)]) _
    exact own_retR X30 hx hre rfl rfl (hb hby d3_46) hr
  · show Q3_82 Z w7 w4 w5 w6 GC h0 n0 _ T30.heap _
    exact ⟨e1x, e2x, e3x, sz0_b1, sz0_b4, (Nat.ne_of_lt (Nat.lt_of_lt_of_le lt_b1_5 bz_b4)), rfl, N30, K30, Fx30, Fc30, Fv30, Va30⟩
-- RightsOfPinLaw.expect 
def Q19_83 (Z : State)  (h0 : Heap) (n0 : Nat) (v : Option Value) (h : Heap) (L : List Loc) : Prop := v = some (.int 114) ∧ Fr n0 L ∧ h = h0
set_option maxRecDepth 65536 in
set_option maxHeartbeats 40000000 in
theorem rm19_83 (l : Launch) (Z : State) (a0 : Array Value) (hw : HW Z a0) (ws : List Jvm.Cond)  (h0 : Heap) (n0 : Nat) (Z0 : n0 ≤ h0.size) :
    MF l Z (⟨zs8, "expect", "(IIC)C"⟩ : MethodName) (Jvm.Cond.code (⟨zs8, "expect", "(IIC)C"⟩ : MethodName) method_2_code 3 (some .char)) ws ({ frames := 0, cells := 0, slots := 0, locals := 0 } : Room) #[(.int 6), (.int 4), (.int 114)] h0 (Q19_83 Z  h0 n0) := by
  refine own_enter (plainFor_of_name pn_1) fun p e s m below meth c s₁ X0 hx hby hml hown hnm hZ e0 hre hlk => ?_
  have N0 := Fr.nil n0
  have pre0 : ∀ t, SF p e below s₁ (mkF m 0 #[iv 6, iv 4, iv 114] []) t → SF p e below s₁ (entryFrame m #[(.int 6), (.int 4), (.int 114)] 3) t := fun t k => castTop (ef_5 m (6 : Int32) (4 : Int32) (114 : Int32)) k
  obtain ⟨fs, hr, hrun, hended, hW, hsame⟩ := X0.leave (v := some (.int 114)) (fun h => by rw [hre] at h; cases h)
  refine ⟨_, _, pre0 _ ?_, hrun, hended, _, _, rfl, ?_, ⟨_, rfl⟩, hW, hsame.mono (by decide) (by decide)⟩
  · show SF p e below s₁ (mkF m 0 #[iv 6, iv 4, iv 114] []) _
    refine XS.iloadN X0.here hx rfl (hb hby d19_0) rfl ?_
    refine XS.iloadN X0.here hx rfl (hb hby d19_1) rfl ?_
    show SF p e below s₁ (mkF m 2 #[iv 6, iv 4, iv 114] [(.int 4), (.int 6)]) _
    refine XS.iand X0.here hx rfl (hb hby d19_2) rfl ?_
    show SF p e below s₁ (mkF m 3 #[iv 6, iv 4, iv 114] [(.int ((6 : Int32) &&& (4 : Int32)))]) _
    rw [show ((6 : Int32) &&& (4 : Int32)) = (4 : Int32) from by decide]
    show SF p e below s₁ (mkF m 3 #[iv 6, iv 4, iv 114] [(.int 4)]) _
    refine XS.ifNo X0.here hx rfl (hb hby d19_3) rfl ((if0 _ _).trans (feq (by decide : ¬ ((4 : Int32) = (0 : Int32)))).1) ?_
    show SF p e below s₁ (mkF m 6 #[iv 6, iv 4, iv 114] []) _
    refine XS.iloadN X0.here hx rfl (hb hby d19_6) rfl ?_
    refine XS.goto X0.here hx rfl (pc0 := 7) (pc' := 12) rfl (hb hby d19_7) (by decide) (by decide) ?_
    show SF p e below s₁ (mkF m 12 #[iv 6, iv 4, iv 114] [(.int 114)]) _
    exact retN X0 hx (t := .char) hre (by simp) (hb hby d19_12) hr
  · show Q19_83 Z  h0 n0 _ s₁.heap _
    rw [e0]
    exact ⟨rfl, N0, rfl⟩
-- RightsOfPinLaw.expect 
def Q19_84 (Z : State)  (h0 : Heap) (n0 : Nat) (v : Option Value) (h : Heap) (L : List Loc) : Prop := v = some (.int 119) ∧ Fr n0 L ∧ h = h0
set_option maxRecDepth 65536 in
set_option maxHeartbeats 40000000 in
theorem rm19_84 (l : Launch) (Z : State) (a0 : Array Value) (hw : HW Z a0) (ws : List Jvm.Cond)  (h0 : Heap) (n0 : Nat) (Z0 : n0 ≤ h0.size) :
    MF l Z (⟨zs8, "expect", "(IIC)C"⟩ : MethodName) (Jvm.Cond.code (⟨zs8, "expect", "(IIC)C"⟩ : MethodName) method_2_code 3 (some .char)) ws ({ frames := 0, cells := 0, slots := 0, locals := 0 } : Room) #[(.int 6), (.int 2), (.int 119)] h0 (Q19_84 Z  h0 n0) := by
  refine own_enter (plainFor_of_name pn_1) fun p e s m below meth c s₁ X0 hx hby hml hown hnm hZ e0 hre hlk => ?_
  have N0 := Fr.nil n0
  have pre0 : ∀ t, SF p e below s₁ (mkF m 0 #[iv 6, iv 2, iv 119] []) t → SF p e below s₁ (entryFrame m #[(.int 6), (.int 2), (.int 119)] 3) t := fun t k => castTop (ef_5 m (6 : Int32) (2 : Int32) (119 : Int32)) k
  obtain ⟨fs, hr, hrun, hended, hW, hsame⟩ := X0.leave (v := some (.int 119)) (fun h => by rw [hre] at h; cases h)
  refine ⟨_, _, pre0 _ ?_, hrun, hended, _, _, rfl, ?_, ⟨_, rfl⟩, hW, hsame.mono (by decide) (by decide)⟩
  · show SF p e below s₁ (mkF m 0 #[iv 6, iv 2, iv 119] []) _
    refine XS.iloadN X0.here hx rfl (hb hby d19_0) rfl ?_
    refine XS.iloadN X0.here hx rfl (hb hby d19_1) rfl ?_
    show SF p e below s₁ (mkF m 2 #[iv 6, iv 2, iv 119] [(.int 2), (.int 6)]) _
    refine XS.iand X0.here hx rfl (hb hby d19_2) rfl ?_
    show SF p e below s₁ (mkF m 3 #[iv 6, iv 2, iv 119] [(.int ((6 : Int32) &&& (2 : Int32)))]) _
    rw [show ((6 : Int32) &&& (2 : Int32)) = (2 : Int32) from by decide]
    show SF p e below s₁ (mkF m 3 #[iv 6, iv 2, iv 119] [(.int 2)]) _
    refine XS.ifNo X0.here hx rfl (hb hby d19_3) rfl ((if0 _ _).trans (feq (by decide : ¬ ((2 : Int32) = (0 : Int32)))).1) ?_
    show SF p e below s₁ (mkF m 6 #[iv 6, iv 2, iv 119] []) _
    refine XS.iloadN X0.here hx rfl (hb hby d19_6) rfl ?_
    refine XS.goto X0.here hx rfl (pc0 := 7) (pc' := 12) rfl (hb hby d19_7) (by decide) (by decide) ?_
    show SF p e below s₁ (mkF m 12 #[iv 6, iv 2, iv 119] [(.int 119)]) _
    exact retN X0 hx (t := .char) hre (by simp) (hb hby d19_12) hr
  · show Q19_84 Z  h0 n0 _ s₁.heap _
    rw [e0]
    exact ⟨rfl, N0, rfl⟩
-- RightsOfPinLaw.expect 
def Q19_85 (Z : State)  (h0 : Heap) (n0 : Nat) (v : Option Value) (h : Heap) (L : List Loc) : Prop := v = some (.int 45) ∧ Fr n0 L ∧ h = h0
set_option maxRecDepth 65536 in
set_option maxHeartbeats 40000000 in
theorem rm19_85 (l : Launch) (Z : State) (a0 : Array Value) (hw : HW Z a0) (ws : List Jvm.Cond)  (h0 : Heap) (n0 : Nat) (Z0 : n0 ≤ h0.size) :
    MF l Z (⟨zs8, "expect", "(IIC)C"⟩ : MethodName) (Jvm.Cond.code (⟨zs8, "expect", "(IIC)C"⟩ : MethodName) method_2_code 3 (some .char)) ws ({ frames := 0, cells := 0, slots := 0, locals := 0 } : Room) #[(.int 6), (.int 1), (.int 120)] h0 (Q19_85 Z  h0 n0) := by
  refine own_enter (plainFor_of_name pn_1) fun p e s m below meth c s₁ X0 hx hby hml hown hnm hZ e0 hre hlk => ?_
  have N0 := Fr.nil n0
  have pre0 : ∀ t, SF p e below s₁ (mkF m 0 #[iv 6, iv 1, iv 120] []) t → SF p e below s₁ (entryFrame m #[(.int 6), (.int 1), (.int 120)] 3) t := fun t k => castTop (ef_5 m (6 : Int32) (1 : Int32) (120 : Int32)) k
  obtain ⟨fs, hr, hrun, hended, hW, hsame⟩ := X0.leave (v := some (.int 45)) (fun h => by rw [hre] at h; cases h)
  refine ⟨_, _, pre0 _ ?_, hrun, hended, _, _, rfl, ?_, ⟨_, rfl⟩, hW, hsame.mono (by decide) (by decide)⟩
  · show SF p e below s₁ (mkF m 0 #[iv 6, iv 1, iv 120] []) _
    refine XS.iloadN X0.here hx rfl (hb hby d19_0) rfl ?_
    refine XS.iloadN X0.here hx rfl (hb hby d19_1) rfl ?_
    show SF p e below s₁ (mkF m 2 #[iv 6, iv 1, iv 120] [(.int 1), (.int 6)]) _
    refine XS.iand X0.here hx rfl (hb hby d19_2) rfl ?_
    show SF p e below s₁ (mkF m 3 #[iv 6, iv 1, iv 120] [(.int ((6 : Int32) &&& (1 : Int32)))]) _
    rw [show ((6 : Int32) &&& (1 : Int32)) = (0 : Int32) from by decide]
    show SF p e below s₁ (mkF m 3 #[iv 6, iv 1, iv 120] [(.int 0)]) _
    refine XS.ifYes X0.here hx rfl (pc0 := 3) (pc' := 10) rfl (hb hby d19_3) rfl ((if0 _ _).trans (teq (by decide : (0 : Int32) = (0 : Int32))).1) (by decide) (by decide) ?_
    show SF p e below s₁ (mkF m 10 #[iv 6, iv 1, iv 120] []) _
    refine XS.bipush X0.here hx rfl (hb hby d19_10) ?_
    show SF p e below s₁ (mkF m 12 #[iv 6, iv 1, iv 120] [(.int 45)]) _
    exact retN X0 hx (t := .char) hre (by simp) (hb hby d19_12) hr
  · show Q19_85 Z  h0 n0 _ s₁.heap _
    rw [e0]
    exact ⟨rfl, N0, rfl⟩
set_option maxRecDepth 65536 in
set_option maxHeartbeats 400000000 in
theorem pc_20 {p : Program} {l : Launch} {e : Env} {s : State} {m : MethodId} {below : List Frame} {meth : Method} {c : Code} {T0 : State} {locs : List Loc} {Z : State} {a0 : Array Value} {h0 : Heap} {n0 : Nat} {p0s : Int32} {p1s : Int32} {GC : Int32} {GF : Value} {w4 : Addr} {w5 : Addr} {w6 : Addr} {w7 : Addr} {dv3 : Int32} {dv5 : Addr} (X0 : Stand p l e room_1 s m #[(.int p0s), (.int p1s)] below meth c T0 locs 0 0) (hx : p.tables.exec = Jvm.exec) (hZ : Z.Warmed39 s.vm) (hw : HW Z a0) (hby : c.code = code) (hml : c.maxLocals = 7) (hown : s.vm.findClass zs8 = some m.cls) (hre : meth.sig.returnType = some .boolean) (hlk : meth.locks = false) (e0 : T0.heap = h0) (N0 : Fr n0 locs) (Z0 : n0 ≤ h0.size) (O0 : Old Z n0 h0) (Sg0 : Sta Z Z.heap "java/lang/String" "COMPACT_STRINGS" "Z" (.int GC)) (Sg1 : Sta Z Z.heap zs9 "SIOOBE_FORMATTER" zs5 GF) (rGF : GF.isRef = true) (nzGC : ¬ (GC = (0 : Int32))) (Sg7 : Sta Z Z.heap zs7 "READ" zs4 (.ref w4)) (Sg9 : Sta Z Z.heap zs7 "WRITE" zs4 (.ref w5)) (Sg11 : Sta Z Z.heap zs7 "EXECUTE" zs4 (.ref w6)) (E_w7 : Exa Z Z.heap w7 zs7) (F_w4_bits : Fld Z Z.heap w4 zs7 "bits" "I" (.int 4)) (F_w5_bits : Fld Z Z.heap w5 zs7 "bits" "I" (.int 2)) (F_w6_bits : Fld Z Z.heap w6 zs7 "bits" "I" (.int 1)) (F_w7_bits : Fld Z Z.heap w7 zs7 "bits" "I" (.int 6)) :
    Fine p e below s n0 (T0.setTop (mkF m 72 #[iv p0s, iv p1s, iv 6, iv dv3, rv w7, rv dv5, .unset] [])) := by
  obtain ⟨cq1, kq1, q1a, q1b, q1c⟩ := isOf hZ e0 (E_w7.ext O0.2)
  obtain ⟨_, _, ⟨T1, L1, k1x, n1⟩, -, X1, ⟨Lc1, hQ1, l1, y1, z1⟩, st1⟩ := X0.virtualBack hx (y := (⟨zs7, "toString", zs0⟩ : MethodName)) (z := (⟨zs7, "toString", zs0⟩ : MethodName)) hown (mvT hZ (tw hw 15 rfl)) (mvT hZ (tw hw 16 rfl)) (notFace_of_selects (args := #[]) (mvT hZ (tw hw 18 rfl))) (mvT hZ (tw hw 18 rfl)) (mvT hZ (tw hw 17 rfl)) (by decide) (backOf (W := 0) (rm3_82 l Z a0 hw [] w7 w4 w5 w6 GC h0 n0 Z0 Sg7 O0 E_w7 F_w4_bits F_w7_bits Sg9 F_w5_bits Sg11 F_w6_bits Sg0 nzGC) hZ (tw hw 19 rfl) (tw hw 2 rfl) (by decide) (by decide)) q1a q1c (g := (mkF m 133 #[iv p0s, iv p1s, iv 6, iv dv3, rv w7, rv dv5, .unset] [(.ref w7)])) rfl (by rw [hml]; rfl) (Steps.refl _) (argsL := []) (rest := []) (lenOf pd_5 rfl) rfl (Nat.le_of_eq rfl) (hb hby at_133) (fun _ _ => ⟨rfl, e0, (by decide : 0 + 3 ≤ _), (by decide : 0 + 10 ≤ _)⟩)
  dsimp only [Pt.U, Pt.locs, Pt.cells, Pt.slots] at X1 l1 y1 z1 st1 hQ1
  subst l1 y1 z1
  obtain ⟨b6, b7, k8, bz_b6, bz_b7, bn1_0, rfl, N1q, K1c, Fq1_0, Fq1_1, Fq1_2, Fq1_3⟩ := hQ1
  have N1 := Fr.app N0 N1q
  have hwwordsLen : ∀ d ∈ StrChars.Road.wordsLen, d.before a0 Z = true := fun d hd => hw d (own_wordsLen d hd)
  have hp2 : ∀ c ∈ ([(114 : Int32), (119 : Int32), (45 : Int32)] : List Int32), ¬ c < 0 ∧ ¬ (255 : Int32) < c := by
    intro c hc
    simp only [List.mem_cons, List.not_mem_nil, or_false] at hc
    rcases hc with rfl | rfl | rfl
    · decide
    · decide
    · decide
  have hcd3 : StrChars.Road.CodA ([(114 : Int32), (119 : Int32), (45 : Int32)] : List Int32) 0 (3 : Int32) (((([(114 : Int32), (119 : Int32), (45 : Int32)] : List Int32)).map (fun c => c.toInt8.toInt32)).map Value.int) := StrChars.Road.codOf (n := 3) rfl (fun c hc => (hp2 c hc).2)
  have hbd3 : ∀ c ∈ ([(114 : Int32), (119 : Int32), (45 : Int32)] : List Int32), ¬ c < 0 ∧ ¬ (65535 : Int32) < c := own_up _ hp2
  have O1 : Old Z n0 T1.heap := O0.keep K1c all0
  obtain ⟨cq4, kq4, q4a, q4b, q4c⟩ := isOf hZ rfl Fq1_0
  obtain ⟨_, _, ⟨T4, L4, k4x, n4⟩, -, X4, ⟨Lc4, hQ4, l4, y4, z4⟩, st4⟩ := X1.virtualBack hx (y := (⟨"java/lang/String", "length", "()I"⟩ : MethodName)) (z := (⟨"java/lang/String", "length", "()I"⟩ : MethodName)) hown (mvT hZ (tw hw 65 rfl)) (mvT hZ (tw hw 66 rfl)) (notFace_of_selects (args := #[]) (mvT hZ (tw hw 68 rfl))) (mvT hZ (tw hw 68 rfl)) (mvT hZ (tw hw 67 rfl)) (by decide) (StrChars.Road.lenW (W := 0) hZ hwwordsLen (kI := 4) (tw hw 21 rfl) Fq1_0 Fq1_2 Fq1_1 Fq1_3 hcd3 hbd3 (Sg0.ext O1.2) nzGC (Nat.le_of_ble_eq_true rfl) (by decide) (by decide)) q4a q4c (g := (mkF m 140 #[iv p0s, iv p1s, iv 6, iv dv3, rv w7, rv dv5, rv b6] [(.ref b6)])) rfl (by rw [hml]; rfl) (Steps.refl _) (argsL := []) (rest := []) (lenOf pd_1 rfl) rfl (Nat.le_of_eq rfl) (hb hby at_140) (fun _ _ => ⟨rfl, rfl, (by decide : 3 + 0 ≤ _), (by decide : 10 + 0 ≤ _)⟩)
  dsimp only [Pt.U, Pt.locs, Pt.cells, Pt.slots] at X4 l4 y4 z4 st4 hQ4
  subst l4 y4 z4
  obtain ⟨rfl, rfl, e4⟩ := hQ4
  have N4 := Fr.app N1 (Fr.nil n0)
  have hwwordsChN : ∀ d ∈ StrChars.Road.wordsChN, d.before a0 Z = true := fun d hd => hw d (own_wordsChN d hd)
  have hp5 : ∀ c ∈ ([(114 : Int32), (119 : Int32), (45 : Int32)] : List Int32), ¬ c < 0 ∧ ¬ (255 : Int32) < c := by
    intro c hc
    simp only [List.mem_cons, List.not_mem_nil, or_false] at hc
    rcases hc with rfl | rfl | rfl
    · decide
    · decide
    · decide
  have hcd6 : StrChars.Road.CodA ([(114 : Int32), (119 : Int32), (45 : Int32)] : List Int32) 0 (3 : Int32) (((([(114 : Int32), (119 : Int32), (45 : Int32)] : List Int32)).map (fun c => c.toInt8.toInt32)).map Value.int) := StrChars.Road.codOf (n := 3) rfl (fun c hc => (hp5 c hc).2)
  have hbd6 : ∀ c ∈ ([(114 : Int32), (119 : Int32), (45 : Int32)] : List Int32), ¬ c < 0 ∧ ¬ (65535 : Int32) < c := own_up _ hp5
  obtain ⟨cq7, kq7, q7a, q7b, q7c⟩ := isOf hZ e4 Fq1_0
  obtain ⟨_, _, ⟨T7, L7, k7x, n7⟩, -, X7, ⟨Lc7, hQ7, l7, y7, z7⟩, st7⟩ := X4.virtualBack hx (y := (⟨"java/lang/String", "charAt", "(I)C"⟩ : MethodName)) (z := (⟨"java/lang/String", "charAt", "(I)C"⟩ : MethodName)) hown (mvT hZ (tw hw 75 rfl)) (mvT hZ (tw hw 76 rfl)) (notFace_of_selects (args := #[]) (mvT hZ (tw hw 78 rfl))) (mvT hZ (tw hw 78 rfl)) (mvT hZ (tw hw 77 rfl)) (by decide) (StrChars.Road.chN (W := 0) hZ hwwordsChN (kI := 4) (tw hw 21 rfl) Fq1_0 Fq1_2 Fq1_1 Fq1_3 hcd6 hbd6 (Sg0.ext O1.2) nzGC (Sg1.ext O1.2) rGF (Nat.le_of_ble_eq_true rfl) (i := 0) (Nat.le_of_ble_eq_true rfl) (j := (0 : Int32)) rfl (by decide) (by decide)) q7a q7c (g := (mkF m 150 #[iv p0s, iv p1s, iv 6, iv dv3, rv w7, rv dv5, rv b6] [(.int 0), (.ref b6)])) rfl (by rw [hml]; rfl) (Steps.refl _) (argsL := [(.int 0)]) (rest := []) (lenOf pd_6 rfl) rfl (Nat.le_of_eq rfl) (hb hby at_150) (fun _ _ => ⟨rfl, e4, (by decide : 3 + 0 ≤ _), (by decide : 10 + 0 ≤ _)⟩)
  dsimp only [Pt.U, Pt.locs, Pt.cells, Pt.slots] at X7 l7 y7 z7 st7 hQ7
  subst l7 y7 z7
  obtain ⟨rfl, rfl, e7⟩ := hQ7
  have N7 := Fr.app N4 (Fr.nil n0)
  have Z1 : n0 ≤ T1.heap.size := Nat.le_trans Z0 K1c.1
  obtain ⟨_, _, ⟨T8, L8, k8x, n8⟩, -, X8, ⟨Lc8, hQ8, l8, y8, z8⟩, st8⟩ := Jvm.LawKit.callS X7 hx (y := (⟨zs8, "expect", "(IIC)C"⟩ : MethodName)) hown (mvT hZ (tw hw 97 rfl)) (mvT hZ (tw hw 98 rfl)) (mvT hZ (tw hw 99 rfl)) (mvT hZ (tw hw 100 rfl)) (by decide) (backOf (W := 1) (rm19_83 l Z a0 hw []  T1.heap n0 Z1 ) hZ (tw hw 100 rfl) (tw hw 99 rfl) (by decide) (by decide)) (g := (mkF m 157 #[iv p0s, iv p1s, iv 6, iv dv3, rv w7, rv dv5, rv b6] [(.int 114), (.int 4), (.int 6), (.int 114)])) rfl (by rw [hml]; rfl) (argsL := [(.int 6), (.int 4), (.int 114)]) (rest := [(.int 114)]) (lenOf pd_7 rfl) rfl (Nat.le_of_eq rfl) (hb hby at_157) (fun _ _ => ⟨rfl, e7, (by decide : 3 + 0 ≤ _), (by decide : 10 + 0 ≤ _)⟩)
  dsimp only [Pt.U, Pt.locs, Pt.cells, Pt.slots] at X8 l8 y8 z8 st8 hQ8
  subst l8 y8 z8
  obtain ⟨rfl, N8q, e8⟩ := hQ8
  have N8 := Fr.app N7 N8q
  have hp9 : ∀ c ∈ ([(114 : Int32), (119 : Int32), (45 : Int32)] : List Int32), ¬ c < 0 ∧ ¬ (255 : Int32) < c := by
    intro c hc
    simp only [List.mem_cons, List.not_mem_nil, or_false] at hc
    rcases hc with rfl | rfl | rfl
    · decide
    · decide
    · decide
  have hcd10 : StrChars.Road.CodA ([(114 : Int32), (119 : Int32), (45 : Int32)] : List Int32) 0 (3 : Int32) (((([(114 : Int32), (119 : Int32), (45 : Int32)] : List Int32)).map (fun c => c.toInt8.toInt32)).map Value.int) := StrChars.Road.codOf (n := 3) rfl (fun c hc => (hp9 c hc).2)
  have hbd10 : ∀ c ∈ ([(114 : Int32), (119 : Int32), (45 : Int32)] : List Int32), ¬ c < 0 ∧ ¬ (65535 : Int32) < c := own_up _ hp9
  obtain ⟨cq11, kq11, q11a, q11b, q11c⟩ := isOf hZ e8 Fq1_0
  obtain ⟨_, _, ⟨T11, L11, k11x, n11⟩, -, X11, ⟨Lc11, hQ11, l11, y11, z11⟩, st11⟩ := X8.virtualBack hx (y := (⟨"java/lang/String", "charAt", "(I)C"⟩ : MethodName)) (z := (⟨"java/lang/String", "charAt", "(I)C"⟩ : MethodName)) hown (mvT hZ (tw hw 75 rfl)) (mvT hZ (tw hw 76 rfl)) (notFace_of_selects (args := #[]) (mvT hZ (tw hw 78 rfl))) (mvT hZ (tw hw 78 rfl)) (mvT hZ (tw hw 77 rfl)) (by decide) (StrChars.Road.chN (W := 0) hZ hwwordsChN (kI := 4) (tw hw 21 rfl) Fq1_0 Fq1_2 Fq1_1 Fq1_3 hcd10 hbd10 (Sg0.ext O1.2) nzGC (Sg1.ext O1.2) rGF (Nat.le_of_ble_eq_true rfl) (i := 1) (Nat.le_of_ble_eq_true rfl) (j := (1 : Int32)) rfl (by decide) (by decide)) q11a q11c (g := (mkF m 166 #[iv p0s, iv p1s, iv 6, iv dv3, rv w7, rv dv5, rv b6] [(.int 1), (.ref b6)])) rfl (by rw [hml]; rfl) (Steps.refl _) (argsL := [(.int 1)]) (rest := []) (lenOf pd_6 rfl) rfl (Nat.le_of_eq rfl) (hb hby at_166) (fun _ _ => ⟨rfl, e8, (by decide : 3 + 0 ≤ _), (by decide : 10 + 0 ≤ _)⟩)
  dsimp only [Pt.U, Pt.locs, Pt.cells, Pt.slots] at X11 l11 y11 z11 st11 hQ11
  subst l11 y11 z11
  obtain ⟨rfl, rfl, e11⟩ := hQ11
  have N11 := Fr.app N8 (Fr.nil n0)
  obtain ⟨_, _, ⟨T12, L12, k12x, n12⟩, -, X12, ⟨Lc12, hQ12, l12, y12, z12⟩, st12⟩ := Jvm.LawKit.callS X11 hx (y := (⟨zs8, "expect", "(IIC)C"⟩ : MethodName)) hown (mvT hZ (tw hw 97 rfl)) (mvT hZ (tw hw 98 rfl)) (mvT hZ (tw hw 99 rfl)) (mvT hZ (tw hw 100 rfl)) (by decide) (backOf (W := 1) (rm19_84 l Z a0 hw []  T1.heap n0 Z1 ) hZ (tw hw 100 rfl) (tw hw 99 rfl) (by decide) (by decide)) (g := (mkF m 173 #[iv p0s, iv p1s, iv 6, iv dv3, rv w7, rv dv5, rv b6] [(.int 119), (.int 2), (.int 6), (.int 119)])) rfl (by rw [hml]; rfl) (argsL := [(.int 6), (.int 2), (.int 119)]) (rest := [(.int 119)]) (lenOf pd_7 rfl) rfl (Nat.le_of_eq rfl) (hb hby at_173) (fun _ _ => ⟨rfl, e11, (by decide : 3 + 0 ≤ _), (by decide : 10 + 0 ≤ _)⟩)
  dsimp only [Pt.U, Pt.locs, Pt.cells, Pt.slots] at X12 l12 y12 z12 st12 hQ12
  subst l12 y12 z12
  obtain ⟨rfl, N12q, e12⟩ := hQ12
  have N12 := Fr.app N11 N12q
  have hp13 : ∀ c ∈ ([(114 : Int32), (119 : Int32), (45 : Int32)] : List Int32), ¬ c < 0 ∧ ¬ (255 : Int32) < c := by
    intro c hc
    simp only [List.mem_cons, List.not_mem_nil, or_false] at hc
    rcases hc with rfl | rfl | rfl
    · decide
    · decide
    · decide
  have hcd14 : StrChars.Road.CodA ([(114 : Int32), (119 : Int32), (45 : Int32)] : List Int32) 0 (3 : Int32) (((([(114 : Int32), (119 : Int32), (45 : Int32)] : List Int32)).map (fun c => c.toInt8.toInt32)).map Value.int) := StrChars.Road.codOf (n := 3) rfl (fun c hc => (hp13 c hc).2)
  have hbd14 : ∀ c ∈ ([(114 : Int32), (119 : Int32), (45 : Int32)] : List Int32), ¬ c < 0 ∧ ¬ (65535 : Int32) < c := own_up _ hp13
  obtain ⟨cq15, kq15, q15a, q15b, q15c⟩ := isOf hZ e12 Fq1_0
  obtain ⟨_, _, ⟨T15, L15, k15x, n15⟩, -, X15, ⟨Lc15, hQ15, l15, y15, z15⟩, st15⟩ := X12.virtualBack hx (y := (⟨"java/lang/String", "charAt", "(I)C"⟩ : MethodName)) (z := (⟨"java/lang/String", "charAt", "(I)C"⟩ : MethodName)) hown (mvT hZ (tw hw 75 rfl)) (mvT hZ (tw hw 76 rfl)) (notFace_of_selects (args := #[]) (mvT hZ (tw hw 78 rfl))) (mvT hZ (tw hw 78 rfl)) (mvT hZ (tw hw 77 rfl)) (by decide) (StrChars.Road.chN (W := 0) hZ hwwordsChN (kI := 4) (tw hw 21 rfl) Fq1_0 Fq1_2 Fq1_1 Fq1_3 hcd14 hbd14 (Sg0.ext O1.2) nzGC (Sg1.ext O1.2) rGF (Nat.le_of_ble_eq_true rfl) (i := 2) (Nat.le_of_ble_eq_true rfl) (j := (2 : Int32)) rfl (by decide) (by decide)) q15a q15c (g := (mkF m 182 #[iv p0s, iv p1s, iv 6, iv dv3, rv w7, rv dv5, rv b6] [(.int 2), (.ref b6)])) rfl (by rw [hml]; rfl) (Steps.refl _) (argsL := [(.int 2)]) (rest := []) (lenOf pd_6 rfl) rfl (Nat.le_of_eq rfl) (hb hby at_182) (fun _ _ => ⟨rfl, e12, (by decide : 3 + 0 ≤ _), (by decide : 10 + 0 ≤ _)⟩)
  dsimp only [Pt.U, Pt.locs, Pt.cells, Pt.slots] at X15 l15 y15 z15 st15 hQ15
  subst l15 y15 z15
  obtain ⟨rfl, rfl, e15⟩ := hQ15
  have N15 := Fr.app N12 (Fr.nil n0)
  obtain ⟨_, _, ⟨T16, L16, k16x, n16⟩, -, X16, ⟨Lc16, hQ16, l16, y16, z16⟩, st16⟩ := Jvm.LawKit.callS X15 hx (y := (⟨zs8, "expect", "(IIC)C"⟩ : MethodName)) hown (mvT hZ (tw hw 97 rfl)) (mvT hZ (tw hw 98 rfl)) (mvT hZ (tw hw 99 rfl)) (mvT hZ (tw hw 100 rfl)) (by decide) (backOf (W := 1) (rm19_85 l Z a0 hw []  T1.heap n0 Z1 ) hZ (tw hw 100 rfl) (tw hw 99 rfl) (by decide) (by decide)) (g := (mkF m 189 #[iv p0s, iv p1s, iv 6, iv dv3, rv w7, rv dv5, rv b6] [(.int 120), (.int 1), (.int 6), (.int 45)])) rfl (by rw [hml]; rfl) (argsL := [(.int 6), (.int 1), (.int 120)]) (rest := [(.int 45)]) (lenOf pd_7 rfl) rfl (Nat.le_of_eq rfl) (hb hby at_189) (fun _ _ => ⟨rfl, e15, (by decide : 3 + 0 ≤ _), (by decide : 10 + 0 ≤ _)⟩)
  dsimp only [Pt.U, Pt.locs, Pt.cells, Pt.slots] at X16 l16 y16 z16 st16 hQ16
  subst l16 y16 z16
  obtain ⟨rfl, N16q, e16⟩ := hQ16
  have N16 := Fr.app N15 N16q
  obtain ⟨fs, hr, hrun, hended, hW, hsame⟩ := X16.leave (v := some (.int (1 : Int32))) (fun h => by rw [hre] at h; cases h)
  refine ⟨_, _, ?_, hrun, hended, _, _, rfl, ?_, ⟨_, rfl⟩, hW, hsame.mono (by decide) (by decide)⟩
  · show SF p e below T0 (mkF m 72 #[iv p0s, iv p1s, iv 6, iv dv3, rv w7, rv dv5, .unset] []) _
    refine XS.iloadN X0.here hx rfl (hb hby at_72) rfl ?_
    show SF p e below T0 (mkF m 73 #[iv p0s, iv p1s, iv 6, iv dv3, rv w7, rv dv5, .unset] [(.int 6)]) _
    refine XS.ifYes X0.here hx rfl (pc0 := 73) (pc' := 86) rfl (hb hby at_73) rfl ((if0 _ _).trans (feq (by decide : ¬ ((6 : Int32) = (0 : Int32)))).2) (by decide) (by decide) ?_
    show SF p e below T0 (mkF m 86 #[iv p0s, iv p1s, iv 6, iv dv3, rv w7, rv dv5, .unset] []) _
    refine XS.iloadN X0.here hx rfl (hb hby at_86) rfl ?_
    refine XS.iconst X0.here hx rfl (hb hby at_87) ?_
    show SF p e below T0 (mkF m 88 #[iv p0s, iv p1s, iv 6, iv dv3, rv w7, rv dv5, .unset] [(.int 4), (.int 6)]) _
    refine XS.icmpYes X0.here hx rfl (pc0 := 88) (pc' := 101) rfl (hb hby at_88) rfl (feq (by decide : ¬ ((6 : Int32) = (4 : Int32)))).2 (by decide) (by decide) ?_
    show SF p e below T0 (mkF m 101 #[iv p0s, iv p1s, iv 6, iv dv3, rv w7, rv dv5, .unset] []) _
    refine XS.iloadN X0.here hx rfl (hb hby at_101) rfl ?_
    refine XS.iconst X0.here hx rfl (hb hby at_102) ?_
    show SF p e below T0 (mkF m 103 #[iv p0s, iv p1s, iv 6, iv dv3, rv w7, rv dv5, .unset] [(.int 2), (.int 6)]) _
    refine XS.icmpYes X0.here hx rfl (pc0 := 103) (pc' := 116) rfl (hb hby at_103) rfl (feq (by decide : ¬ ((6 : Int32) = (2 : Int32)))).2 (by decide) (by decide) ?_
    show SF p e below T0 (mkF m 116 #[iv p0s, iv p1s, iv 6, iv dv3, rv w7, rv dv5, .unset] []) _
    refine XS.iloadN X0.here hx rfl (hb hby at_116) rfl ?_
    refine XS.iconst X0.here hx rfl (hb hby at_117) ?_
    show SF p e below T0 (mkF m 118 #[iv p0s, iv p1s, iv 6, iv dv3, rv w7, rv dv5, .unset] [(.int 1), (.int 6)]) _
    refine XS.icmpYes X0.here hx rfl (pc0 := 118) (pc' := 131) rfl (hb hby at_118) rfl (feq (by decide : ¬ ((6 : Int32) = (1 : Int32)))).2 (by decide) (by decide) ?_
    show SF p e below T0 (mkF m 131 #[iv p0s, iv p1s, iv 6, iv dv3, rv w7, rv dv5, .unset] []) _
    refine XS.aload X0.here hx rfl (hb hby at_131) rfl rfl ?_
    show SF p e below T0 (mkF m 133 #[iv p0s, iv p1s, iv 6, iv dv3, rv w7, rv dv5, .unset] [(.ref w7)]) _
    refine st1.trans ?_
    show SF p e below T1 (mkF m 136 #[iv p0s, iv p1s, iv 6, iv dv3, rv w7, rv dv5, .unset] [(.ref b6)]) _
    refine XS.astore X1.here hx rfl (hb hby at_136) rfl rfl (l' := #[iv p0s, iv p1s, iv 6, iv dv3, rv w7, rv dv5, rv b6]) rfl ?_
    refine XS.aload X1.here hx rfl (hb hby at_138) rfl rfl ?_
    show SF p e below T1 (mkF m 140 #[iv p0s, iv p1s, iv 6, iv dv3, rv w7, rv dv5, rv b6] [(.ref b6)]) _
    refine st4.trans ?_
    show SF p e below T4 (mkF m 143 #[iv p0s, iv p1s, iv 6, iv dv3, rv w7, rv dv5, rv b6] [(.int 3)]) _
    refine XS.iconst X4.here hx rfl (hb hby at_143) ?_
    show SF p e below T4 (mkF m 144 #[iv p0s, iv p1s, iv 6, iv dv3, rv w7, rv dv5, rv b6] [(.int 3), (.int 3)]) _
    refine XS.icmpNo X4.here hx rfl (hb hby at_144) rfl (teq (by decide : (3 : Int32) = (3 : Int32))).2 ?_
    show SF p e below T4 (mkF m 147 #[iv p0s, iv p1s, iv 6, iv dv3, rv w7, rv dv5, rv b6] []) _
    refine XS.aload X4.here hx rfl (hb hby at_147) rfl rfl ?_
    refine XS.iconst X4.here hx rfl (hb hby at_149) ?_
    show SF p e below T4 (mkF m 150 #[iv p0s, iv p1s, iv 6, iv dv3, rv w7, rv dv5, rv b6] [(.int 0), (.ref b6)]) _
    refine st7.trans ?_
    show SF p e below T7 (mkF m 153 #[iv p0s, iv p1s, iv 6, iv dv3, rv w7, rv dv5, rv b6] [(.int 114)]) _
    refine XS.iloadN X7.here hx rfl (hb hby at_153) rfl ?_
    refine XS.iconst X7.here hx rfl (hb hby at_154) ?_
    show SF p e below T7 (mkF m 155 #[iv p0s, iv p1s, iv 6, iv dv3, rv w7, rv dv5, rv b6] [(.int 4), (.int 6), (.int 114)]) _
    refine XS.bipush X7.here hx rfl (hb hby at_155) ?_
    show SF p e below T7 (mkF m 157 #[iv p0s, iv p1s, iv 6, iv dv3, rv w7, rv dv5, rv b6] [(.int 114), (.int 4), (.int 6), (.int 114)]) _
    refine st8 _ ?_
    show SF p e below T8 (mkF m 160 #[iv p0s, iv p1s, iv 6, iv dv3, rv w7, rv dv5, rv b6] [(.int 114), (.int 114)]) _
    refine XS.icmpNo X8.here hx rfl (hb hby at_160) rfl (teq (by decide : (114 : Int32) = (114 : Int32))).2 ?_
    show SF p e below T8 (mkF m 163 #[iv p0s, iv p1s, iv 6, iv dv3, rv w7, rv dv5, rv b6] []) _
    refine XS.aload X8.here hx rfl (hb hby at_163) rfl rfl ?_
    refine XS.iconst X8.here hx rfl (hb hby at_165) ?_
    show SF p e below T8 (mkF m 166 #[iv p0s, iv p1s, iv 6, iv dv3, rv w7, rv dv5, rv b6] [(.int 1), (.ref b6)]) _
    refine st11.trans ?_
    show SF p e below T11 (mkF m 169 #[iv p0s, iv p1s, iv 6, iv dv3, rv w7, rv dv5, rv b6] [(.int 119)]) _
    refine XS.iloadN X11.here hx rfl (hb hby at_169) rfl ?_
    refine XS.iconst X11.here hx rfl (hb hby at_170) ?_
    show SF p e below T11 (mkF m 171 #[iv p0s, iv p1s, iv 6, iv dv3, rv w7, rv dv5, rv b6] [(.int 2), (.int 6), (.int 119)]) _
    refine XS.bipush X11.here hx rfl (hb hby at_171) ?_
    show SF p e below T11 (mkF m 173 #[iv p0s, iv p1s, iv 6, iv dv3, rv w7, rv dv5, rv b6] [(.int 119), (.int 2), (.int 6), (.int 119)]) _
    refine st12 _ ?_
    show SF p e below T12 (mkF m 176 #[iv p0s, iv p1s, iv 6, iv dv3, rv w7, rv dv5, rv b6] [(.int 119), (.int 119)]) _
    refine XS.icmpNo X12.here hx rfl (hb hby at_176) rfl (teq (by decide : (119 : Int32) = (119 : Int32))).2 ?_
    show SF p e below T12 (mkF m 179 #[iv p0s, iv p1s, iv 6, iv dv3, rv w7, rv dv5, rv b6] []) _
    refine XS.aload X12.here hx rfl (hb hby at_179) rfl rfl ?_
    refine XS.iconst X12.here hx rfl (hb hby at_181) ?_
    show SF p e below T12 (mkF m 182 #[iv p0s, iv p1s, iv 6, iv dv3, rv w7, rv dv5, rv b6] [(.int 2), (.ref b6)]) _
    refine st15.trans ?_
    show SF p e below T15 (mkF m 185 #[iv p0s, iv p1s, iv 6, iv dv3, rv w7, rv dv5, rv b6] [(.int 45)]) _
    refine XS.iloadN X15.here hx rfl (hb hby at_185) rfl ?_
    refine XS.iconst X15.here hx rfl (hb hby at_186) ?_
    show SF p e below T15 (mkF m 187 #[iv p0s, iv p1s, iv 6, iv dv3, rv w7, rv dv5, rv b6] [(.int 1), (.int 6), (.int 45)]) _
    refine XS.bipush X15.here hx rfl (hb hby at_187) ?_
    show SF p e below T15 (mkF m 189 #[iv p0s, iv p1s, iv 6, iv dv3, rv w7, rv dv5, rv b6] [(.int 120), (.int 1), (.int 6), (.int 45)]) _
    refine st16 _ ?_
    show SF p e below T16 (mkF m 192 #[iv p0s, iv p1s, iv 6, iv dv3, rv w7, rv dv5, rv b6] [(.int 45), (.int 45)]) _
    refine XS.icmpNo X16.here hx rfl (hb hby at_192) rfl (teq (by decide : (45 : Int32) = (45 : Int32))).2 ?_
    show SF p e below T16 (mkF m 195 #[iv p0s, iv p1s, iv 6, iv dv3, rv w7, rv dv5, rv b6] []) _
    refine XS.iconst X16.here hx rfl (hb hby at_195) ?_
    refine XS.goto X16.here hx rfl (pc0 := 196) (pc' := 200) rfl (hb hby at_196) (by decide) (by decide) ?_
    show SF p e below T16 (mkF m 200 #[iv p0s, iv p1s, iv 6, iv dv3, rv w7, rv dv5, rv b6] [(.int 1)]) _
    exact retN X16 hx (t := .boolean) hre (by simp) (hb hby at_200) hr
  · exact ⟨rfl, N16⟩
set_option maxRecDepth 65536 in
set_option maxHeartbeats 400000000 in
theorem pc_19 {p : Program} {l : Launch} {e : Env} {s : State} {m : MethodId} {below : List Frame} {meth : Method} {c : Code} {T0 : State} {locs : List Loc} {Z : State} {a0 : Array Value} {h0 : Heap} {n0 : Nat} {p0s : Int32} {p1s : Int32} {GC : Int32} {GF : Value} {w4 : Addr} {w5 : Addr} {w6 : Addr} {w7 : Addr} {dv3 : Int32} {dv5 : Addr} (X0 : Stand p l e room_1 s m #[(.int p0s), (.int p1s)] below meth c T0 locs 0 0) (hx : p.tables.exec = Jvm.exec) (hZ : Z.Warmed39 s.vm) (hw : HW Z a0) (hby : c.code = code) (hml : c.maxLocals = 7) (hown : s.vm.findClass zs8 = some m.cls) (hre : meth.sig.returnType = some .boolean) (hlk : meth.locks = false) (e0 : T0.heap = h0) (N0 : Fr n0 locs) (Z0 : n0 ≤ h0.size) (O0 : Old Z n0 h0) (Sg0 : Sta Z Z.heap "java/lang/String" "COMPACT_STRINGS" "Z" (.int GC)) (Sg1 : Sta Z Z.heap zs9 "SIOOBE_FORMATTER" zs5 GF) (rGF : GF.isRef = true) (nzGC : ¬ (GC = (0 : Int32))) (Sg7 : Sta Z Z.heap zs7 "READ" zs4 (.ref w4)) (Sg9 : Sta Z Z.heap zs7 "WRITE" zs4 (.ref w5)) (Sg11 : Sta Z Z.heap zs7 "EXECUTE" zs4 (.ref w6)) (E_w7 : Exa Z Z.heap w7 zs7) (F_w4_bits : Fld Z Z.heap w4 zs7 "bits" "I" (.int 4)) (F_w5_bits : Fld Z Z.heap w5 zs7 "bits" "I" (.int 2)) (F_w6_bits : Fld Z Z.heap w6 zs7 "bits" "I" (.int 1)) (F_w7_bits : Fld Z Z.heap w7 zs7 "bits" "I" (.int 6)) (P1 : ¬ ((6 : Int32) = dv3)) (P2 : w7 ≠ dv5) :
    Fine p e below s n0 (T0.setTop (mkF m 22 #[iv p0s, iv p1s, iv 6, iv dv3, rv w7, rv dv5, .unset] [])) := by
  obtain ⟨cq1, kq1, q1a, q1b, q1c⟩ := isOf hZ e0 (E_w7.ext O0.2)
  obtain ⟨_, _, ⟨T1, L1, k1x, n1⟩, -, X1, ⟨Lc1, hQ1, l1, y1, z1⟩, st1⟩ := X0.virtualBack hx (y := (⟨zs7, "bits", "()I"⟩ : MethodName)) (z := (⟨zs7, "bits", "()I"⟩ : MethodName)) hown (mvT hZ (tw hw 6 rfl)) (mvT hZ (tw hw 7 rfl)) (notFace_of_selects (args := #[]) (mvT hZ (tw hw 9 rfl))) (mvT hZ (tw hw 9 rfl)) (mvT hZ (tw hw 8 rfl)) (by decide) (backOf (W := 0) (rm2_75 l Z a0 hw [] w7 h0 n0 Z0 F_w7_bits O0) hZ (tw hw 10 rfl) (tw hw 2 rfl) (by decide) (by decide)) q1a q1c (g := (mkF m 36 #[iv p0s, iv p1s, iv 6, iv dv3, rv w7, rv dv5, .unset] [(.ref w7)])) rfl (by rw [hml]; rfl) (Steps.refl _) (argsL := []) (rest := []) (lenOf pd_1 rfl) rfl (Nat.le_of_eq rfl) (hb hby at_36) (fun _ _ => ⟨rfl, e0, (by decide : 0 + 0 ≤ _), (by decide : 0 + 0 ≤ _)⟩)
  dsimp only [Pt.U, Pt.locs, Pt.cells, Pt.slots] at X1 l1 y1 z1 st1 hQ1
  subst l1 y1 z1
  obtain ⟨rfl, N1q, e1⟩ := hQ1
  have N1 := Fr.app N0 N1q
  refine Fine.pre (fun t k => ?_) (pc_20 (dv3 := dv3) (dv5 := dv5) X1 hx hZ hw hby hml hown hre hlk e1 N1 Z0 O0 Sg0 Sg1 rGF nzGC Sg7 Sg9 Sg11 E_w7 F_w4_bits F_w5_bits F_w6_bits F_w7_bits )
  show SF p e below T0 (mkF m 22 #[iv p0s, iv p1s, iv 6, iv dv3, rv w7, rv dv5, .unset] []) _
  refine XS.aload X0.here hx rfl (hb hby at_22) rfl rfl ?_
  show SF p e below T0 (mkF m 24 #[iv p0s, iv p1s, iv 6, iv dv3, rv w7, rv dv5, .unset] [(.ref w7)]) _
  refine XS.ifnullNo X0.here hx rfl (hb hby at_24) rfl ?_
  show SF p e below T0 (mkF m 27 #[iv p0s, iv p1s, iv 6, iv dv3, rv w7, rv dv5, .unset] []) _
  refine XS.aload X0.here hx rfl (hb hby at_27) rfl rfl ?_
  show SF p e below T0 (mkF m 29 #[iv p0s, iv p1s, iv 6, iv dv3, rv w7, rv dv5, .unset] [(.ref dv5)]) _
  refine XS.ifnonnullYes X0.here hx rfl (pc0 := 29) (pc' := 34) rfl (hb hby at_29) rfl (by decide) (by decide) ?_
  show SF p e below T0 (mkF m 34 #[iv p0s, iv p1s, iv 6, iv dv3, rv w7, rv dv5, .unset] []) _
  refine XS.aload X0.here hx rfl (hb hby at_34) rfl rfl ?_
  show SF p e below T0 (mkF m 36 #[iv p0s, iv p1s, iv 6, iv dv3, rv w7, rv dv5, .unset] [(.ref w7)]) _
  refine st1.trans ?_
  show SF p e below T1 (mkF m 39 #[iv p0s, iv p1s, iv 6, iv dv3, rv w7, rv dv5, .unset] [(.int 6)]) _
  refine XS.iloadN X1.here hx rfl (hb hby at_39) rfl ?_
  show SF p e below T1 (mkF m 40 #[iv p0s, iv p1s, iv 6, iv dv3, rv w7, rv dv5, .unset] [(.int 6), (.int 6)]) _
  refine XS.icmpYes X1.here hx rfl (pc0 := 40) (pc' := 45) rfl (hb hby at_40) rfl (teq (by decide : (6 : Int32) = (6 : Int32))).1 (by decide) (by decide) ?_
  show SF p e below T1 (mkF m 45 #[iv p0s, iv p1s, iv 6, iv dv3, rv w7, rv dv5, .unset] []) _
  refine XS.aload X1.here hx rfl (hb hby at_45) rfl rfl ?_
  refine XS.aload X1.here hx rfl (hb hby at_47) rfl rfl ?_
  show SF p e below T1 (mkF m 49 #[iv p0s, iv p1s, iv 6, iv dv3, rv w7, rv dv5, .unset] [(.ref dv5), (.ref w7)]) _
  refine Jvm.RoadKit.acmp (g := (mkF m 49 #[iv p0s, iv p1s, iv 6, iv dv3, rv w7, rv dv5, .unset] [(.ref dv5), (.ref w7)])) X1 hx rfl rfl rfl (pc0 := 49) (pc' := 56) (same := false) rfl (hb hby at_49) rfl (decide_eq_false fun q => P2 (Value.ref.inj q)) (by decide) (by decide) ?_
  show SF p e below T1 (mkF m 56 #[iv p0s, iv p1s, iv 6, iv dv3, rv w7, rv dv5, .unset] []) _
  refine XS.iconst X1.here hx rfl (hb hby at_56) ?_
  refine XS.iloadN X1.here hx rfl (hb hby at_57) rfl ?_
  show SF p e below T1 (mkF m 58 #[iv p0s, iv p1s, iv 6, iv dv3, rv w7, rv dv5, .unset] [(.int 6), (.int 0)]) _
  refine XS.iloadN X1.here hx rfl (hb hby at_58) rfl ?_
  show SF p e below T1 (mkF m 59 #[iv p0s, iv p1s, iv 6, iv dv3, rv w7, rv dv5, .unset] [(.int dv3), (.int 6), (.int 0)]) _
  refine XS.icmpYes X1.here hx rfl (pc0 := 59) (pc' := 66) rfl (hb hby at_59) rfl (feq P1).2 (by decide) (by decide) ?_
  show SF p e below T1 (mkF m 66 #[iv p0s, iv p1s, iv 6, iv dv3, rv w7, rv dv5, .unset] [(.int 0)]) _
  refine XS.iconst X1.here hx rfl (hb hby at_66) ?_
  show SF p e below T1 (mkF m 67 #[iv p0s, iv p1s, iv 6, iv dv3, rv w7, rv dv5, .unset] [(.int 0), (.int 0)]) _
  refine XS.icmpYes X1.here hx rfl (pc0 := 67) (pc' := 72) rfl (hb hby at_67) rfl (teq (by decide : (0 : Int32) = (0 : Int32))).1 (by decide) (by decide) ?_
  exact k
set_option maxRecDepth 65536 in
set_option maxHeartbeats 400000000 in
theorem pc_21 {p : Program} {l : Launch} {e : Env} {s : State} {m : MethodId} {below : List Frame} {meth : Method} {c : Code} {T0 : State} {locs : List Loc} {Z : State} {a0 : Array Value} {h0 : Heap} {n0 : Nat} {p0s : Int32} {p1s : Int32} {GC : Int32} {GF : Value} {w4 : Addr} {w5 : Addr} {w6 : Addr} {w7 : Addr}  (X0 : Stand p l e room_1 s m #[(.int p0s), (.int p1s)] below meth c T0 locs 0 0) (hx : p.tables.exec = Jvm.exec) (hZ : Z.Warmed39 s.vm) (hw : HW Z a0) (hby : c.code = code) (hml : c.maxLocals = 7) (hown : s.vm.findClass zs8 = some m.cls) (hre : meth.sig.returnType = some .boolean) (hlk : meth.locks = false) (e0 : T0.heap = h0) (N0 : Fr n0 locs) (Z0 : n0 ≤ h0.size) (O0 : Old Z n0 h0) (Sg0 : Sta Z Z.heap "java/lang/String" "COMPACT_STRINGS" "Z" (.int GC)) (Sg1 : Sta Z Z.heap zs9 "SIOOBE_FORMATTER" zs5 GF) (rGF : GF.isRef = true) (nzGC : ¬ (GC = (0 : Int32))) (Sg7 : Sta Z Z.heap zs7 "READ" zs4 (.ref w4)) (Sg9 : Sta Z Z.heap zs7 "WRITE" zs4 (.ref w5)) (Sg11 : Sta Z Z.heap zs7 "EXECUTE" zs4 (.ref w6)) (E_w7 : Exa Z Z.heap w7 zs7) (F_w4_bits : Fld Z Z.heap w4 zs7 "bits" "I" (.int 4)) (F_w5_bits : Fld Z Z.heap w5 zs7 "bits" "I" (.int 2)) (F_w6_bits : Fld Z Z.heap w6 zs7 "bits" "I" (.int 1)) (F_w7_bits : Fld Z Z.heap w7 zs7 "bits" "I" (.int 6)) :
    Fine p e below s n0 (T0.setTop (mkF m 22 #[iv p0s, iv p1s, iv 6, iv 6, rv w7, rv w7, .unset] [])) := by
  obtain ⟨cq1, kq1, q1a, q1b, q1c⟩ := isOf hZ e0 (E_w7.ext O0.2)
  obtain ⟨_, _, ⟨T1, L1, k1x, n1⟩, -, X1, ⟨Lc1, hQ1, l1, y1, z1⟩, st1⟩ := X0.virtualBack hx (y := (⟨zs7, "bits", "()I"⟩ : MethodName)) (z := (⟨zs7, "bits", "()I"⟩ : MethodName)) hown (mvT hZ (tw hw 6 rfl)) (mvT hZ (tw hw 7 rfl)) (notFace_of_selects (args := #[]) (mvT hZ (tw hw 9 rfl))) (mvT hZ (tw hw 9 rfl)) (mvT hZ (tw hw 8 rfl)) (by decide) (backOf (W := 0) (rm2_75 l Z a0 hw [] w7 h0 n0 Z0 F_w7_bits O0) hZ (tw hw 10 rfl) (tw hw 2 rfl) (by decide) (by decide)) q1a q1c (g := (mkF m 36 #[iv p0s, iv p1s, iv 6, iv 6, rv w7, rv w7, .unset] [(.ref w7)])) rfl (by rw [hml]; rfl) (Steps.refl _) (argsL := []) (rest := []) (lenOf pd_1 rfl) rfl (Nat.le_of_eq rfl) (hb hby at_36) (fun _ _ => ⟨rfl, e0, (by decide : 0 + 0 ≤ _), (by decide : 0 + 0 ≤ _)⟩)
  dsimp only [Pt.U, Pt.locs, Pt.cells, Pt.slots] at X1 l1 y1 z1 st1 hQ1
  subst l1 y1 z1
  obtain ⟨rfl, N1q, e1⟩ := hQ1
  have N1 := Fr.app N0 N1q
  refine Fine.pre (fun t k => ?_) (pc_20 (dv3 := (6 : Int32)) (dv5 := w7) X1 hx hZ hw hby hml hown hre hlk e1 N1 Z0 O0 Sg0 Sg1 rGF nzGC Sg7 Sg9 Sg11 E_w7 F_w4_bits F_w5_bits F_w6_bits F_w7_bits )
  show SF p e below T0 (mkF m 22 #[iv p0s, iv p1s, iv 6, iv 6, rv w7, rv w7, .unset] []) _
  refine XS.aload X0.here hx rfl (hb hby at_22) rfl rfl ?_
  show SF p e below T0 (mkF m 24 #[iv p0s, iv p1s, iv 6, iv 6, rv w7, rv w7, .unset] [(.ref w7)]) _
  refine XS.ifnullNo X0.here hx rfl (hb hby at_24) rfl ?_
  show SF p e below T0 (mkF m 27 #[iv p0s, iv p1s, iv 6, iv 6, rv w7, rv w7, .unset] []) _
  refine XS.aload X0.here hx rfl (hb hby at_27) rfl rfl ?_
  show SF p e below T0 (mkF m 29 #[iv p0s, iv p1s, iv 6, iv 6, rv w7, rv w7, .unset] [(.ref w7)]) _
  refine XS.ifnonnullYes X0.here hx rfl (pc0 := 29) (pc' := 34) rfl (hb hby at_29) rfl (by decide) (by decide) ?_
  show SF p e below T0 (mkF m 34 #[iv p0s, iv p1s, iv 6, iv 6, rv w7, rv w7, .unset] []) _
  refine XS.aload X0.here hx rfl (hb hby at_34) rfl rfl ?_
  show SF p e below T0 (mkF m 36 #[iv p0s, iv p1s, iv 6, iv 6, rv w7, rv w7, .unset] [(.ref w7)]) _
  refine st1.trans ?_
  show SF p e below T1 (mkF m 39 #[iv p0s, iv p1s, iv 6, iv 6, rv w7, rv w7, .unset] [(.int 6)]) _
  refine XS.iloadN X1.here hx rfl (hb hby at_39) rfl ?_
  show SF p e below T1 (mkF m 40 #[iv p0s, iv p1s, iv 6, iv 6, rv w7, rv w7, .unset] [(.int 6), (.int 6)]) _
  refine XS.icmpYes X1.here hx rfl (pc0 := 40) (pc' := 45) rfl (hb hby at_40) rfl (teq (by decide : (6 : Int32) = (6 : Int32))).1 (by decide) (by decide) ?_
  show SF p e below T1 (mkF m 45 #[iv p0s, iv p1s, iv 6, iv 6, rv w7, rv w7, .unset] []) _
  refine XS.aload X1.here hx rfl (hb hby at_45) rfl rfl ?_
  refine XS.aload X1.here hx rfl (hb hby at_47) rfl rfl ?_
  show SF p e below T1 (mkF m 49 #[iv p0s, iv p1s, iv 6, iv 6, rv w7, rv w7, .unset] [(.ref w7), (.ref w7)]) _
  refine Jvm.RoadKit.acmp (g := (mkF m 49 #[iv p0s, iv p1s, iv 6, iv 6, rv w7, rv w7, .unset] [(.ref w7), (.ref w7)])) X1 hx rfl rfl rfl (pc0 := 49) (pc' := 52) (same := true) rfl (hb hby at_49) rfl (decide_eq_true rfl) (by decide) (by decide) ?_
  show SF p e below T1 (mkF m 52 #[iv p0s, iv p1s, iv 6, iv 6, rv w7, rv w7, .unset] []) _
  refine XS.iconst X1.here hx rfl (hb hby at_52) ?_
  refine XS.goto X1.here hx rfl (pc0 := 53) (pc' := 57) rfl (hb hby at_53) (by decide) (by decide) ?_
  show SF p e below T1 (mkF m 57 #[iv p0s, iv p1s, iv 6, iv 6, rv w7, rv w7, .unset] [(.int 1)]) _
  refine XS.iloadN X1.here hx rfl (hb hby at_57) rfl ?_
  refine XS.iloadN X1.here hx rfl (hb hby at_58) rfl ?_
  show SF p e below T1 (mkF m 59 #[iv p0s, iv p1s, iv 6, iv 6, rv w7, rv w7, .unset] [(.int 6), (.int 6), (.int 1)]) _
  refine XS.icmpNo X1.here hx rfl (hb hby at_59) rfl (teq (by decide : (6 : Int32) = (6 : Int32))).2 ?_
  show SF p e below T1 (mkF m 62 #[iv p0s, iv p1s, iv 6, iv 6, rv w7, rv w7, .unset] [(.int 1)]) _
  refine XS.iconst X1.here hx rfl (hb hby at_62) ?_
  refine XS.goto X1.here hx rfl (pc0 := 63) (pc' := 67) rfl (hb hby at_63) (by decide) (by decide) ?_
  show SF p e below T1 (mkF m 67 #[iv p0s, iv p1s, iv 6, iv 6, rv w7, rv w7, .unset] [(.int 1), (.int 1)]) _
  refine XS.icmpYes X1.here hx rfl (pc0 := 67) (pc' := 72) rfl (hb hby at_67) rfl (teq (by decide : (1 : Int32) = (1 : Int32))).1 (by decide) (by decide) ?_
  exact k
-- Rights.bits 
def Q2_86 (Z : State) (w9 : Addr) (h0 : Heap) (n0 : Nat) (v : Option Value) (h : Heap) (L : List Loc) : Prop := v = some (.int 7) ∧ Fr n0 L ∧ h = h0
set_option maxRecDepth 65536 in
set_option maxHeartbeats 40000000 in
theorem rm2_86 (l : Launch) (Z : State) (a0 : Array Value) (hw : HW Z a0) (ws : List Jvm.Cond) (w9 : Addr) (h0 : Heap) (n0 : Nat) (Z0 : n0 ≤ h0.size) (F_w9_bits : Fld Z Z.heap w9 zs7 "bits" "I" (.int 7)) (P2 : Old Z n0 h0) :
    MF l Z (⟨zs7, "bits", "()I"⟩ : MethodName) (Jvm.Cond.code (⟨zs7, "bits", "()I"⟩ : MethodName) prog_35_method_3_code 1 (some .int)) ws ({ frames := 0, cells := 0, slots := 0, locals := 0 } : Room) #[(.ref w9)] h0 (Q2_86 Z w9 h0 n0) := by
  refine own_enter (plainFor_of_name pn_0) fun p e s m below meth c s₁ X0 hx hby hml hown hnm hZ e0 hre hlk => ?_
  have N0 := Fr.nil n0
  have pre0 : ∀ t, SF p e below s₁ (mkF m 0 #[rv w9] []) t → SF p e below s₁ (entryFrame m #[(.ref w9)] 1) t := fun t k => castTop (ef_1 m w9) k
  obtain ⟨T1, X1, e1, st1⟩ := getF X0 hx hZ hown (host := "") (Or.inl (tw hw 11 rfl)) Via.refl e0 (F_w9_bits.ext P2.2) (g := (mkF m 1 #[rv w9] [(.ref w9)])) rfl rfl (hb hby d2_1)
  obtain ⟨fs, hr, hrun, hended, hW, hsame⟩ := X1.leave (v := some (.int 7)) (fun h => by rw [hre] at h; cases h)
  refine ⟨_, _, pre0 _ ?_, hrun, hended, _, _, rfl, ?_, ⟨_, rfl⟩, hW, hsame.mono (by decide) (by decide)⟩
  · show SF p e below s₁ (mkF m 0 #[rv w9] []) _
    refine XS.aloadN X0.here hx rfl (hb hby d2_0) rfl rfl ?_
    show SF p e below s₁ (mkF m 1 #[rv w9] [(.ref w9)]) _
    refine st1 _ ?_
    show SF p e below T1 (mkF m 4 #[rv w9] [(.int 7)]) _
    exact retI X1 hx hre (hb hby d2_4) hr
  · show Q2_86 Z w9 h0 n0 _ T1.heap _
    rw [e1]
    exact ⟨rfl, N0, rfl⟩
-- Rights.containsAll 
def Q5_87 (Z : State) (w9 : Addr) (w4 : Addr) (h0 : Heap) (n0 : Nat) (v : Option Value) (h : Heap) (L : List Loc) : Prop := v = some (.int 1) ∧ Fr n0 L ∧ h = h0
set_option maxRecDepth 65536 in
set_option maxHeartbeats 40000000 in
theorem rm5_87 (l : Launch) (Z : State) (a0 : Array Value) (hw : HW Z a0) (ws : List Jvm.Cond) (w9 : Addr) (w4 : Addr) (h0 : Heap) (n0 : Nat) (Z0 : n0 ≤ h0.size) (F_w4_bits : Fld Z Z.heap w4 zs7 "bits" "I" (.int 4)) (P2 : Old Z n0 h0) (F_w9_bits : Fld Z Z.heap w9 zs7 "bits" "I" (.int 7)) :
    MF l Z (⟨zs7, "containsAll", zs2⟩ : MethodName) (Jvm.Cond.code (⟨zs7, "containsAll", zs2⟩ : MethodName) prog_35_method_4_code 2 (some .boolean)) ws ({ frames := 0, cells := 0, slots := 0, locals := 0 } : Room) #[(.ref w9), (.ref w4)] h0 (Q5_87 Z w9 w4 h0 n0) := by
  refine own_enter (plainFor_of_name pn_0) fun p e s m below meth c s₁ X0 hx hby hml hown hnm hZ e0 hre hlk => ?_
  have N0 := Fr.nil n0
  have pre0 : ∀ t, SF p e below s₁ (mkF m 0 #[rv w9, rv w4] []) t → SF p e below s₁ (entryFrame m #[(.ref w9), (.ref w4)] 2) t := fun t k => castTop (ef_2 m w9 w4) k
  obtain ⟨T1, X1, e1, st1⟩ := getF X0 hx hZ hown (host := "") (Or.inl (tw hw 11 rfl)) Via.refl e0 (F_w4_bits.ext P2.2) (g := (mkF m 1 #[rv w9, rv w4] [(.ref w4)])) rfl rfl (hb hby d5_1)
  obtain ⟨T2, X2, e2, st2⟩ := getF X1 hx hZ hown (host := "") (Or.inl (tw hw 11 rfl)) Via.refl e1 (F_w9_bits.ext P2.2) (g := (mkF m 5 #[rv w9, rv w4] [(.ref w9), (.int 4)])) rfl rfl (hb hby d5_5)
  obtain ⟨fs, hr, hrun, hended, hW, hsame⟩ := X2.leave (v := some (.int 1)) (fun h => by rw [hre] at h; cases h)
  refine ⟨_, _, pre0 _ ?_, hrun, hended, _, _, rfl, ?_, ⟨_, rfl⟩, hW, hsame.mono (by decide) (by decide)⟩
  · show SF p e below s₁ (mkF m 0 #[rv w9, rv w4] []) _
    refine XS.aloadN X0.here hx rfl (hb hby d5_0) rfl rfl ?_
    show SF p e below s₁ (mkF m 1 #[rv w9, rv w4] [(.ref w4)]) _
    refine st1 _ ?_
    show SF p e below T1 (mkF m 4 #[rv w9, rv w4] [(.int 4)]) _
    refine XS.aloadN X1.here hx rfl (hb hby d5_4) rfl rfl ?_
    show SF p e below T1 (mkF m 5 #[rv w9, rv w4] [(.ref w9), (.int 4)]) _
    refine st2 _ ?_
    show SF p e below T2 (mkF m 8 #[rv w9, rv w4] [(.int 7), (.int 4)]) _
    refine XS.iconst X2.here hx rfl (hb hby d5_8) ?_
    show SF p e below T2 (mkF m 9 #[rv w9, rv w4] [(.int (-1)), (.int 7), (.int 4)]) _
    refine XS.ixor X2.here hx rfl (hb hby d5_9) rfl ?_
    show SF p e below T2 (mkF m 10 #[rv w9, rv w4] [(.int ((7 : Int32) ^^^ (-1 : Int32))), (.int 4)]) _
    rw [show ((7 : Int32) ^^^ (-1 : Int32)) = (-8 : Int32) from by decide]
    show SF p e below T2 (mkF m 10 #[rv w9, rv w4] [(.int (-8)), (.int 4)]) _
    refine XS.iand X2.here hx rfl (hb hby d5_10) rfl ?_
    show SF p e below T2 (mkF m 11 #[rv w9, rv w4] [(.int ((4 : Int32) &&& (-8 : Int32)))]) _
    rw [show ((4 : Int32) &&& (-8 : Int32)) = (0 : Int32) from by decide]
    show SF p e below T2 (mkF m 11 #[rv w9, rv w4] [(.int 0)]) _
    refine XS.ifNo X2.here hx rfl (hb hby d5_11) rfl ((if0 _ _).trans (teq (by decide : (0 : Int32) = (0 : Int32))).2) ?_
    show SF p e below T2 (mkF m 14 #[rv w9, rv w4] []) _
    refine XS.iconst X2.here hx rfl (hb hby d5_14) ?_
    refine XS.goto X2.here hx rfl (pc0 := 15) (pc' := 19) rfl (hb hby d5_15) (by decide) (by decide) ?_
    show SF p e below T2 (mkF m 19 #[rv w9, rv w4] [(.int 1)]) _
    exact retN X2 hx (t := .boolean) hre (by simp) (hb hby d5_19) hr
  · show Q5_87 Z w9 w4 h0 n0 _ T2.heap _
    rw [e2]
    exact ⟨rfl, N0, rfl⟩
-- Rights.letter 
def Q4_88 (Z : State) (w9 : Addr) (w4 : Addr) (h0 : Heap) (n0 : Nat) (v : Option Value) (h : Heap) (L : List Loc) : Prop := v = some (.int 114) ∧ Fr n0 L ∧ h = h0
set_option maxRecDepth 65536 in
set_option maxHeartbeats 40000000 in
theorem rm4_88 (l : Launch) (Z : State) (a0 : Array Value) (hw : HW Z a0) (ws : List Jvm.Cond) (w9 : Addr) (w4 : Addr) (h0 : Heap) (n0 : Nat) (Z0 : n0 ≤ h0.size) (E_w9 : Exa Z Z.heap w9 zs7) (P2 : Old Z n0 h0) (F_w4_bits : Fld Z Z.heap w4 zs7 "bits" "I" (.int 4)) (F_w9_bits : Fld Z Z.heap w9 zs7 "bits" "I" (.int 7)) :
    MF l Z (⟨zs7, "letter", zs3⟩ : MethodName) (Jvm.Cond.code (⟨zs7, "letter", zs3⟩ : MethodName) prog_35_method_6_code 3 (some .char)) ws ({ frames := 1, cells := 0, slots := 0, locals := 13 } : Room) #[(.ref w9), (.ref w4), (.int 114)] h0 (Q4_88 Z w9 w4 h0 n0) := by
  refine own_enter (plainFor_of_name pn_0) fun p e s m below meth c s₁ X0 hx hby hml hown hnm hZ e0 hre hlk => ?_
  have N0 := Fr.nil n0
  have pre0 : ∀ t, SF p e below s₁ (mkF m 0 #[rv w9, rv w4, iv 114] []) t → SF p e below s₁ (entryFrame m #[(.ref w9), (.ref w4), (.int 114)] 3) t := fun t k => castTop (ef_3 m w9 w4 (114 : Int32)) k
  obtain ⟨cq1, kq1, q1a, q1b, q1c⟩ := isOf hZ e0 (E_w9.ext P2.2)
  obtain ⟨_, _, ⟨T1, L1, k1x, n1⟩, -, X1, ⟨Lc1, hQ1, l1, y1, z1⟩, st1⟩ := X0.virtualBack hx (y := (⟨zs7, "containsAll", zs2⟩ : MethodName)) (z := (⟨zs7, "containsAll", zs2⟩ : MethodName)) hown (mvT hZ (tw hw 30 rfl)) (mvT hZ (tw hw 31 rfl)) (notFace_of_selects (args := #[]) (mvT hZ (tw hw 33 rfl))) (mvT hZ (tw hw 33 rfl)) (mvT hZ (tw hw 32 rfl)) (by decide) (backOf (W := 0) (rm5_87 l Z a0 hw [] w9 w4 h0 n0 Z0 F_w4_bits P2 F_w9_bits) hZ (tw hw 34 rfl) (tw hw 2 rfl) (by decide) (by decide)) q1a q1c (g := (mkF m 2 #[rv w9, rv w4, iv 114] [(.ref w4), (.ref w9)])) rfl (by rw [hml]; rfl) (Steps.refl _) (argsL := [(.ref w4)]) (rest := []) (lenOf pd_2 rfl) rfl (Nat.le_of_eq rfl) (hb hby d4_2) (fun _ _ => ⟨rfl, e0, (by decide : 0 + 0 ≤ _), (by decide : 0 + 0 ≤ _)⟩)
  dsimp only [Pt.U, Pt.locs, Pt.cells, Pt.slots] at X1 l1 y1 z1 st1 hQ1
  subst l1 y1 z1
  obtain ⟨rfl, N1q, e1⟩ := hQ1
  have N1 := Fr.app N0 N1q
  obtain ⟨fs, hr, hrun, hended, hW, hsame⟩ := X1.leave (v := some (.int 114)) (fun h => by rw [hre] at h; cases h)
  refine ⟨_, _, pre0 _ ?_, hrun, hended, _, _, rfl, ?_, ⟨_, rfl⟩, hW, hsame.mono (by decide) (by decide)⟩
  · show SF p e below s₁ (mkF m 0 #[rv w9, rv w4, iv 114] []) _
    refine XS.aloadN X0.here hx rfl (hb hby d4_0) rfl rfl ?_
    refine XS.aloadN X0.here hx rfl (hb hby d4_1) rfl rfl ?_
    show SF p e below s₁ (mkF m 2 #[rv w9, rv w4, iv 114] [(.ref w4), (.ref w9)]) _
    refine st1.trans ?_
    show SF p e below T1 (mkF m 5 #[rv w9, rv w4, iv 114] [(.int 1)]) _
    refine XS.ifNo X1.here hx rfl (hb hby d4_5) rfl ((if0 _ _).trans (feq (by decide : ¬ ((1 : Int32) = (0 : Int32)))).1) ?_
    show SF p e below T1 (mkF m 8 #[rv w9, rv w4, iv 114] []) _
    refine XS.iloadN X1.here hx rfl (hb hby d4_8) rfl ?_
    refine XS.goto X1.here hx rfl (pc0 := 9) (pc' := 14) rfl (hb hby d4_9) (by decide) (by decide) ?_
    show SF p e below T1 (mkF m 14 #[rv w9, rv w4, iv 114] [(.int 114)]) _
    exact retN X1 hx (t := .char) hre (by simp) (hb hby d4_14) hr
  · show Q4_88 Z w9 w4 h0 n0 _ T1.heap _
    rw [e1]
    exact ⟨rfl, N1, rfl⟩
-- Rights.containsAll 
def Q5_89 (Z : State) (w9 : Addr) (w5 : Addr) (h0 : Heap) (n0 : Nat) (v : Option Value) (h : Heap) (L : List Loc) : Prop := v = some (.int 1) ∧ Fr n0 L ∧ h = h0
set_option maxRecDepth 65536 in
set_option maxHeartbeats 40000000 in
theorem rm5_89 (l : Launch) (Z : State) (a0 : Array Value) (hw : HW Z a0) (ws : List Jvm.Cond) (w9 : Addr) (w5 : Addr) (h0 : Heap) (n0 : Nat) (Z0 : n0 ≤ h0.size) (F_w5_bits : Fld Z Z.heap w5 zs7 "bits" "I" (.int 2)) (P2 : Old Z n0 h0) (F_w9_bits : Fld Z Z.heap w9 zs7 "bits" "I" (.int 7)) :
    MF l Z (⟨zs7, "containsAll", zs2⟩ : MethodName) (Jvm.Cond.code (⟨zs7, "containsAll", zs2⟩ : MethodName) prog_35_method_4_code 2 (some .boolean)) ws ({ frames := 0, cells := 0, slots := 0, locals := 0 } : Room) #[(.ref w9), (.ref w5)] h0 (Q5_89 Z w9 w5 h0 n0) := by
  refine own_enter (plainFor_of_name pn_0) fun p e s m below meth c s₁ X0 hx hby hml hown hnm hZ e0 hre hlk => ?_
  have N0 := Fr.nil n0
  have pre0 : ∀ t, SF p e below s₁ (mkF m 0 #[rv w9, rv w5] []) t → SF p e below s₁ (entryFrame m #[(.ref w9), (.ref w5)] 2) t := fun t k => castTop (ef_2 m w9 w5) k
  obtain ⟨T1, X1, e1, st1⟩ := getF X0 hx hZ hown (host := "") (Or.inl (tw hw 11 rfl)) Via.refl e0 (F_w5_bits.ext P2.2) (g := (mkF m 1 #[rv w9, rv w5] [(.ref w5)])) rfl rfl (hb hby d5_1)
  obtain ⟨T2, X2, e2, st2⟩ := getF X1 hx hZ hown (host := "") (Or.inl (tw hw 11 rfl)) Via.refl e1 (F_w9_bits.ext P2.2) (g := (mkF m 5 #[rv w9, rv w5] [(.ref w9), (.int 2)])) rfl rfl (hb hby d5_5)
  obtain ⟨fs, hr, hrun, hended, hW, hsame⟩ := X2.leave (v := some (.int 1)) (fun h => by rw [hre] at h; cases h)
  refine ⟨_, _, pre0 _ ?_, hrun, hended, _, _, rfl, ?_, ⟨_, rfl⟩, hW, hsame.mono (by decide) (by decide)⟩
  · show SF p e below s₁ (mkF m 0 #[rv w9, rv w5] []) _
    refine XS.aloadN X0.here hx rfl (hb hby d5_0) rfl rfl ?_
    show SF p e below s₁ (mkF m 1 #[rv w9, rv w5] [(.ref w5)]) _
    refine st1 _ ?_
    show SF p e below T1 (mkF m 4 #[rv w9, rv w5] [(.int 2)]) _
    refine XS.aloadN X1.here hx rfl (hb hby d5_4) rfl rfl ?_
    show SF p e below T1 (mkF m 5 #[rv w9, rv w5] [(.ref w9), (.int 2)]) _
    refine st2 _ ?_
    show SF p e below T2 (mkF m 8 #[rv w9, rv w5] [(.int 7), (.int 2)]) _
    refine XS.iconst X2.here hx rfl (hb hby d5_8) ?_
    show SF p e below T2 (mkF m 9 #[rv w9, rv w5] [(.int (-1)), (.int 7), (.int 2)]) _
    refine XS.ixor X2.here hx rfl (hb hby d5_9) rfl ?_
    show SF p e below T2 (mkF m 10 #[rv w9, rv w5] [(.int ((7 : Int32) ^^^ (-1 : Int32))), (.int 2)]) _
    rw [show ((7 : Int32) ^^^ (-1 : Int32)) = (-8 : Int32) from by decide]
    show SF p e below T2 (mkF m 10 #[rv w9, rv w5] [(.int (-8)), (.int 2)]) _
    refine XS.iand X2.here hx rfl (hb hby d5_10) rfl ?_
    show SF p e below T2 (mkF m 11 #[rv w9, rv w5] [(.int ((2 : Int32) &&& (-8 : Int32)))]) _
    rw [show ((2 : Int32) &&& (-8 : Int32)) = (0 : Int32) from by decide]
    show SF p e below T2 (mkF m 11 #[rv w9, rv w5] [(.int 0)]) _
    refine XS.ifNo X2.here hx rfl (hb hby d5_11) rfl ((if0 _ _).trans (teq (by decide : (0 : Int32) = (0 : Int32))).2) ?_
    show SF p e below T2 (mkF m 14 #[rv w9, rv w5] []) _
    refine XS.iconst X2.here hx rfl (hb hby d5_14) ?_
    refine XS.goto X2.here hx rfl (pc0 := 15) (pc' := 19) rfl (hb hby d5_15) (by decide) (by decide) ?_
    show SF p e below T2 (mkF m 19 #[rv w9, rv w5] [(.int 1)]) _
    exact retN X2 hx (t := .boolean) hre (by simp) (hb hby d5_19) hr
  · show Q5_89 Z w9 w5 h0 n0 _ T2.heap _
    rw [e2]
    exact ⟨rfl, N0, rfl⟩
-- Rights.letter 
def Q4_90 (Z : State) (w9 : Addr) (w5 : Addr) (h0 : Heap) (n0 : Nat) (v : Option Value) (h : Heap) (L : List Loc) : Prop := v = some (.int 119) ∧ Fr n0 L ∧ h = h0
set_option maxRecDepth 65536 in
set_option maxHeartbeats 40000000 in
theorem rm4_90 (l : Launch) (Z : State) (a0 : Array Value) (hw : HW Z a0) (ws : List Jvm.Cond) (w9 : Addr) (w5 : Addr) (h0 : Heap) (n0 : Nat) (Z0 : n0 ≤ h0.size) (E_w9 : Exa Z Z.heap w9 zs7) (P2 : Old Z n0 h0) (F_w5_bits : Fld Z Z.heap w5 zs7 "bits" "I" (.int 2)) (F_w9_bits : Fld Z Z.heap w9 zs7 "bits" "I" (.int 7)) :
    MF l Z (⟨zs7, "letter", zs3⟩ : MethodName) (Jvm.Cond.code (⟨zs7, "letter", zs3⟩ : MethodName) prog_35_method_6_code 3 (some .char)) ws ({ frames := 1, cells := 0, slots := 0, locals := 13 } : Room) #[(.ref w9), (.ref w5), (.int 119)] h0 (Q4_90 Z w9 w5 h0 n0) := by
  refine own_enter (plainFor_of_name pn_0) fun p e s m below meth c s₁ X0 hx hby hml hown hnm hZ e0 hre hlk => ?_
  have N0 := Fr.nil n0
  have pre0 : ∀ t, SF p e below s₁ (mkF m 0 #[rv w9, rv w5, iv 119] []) t → SF p e below s₁ (entryFrame m #[(.ref w9), (.ref w5), (.int 119)] 3) t := fun t k => castTop (ef_3 m w9 w5 (119 : Int32)) k
  obtain ⟨cq1, kq1, q1a, q1b, q1c⟩ := isOf hZ e0 (E_w9.ext P2.2)
  obtain ⟨_, _, ⟨T1, L1, k1x, n1⟩, -, X1, ⟨Lc1, hQ1, l1, y1, z1⟩, st1⟩ := X0.virtualBack hx (y := (⟨zs7, "containsAll", zs2⟩ : MethodName)) (z := (⟨zs7, "containsAll", zs2⟩ : MethodName)) hown (mvT hZ (tw hw 30 rfl)) (mvT hZ (tw hw 31 rfl)) (notFace_of_selects (args := #[]) (mvT hZ (tw hw 33 rfl))) (mvT hZ (tw hw 33 rfl)) (mvT hZ (tw hw 32 rfl)) (by decide) (backOf (W := 0) (rm5_89 l Z a0 hw [] w9 w5 h0 n0 Z0 F_w5_bits P2 F_w9_bits) hZ (tw hw 34 rfl) (tw hw 2 rfl) (by decide) (by decide)) q1a q1c (g := (mkF m 2 #[rv w9, rv w5, iv 119] [(.ref w5), (.ref w9)])) rfl (by rw [hml]; rfl) (Steps.refl _) (argsL := [(.ref w5)]) (rest := []) (lenOf pd_2 rfl) rfl (Nat.le_of_eq rfl) (hb hby d4_2) (fun _ _ => ⟨rfl, e0, (by decide : 0 + 0 ≤ _), (by decide : 0 + 0 ≤ _)⟩)
  dsimp only [Pt.U, Pt.locs, Pt.cells, Pt.slots] at X1 l1 y1 z1 st1 hQ1
  subst l1 y1 z1
  obtain ⟨rfl, N1q, e1⟩ := hQ1
  have N1 := Fr.app N0 N1q
  obtain ⟨fs, hr, hrun, hended, hW, hsame⟩ := X1.leave (v := some (.int 119)) (fun h => by rw [hre] at h; cases h)
  refine ⟨_, _, pre0 _ ?_, hrun, hended, _, _, rfl, ?_, ⟨_, rfl⟩, hW, hsame.mono (by decide) (by decide)⟩
  · show SF p e below s₁ (mkF m 0 #[rv w9, rv w5, iv 119] []) _
    refine XS.aloadN X0.here hx rfl (hb hby d4_0) rfl rfl ?_
    refine XS.aloadN X0.here hx rfl (hb hby d4_1) rfl rfl ?_
    show SF p e below s₁ (mkF m 2 #[rv w9, rv w5, iv 119] [(.ref w5), (.ref w9)]) _
    refine st1.trans ?_
    show SF p e below T1 (mkF m 5 #[rv w9, rv w5, iv 119] [(.int 1)]) _
    refine XS.ifNo X1.here hx rfl (hb hby d4_5) rfl ((if0 _ _).trans (feq (by decide : ¬ ((1 : Int32) = (0 : Int32)))).1) ?_
    show SF p e below T1 (mkF m 8 #[rv w9, rv w5, iv 119] []) _
    refine XS.iloadN X1.here hx rfl (hb hby d4_8) rfl ?_
    refine XS.goto X1.here hx rfl (pc0 := 9) (pc' := 14) rfl (hb hby d4_9) (by decide) (by decide) ?_
    show SF p e below T1 (mkF m 14 #[rv w9, rv w5, iv 119] [(.int 119)]) _
    exact retN X1 hx (t := .char) hre (by simp) (hb hby d4_14) hr
  · show Q4_90 Z w9 w5 h0 n0 _ T1.heap _
    rw [e1]
    exact ⟨rfl, N1, rfl⟩
-- Rights.containsAll 
def Q5_91 (Z : State) (w9 : Addr) (w6 : Addr) (h0 : Heap) (n0 : Nat) (v : Option Value) (h : Heap) (L : List Loc) : Prop := v = some (.int 1) ∧ Fr n0 L ∧ h = h0
set_option maxRecDepth 65536 in
set_option maxHeartbeats 40000000 in
theorem rm5_91 (l : Launch) (Z : State) (a0 : Array Value) (hw : HW Z a0) (ws : List Jvm.Cond) (w9 : Addr) (w6 : Addr) (h0 : Heap) (n0 : Nat) (Z0 : n0 ≤ h0.size) (F_w6_bits : Fld Z Z.heap w6 zs7 "bits" "I" (.int 1)) (P2 : Old Z n0 h0) (F_w9_bits : Fld Z Z.heap w9 zs7 "bits" "I" (.int 7)) :
    MF l Z (⟨zs7, "containsAll", zs2⟩ : MethodName) (Jvm.Cond.code (⟨zs7, "containsAll", zs2⟩ : MethodName) prog_35_method_4_code 2 (some .boolean)) ws ({ frames := 0, cells := 0, slots := 0, locals := 0 } : Room) #[(.ref w9), (.ref w6)] h0 (Q5_91 Z w9 w6 h0 n0) := by
  refine own_enter (plainFor_of_name pn_0) fun p e s m below meth c s₁ X0 hx hby hml hown hnm hZ e0 hre hlk => ?_
  have N0 := Fr.nil n0
  have pre0 : ∀ t, SF p e below s₁ (mkF m 0 #[rv w9, rv w6] []) t → SF p e below s₁ (entryFrame m #[(.ref w9), (.ref w6)] 2) t := fun t k => castTop (ef_2 m w9 w6) k
  obtain ⟨T1, X1, e1, st1⟩ := getF X0 hx hZ hown (host := "") (Or.inl (tw hw 11 rfl)) Via.refl e0 (F_w6_bits.ext P2.2) (g := (mkF m 1 #[rv w9, rv w6] [(.ref w6)])) rfl rfl (hb hby d5_1)
  obtain ⟨T2, X2, e2, st2⟩ := getF X1 hx hZ hown (host := "") (Or.inl (tw hw 11 rfl)) Via.refl e1 (F_w9_bits.ext P2.2) (g := (mkF m 5 #[rv w9, rv w6] [(.ref w9), (.int 1)])) rfl rfl (hb hby d5_5)
  obtain ⟨fs, hr, hrun, hended, hW, hsame⟩ := X2.leave (v := some (.int 1)) (fun h => by rw [hre] at h; cases h)
  refine ⟨_, _, pre0 _ ?_, hrun, hended, _, _, rfl, ?_, ⟨_, rfl⟩, hW, hsame.mono (by decide) (by decide)⟩
  · show SF p e below s₁ (mkF m 0 #[rv w9, rv w6] []) _
    refine XS.aloadN X0.here hx rfl (hb hby d5_0) rfl rfl ?_
    show SF p e below s₁ (mkF m 1 #[rv w9, rv w6] [(.ref w6)]) _
    refine st1 _ ?_
    show SF p e below T1 (mkF m 4 #[rv w9, rv w6] [(.int 1)]) _
    refine XS.aloadN X1.here hx rfl (hb hby d5_4) rfl rfl ?_
    show SF p e below T1 (mkF m 5 #[rv w9, rv w6] [(.ref w9), (.int 1)]) _
    refine st2 _ ?_
    show SF p e below T2 (mkF m 8 #[rv w9, rv w6] [(.int 7), (.int 1)]) _
    refine XS.iconst X2.here hx rfl (hb hby d5_8) ?_
    show SF p e below T2 (mkF m 9 #[rv w9, rv w6] [(.int (-1)), (.int 7), (.int 1)]) _
    refine XS.ixor X2.here hx rfl (hb hby d5_9) rfl ?_
    show SF p e below T2 (mkF m 10 #[rv w9, rv w6] [(.int ((7 : Int32) ^^^ (-1 : Int32))), (.int 1)]) _
    rw [show ((7 : Int32) ^^^ (-1 : Int32)) = (-8 : Int32) from by decide]
    show SF p e below T2 (mkF m 10 #[rv w9, rv w6] [(.int (-8)), (.int 1)]) _
    refine XS.iand X2.here hx rfl (hb hby d5_10) rfl ?_
    show SF p e below T2 (mkF m 11 #[rv w9, rv w6] [(.int ((1 : Int32) &&& (-8 : Int32)))]) _
    rw [show ((1 : Int32) &&& (-8 : Int32)) = (0 : Int32) from by decide]
    show SF p e below T2 (mkF m 11 #[rv w9, rv w6] [(.int 0)]) _
    refine XS.ifNo X2.here hx rfl (hb hby d5_11) rfl ((if0 _ _).trans (teq (by decide : (0 : Int32) = (0 : Int32))).2) ?_
    show SF p e below T2 (mkF m 14 #[rv w9, rv w6] []) _
    refine XS.iconst X2.here hx rfl (hb hby d5_14) ?_
    refine XS.goto X2.here hx rfl (pc0 := 15) (pc' := 19) rfl (hb hby d5_15) (by decide) (by decide) ?_
    show SF p e below T2 (mkF m 19 #[rv w9, rv w6] [(.int 1)]) _
    exact retN X2 hx (t := .boolean) hre (by simp) (hb hby d5_19) hr
  · show Q5_91 Z w9 w6 h0 n0 _ T2.heap _
    rw [e2]
    exact ⟨rfl, N0, rfl⟩
-- Rights.letter 
def Q4_92 (Z : State) (w9 : Addr) (w6 : Addr) (h0 : Heap) (n0 : Nat) (v : Option Value) (h : Heap) (L : List Loc) : Prop := v = some (.int 120) ∧ Fr n0 L ∧ h = h0
set_option maxRecDepth 65536 in
set_option maxHeartbeats 40000000 in
theorem rm4_92 (l : Launch) (Z : State) (a0 : Array Value) (hw : HW Z a0) (ws : List Jvm.Cond) (w9 : Addr) (w6 : Addr) (h0 : Heap) (n0 : Nat) (Z0 : n0 ≤ h0.size) (E_w9 : Exa Z Z.heap w9 zs7) (P2 : Old Z n0 h0) (F_w6_bits : Fld Z Z.heap w6 zs7 "bits" "I" (.int 1)) (F_w9_bits : Fld Z Z.heap w9 zs7 "bits" "I" (.int 7)) :
    MF l Z (⟨zs7, "letter", zs3⟩ : MethodName) (Jvm.Cond.code (⟨zs7, "letter", zs3⟩ : MethodName) prog_35_method_6_code 3 (some .char)) ws ({ frames := 1, cells := 0, slots := 0, locals := 13 } : Room) #[(.ref w9), (.ref w6), (.int 120)] h0 (Q4_92 Z w9 w6 h0 n0) := by
  refine own_enter (plainFor_of_name pn_0) fun p e s m below meth c s₁ X0 hx hby hml hown hnm hZ e0 hre hlk => ?_
  have N0 := Fr.nil n0
  have pre0 : ∀ t, SF p e below s₁ (mkF m 0 #[rv w9, rv w6, iv 120] []) t → SF p e below s₁ (entryFrame m #[(.ref w9), (.ref w6), (.int 120)] 3) t := fun t k => castTop (ef_3 m w9 w6 (120 : Int32)) k
  obtain ⟨cq1, kq1, q1a, q1b, q1c⟩ := isOf hZ e0 (E_w9.ext P2.2)
  obtain ⟨_, _, ⟨T1, L1, k1x, n1⟩, -, X1, ⟨Lc1, hQ1, l1, y1, z1⟩, st1⟩ := X0.virtualBack hx (y := (⟨zs7, "containsAll", zs2⟩ : MethodName)) (z := (⟨zs7, "containsAll", zs2⟩ : MethodName)) hown (mvT hZ (tw hw 30 rfl)) (mvT hZ (tw hw 31 rfl)) (notFace_of_selects (args := #[]) (mvT hZ (tw hw 33 rfl))) (mvT hZ (tw hw 33 rfl)) (mvT hZ (tw hw 32 rfl)) (by decide) (backOf (W := 0) (rm5_91 l Z a0 hw [] w9 w6 h0 n0 Z0 F_w6_bits P2 F_w9_bits) hZ (tw hw 34 rfl) (tw hw 2 rfl) (by decide) (by decide)) q1a q1c (g := (mkF m 2 #[rv w9, rv w6, iv 120] [(.ref w6), (.ref w9)])) rfl (by rw [hml]; rfl) (Steps.refl _) (argsL := [(.ref w6)]) (rest := []) (lenOf pd_2 rfl) rfl (Nat.le_of_eq rfl) (hb hby d4_2) (fun _ _ => ⟨rfl, e0, (by decide : 0 + 0 ≤ _), (by decide : 0 + 0 ≤ _)⟩)
  dsimp only [Pt.U, Pt.locs, Pt.cells, Pt.slots] at X1 l1 y1 z1 st1 hQ1
  subst l1 y1 z1
  obtain ⟨rfl, N1q, e1⟩ := hQ1
  have N1 := Fr.app N0 N1q
  obtain ⟨fs, hr, hrun, hended, hW, hsame⟩ := X1.leave (v := some (.int 120)) (fun h => by rw [hre] at h; cases h)
  refine ⟨_, _, pre0 _ ?_, hrun, hended, _, _, rfl, ?_, ⟨_, rfl⟩, hW, hsame.mono (by decide) (by decide)⟩
  · show SF p e below s₁ (mkF m 0 #[rv w9, rv w6, iv 120] []) _
    refine XS.aloadN X0.here hx rfl (hb hby d4_0) rfl rfl ?_
    refine XS.aloadN X0.here hx rfl (hb hby d4_1) rfl rfl ?_
    show SF p e below s₁ (mkF m 2 #[rv w9, rv w6, iv 120] [(.ref w6), (.ref w9)]) _
    refine st1.trans ?_
    show SF p e below T1 (mkF m 5 #[rv w9, rv w6, iv 120] [(.int 1)]) _
    refine XS.ifNo X1.here hx rfl (hb hby d4_5) rfl ((if0 _ _).trans (feq (by decide : ¬ ((1 : Int32) = (0 : Int32)))).1) ?_
    show SF p e below T1 (mkF m 8 #[rv w9, rv w6, iv 120] []) _
    refine XS.iloadN X1.here hx rfl (hb hby d4_8) rfl ?_
    refine XS.goto X1.here hx rfl (pc0 := 9) (pc' := 14) rfl (hb hby d4_9) (by decide) (by decide) ?_
    show SF p e below T1 (mkF m 14 #[rv w9, rv w6, iv 120] [(.int 120)]) _
    exact retN X1 hx (t := .char) hre (by simp) (hb hby d4_14) hr
  · show Q4_92 Z w9 w6 h0 n0 _ T1.heap _
    rw [e1]
    exact ⟨rfl, N1, rfl⟩
-- Rights.toString 
def Q3_93 (Z : State) (w9 : Addr) (w4 : Addr) (w5 : Addr) (w6 : Addr) (GC : Int32) (h0 : Heap) (n0 : Nat) (v : Option Value) (h : Heap) (L : List Loc) : Prop := ∃ e1x : Addr, ∃ e2x : Addr, ∃ e3x : ClassId, h0.size ≤ e1x ∧ h0.size ≤ e2x ∧ e1x ≠ e2x ∧ v = some (.ref e1x) ∧ Fr n0 L ∧ Keep h0 h [] ∧ Exa Z h e1x "java/lang/String" ∧ Fld Z h e1x "java/lang/String" "coder" "B" (.int 0) ∧ Fld Z h e1x "java/lang/String" "value" "[B" (.ref e2x) ∧ Arv Z h e2x e3x .byte (3 : Int32) (((([(114 : Int32), (119 : Int32), (120 : Int32)] : List Int32)).map (fun c => c.toInt8.toInt32)).map Value.int) (.int (0 : Int32))
set_option maxRecDepth 65536 in
set_option maxHeartbeats 40000000 in
theorem rm3_93 (l : Launch) (Z : State) (a0 : Array Value) (hw : HW Z a0) (ws : List Jvm.Cond) (w9 : Addr) (w4 : Addr) (w5 : Addr) (w6 : Addr) (GC : Int32) (h0 : Heap) (n0 : Nat) (Z0 : n0 ≤ h0.size) (Sg7 : Sta Z Z.heap zs7 "READ" zs4 (.ref w4)) (P2 : Old Z n0 h0) (E_w9 : Exa Z Z.heap w9 zs7) (F_w4_bits : Fld Z Z.heap w4 zs7 "bits" "I" (.int 4)) (F_w9_bits : Fld Z Z.heap w9 zs7 "bits" "I" (.int 7)) (Sg9 : Sta Z Z.heap zs7 "WRITE" zs4 (.ref w5)) (F_w5_bits : Fld Z Z.heap w5 zs7 "bits" "I" (.int 2)) (Sg11 : Sta Z Z.heap zs7 "EXECUTE" zs4 (.ref w6)) (F_w6_bits : Fld Z Z.heap w6 zs7 "bits" "I" (.int 1)) (Sg0 : Sta Z Z.heap "java/lang/String" "COMPACT_STRINGS" "Z" (.int GC)) (nzGC : ¬ (GC = (0 : Int32))) :
    MF l Z (⟨zs7, "toString", zs0⟩ : MethodName) (Jvm.Cond.code (⟨zs7, "toString", zs0⟩ : MethodName) prog_35_method_5_code 1 (some (.object "java/lang/String"))) ws ({ frames := 4, cells := 3, slots := 10, locals := 66 } : Room) #[(.ref w9)] h0 (Q3_93 Z w9 w4 w5 w6 GC h0 n0) := by
  refine own_enter (plainFor_of_name pn_0) fun p e s m below meth c s₁ X0 hx hby hml hown hnm hZ e0 hre hlk => ?_
  have N0 := Fr.nil n0
  have pre0 : ∀ t, SF p e below s₁ (mkF m 0 #[rv w9] []) t → SF p e below s₁ (entryFrame m #[(.ref w9)] 1) t := fun t k => castTop (ef_4 m w9) k
  obtain ⟨T1, h1, X1, e1, E1, A1, D1, -, st1⟩ := newO X0 hx hZ hown (tw hw 20 rfl) (tw hw 21 rfl) (tw hw 22 rfl) e0 (g := (mkF m 0 #[rv w9] [])) rfl (hb hby d3_0) (by decide) (by decide)
  obtain ⟨e1x, g1⟩ : ∃ z, z = h0.size := ⟨_, rfl⟩
  rw [← g1] at A1 D1 st1
  have K1 : Keep h0 h1 [] := (Keep.refl h0 []).ext E1
  have Fn2 : Fld Z h1 e1x "java/lang/String" "coder" "B" (.int 0) := D1 (Or.inr (tw hw 62 rfl)) (ty := .byte) (by decide)
  have Fn3 : Fld Z h1 e1x "java/lang/String" "value" "[B" .null := D1 (Or.inr (tw hw 64 rfl)) (ty := (.array .byte)) (by decide)
  obtain ⟨T4, h4, w5x, X4, e4, E4, A4, st4⟩ := newP X1 hx hZ (tw hw 23 rfl) e1 (g := (mkF m 5 #[rv w9] [(.int 3), (.ref e1x), (.ref e1x)])) rfl (hb hby d3_5) rfl (by decide) (cap := 3) (by decide) (by decide) (by decide) (by decide)
  obtain ⟨w4x, g4⟩ : ∃ z, z = h1.size := ⟨_, rfl⟩
  rw [← g4] at A4 st4
  have K4 : Keep h0 h4 [] := K1.ext E4
  have V4 : Arv Z h4 w4x w5x .char (3 : Int32) [(.int 0), (.int 0), (.int 0)] (.int (0 : Int32)) := (Arv.new A4 (by decide)).pad (pad_rep [] (.int (0 : Int32)) 3)
  have O1 : Old Z n0 h1 := P2.ext E1
  have O4 : Old Z n0 h4 := O1.ext E4
  obtain ⟨T5, X5, e5, st5⟩ := getS2 X4 hx hZ hown (host := "") (Or.inl (tw hw 24 rfl)) Via.refl e4 (Sg7.ext O4.2) (g := (mkF m 10 #[rv w9] [(.ref w9), (.int 0), (.ref w4x), (.ref w4x), (.ref e1x), (.ref e1x)])) rfl (hb hby d3_10)
  have Z1 : n0 ≤ h1.size := Nat.le_trans Z0 E1.1
  have Z4 : n0 ≤ h4.size := Nat.le_trans Z1 E4.1
  obtain ⟨cq6, q6, q6'⟩ := (E_w9.ext O4.2).cell
  obtain ⟨_, _, ⟨T6, L6, k6x, n6⟩, -, X6, ⟨Lc6, hQ6, l6, y6, z6⟩, st6⟩ := X5.privateBack hx (y := (⟨zs7, "letter", zs3⟩ : MethodName)) hown (mvT hZ (tw hw 26 rfl)) (mvT hZ (tw hw 27 rfl)) (own_selQ hZ (tw hw 9 rfl) (tw hw 28 rfl) (tw hw 27 rfl) (by decide)) (Cond.privateMethod_at (mvP hZ (tw hw 28 rfl) (args := #[]))) (mvT hZ (tw hw 29 rfl)) (by decide) (backOf (W := 5) (rm4_88 l Z a0 hw [] w9 w4 h4 n0 Z4 E_w9 O4 F_w4_bits F_w9_bits) hZ (tw hw 29 rfl) (tw hw 2 rfl) (by decide) (by decide)) (g := (mkF m 15 #[rv w9] [(.int 114), (.ref w4), (.ref w9), (.int 0), (.ref w4x), (.ref w4x), (.ref e1x), (.ref e1x)])) rfl (by rw [hml]; rfl) (Steps.refl _) (a := w9) (by rw [e5]; exact q6) q6' (argsL := [(.ref w4), (.int 114)]) (rest := [(.int 0), (.ref w4x), (.ref w4x), (.ref e1x), (.ref e1x)]) (lenOf pd_3 rfl) rfl (Nat.le_of_eq rfl) (hb hby d3_15) (fun _ _ => ⟨rfl, e5, (by decide : 2 + 0 ≤ _), (by decide : 7 + 0 ≤ _)⟩)
  dsimp only [Pt.U, Pt.locs, Pt.cells, Pt.slots] at X6 l6 y6 z6 st6 hQ6
  subst l6 y6 z6
  obtain ⟨rfl, N6q, e6⟩ := hQ6
  have N6 := Fr.app N0 N6q
  obtain ⟨cl7, Ar7, q7, S7, N7z, H7, G7⟩ := id V4
  have hin7 : ¬ ((0 : Int32) < 0 ∨ cl7.slots.size ≤ ((0 : Int32)).toNatClampNeg) := inb_of S7 ⟨by decide, by decide⟩
  obtain ⟨T8, h8, X8, e8, W8, st8⟩ := stC X6 hx hZ e6 Ar7 (j := (0 : Int32)) hin7 (g := (mkF m 18 #[rv w9] [(.int 114), (.int 0), (.ref w4x), (.ref w4x), (.ref e1x), (.ref e1x)])) rfl rfl (hb hby d3_18)
  have g_b3 : n0 ≤ w4x := Nat.le_trans Z1 (Nat.le_of_eq g4.symm)
  have sz0_b3 : h0.size ≤ w4x := Nat.le_trans K1.1 (Nat.le_of_eq g4.symm)
  have K8 : Keep h0 h8 [] := K4.wr W8 (Or.inr sz0_b3)
  have N8 := Fr.snoc X8 N6 g_b3
  have V8 : Arv Z h8 w4x w5x .char (3 : Int32) [(.int 114), (.int 0), (.int 0)] (.int (0 : Int32)) := Arv.set Ar7 q7 S7 N7z H7 G7 (by decide) W8 0 rfl (Nat.le_of_ble_eq_true rfl)
  have O8 : Old Z n0 h8 := O4.wr W8 g_b3
  obtain ⟨T9, X9, e9, st9⟩ := getS2 X8 hx hZ hown (host := "") (Or.inl (tw hw 35 rfl)) Via.refl e8 (Sg9.ext O8.2) (g := (mkF m 22 #[rv w9] [(.ref w9), (.int 1), (.ref w4x), (.ref w4x), (.ref e1x), (.ref e1x)])) rfl (hb hby d3_22)
  have Z8 : n0 ≤ h8.size := Nat.le_trans Z4 (Keep.of_wr W8).1
  obtain ⟨cq10, q10, q10'⟩ := (E_w9.ext O8.2).cell
  obtain ⟨_, _, ⟨T10, L10, k10x, n10⟩, -, X10, ⟨Lc10, hQ10, l10, y10, z10⟩, st10⟩ := X9.privateBack hx (y := (⟨zs7, "letter", zs3⟩ : MethodName)) hown (mvT hZ (tw hw 26 rfl)) (mvT hZ (tw hw 27 rfl)) (own_selQ hZ (tw hw 9 rfl) (tw hw 28 rfl) (tw hw 27 rfl) (by decide)) (Cond.privateMethod_at (mvP hZ (tw hw 28 rfl) (args := #[]))) (mvT hZ (tw hw 29 rfl)) (by decide) (backOf (W := 5) (rm4_90 l Z a0 hw [] w9 w5 h8 n0 Z8 E_w9 O8 F_w5_bits F_w9_bits) hZ (tw hw 29 rfl) (tw hw 2 rfl) (by decide) (by decide)) (g := (mkF m 27 #[rv w9] [(.int 119), (.ref w5), (.ref w9), (.int 1), (.ref w4x), (.ref w4x), (.ref e1x), (.ref e1x)])) rfl (by rw [hml]; rfl) (Steps.refl _) (a := w9) (by rw [e9]; exact q10) q10' (argsL := [(.ref w5), (.int 119)]) (rest := [(.int 1), (.ref w4x), (.ref w4x), (.ref e1x), (.ref e1x)]) (lenOf pd_3 rfl) rfl (Nat.le_of_eq rfl) (hb hby d3_27) (fun _ _ => ⟨rfl, e9, (by decide : 2 + 0 ≤ _), (by decide : 7 + 0 ≤ _)⟩)
  dsimp only [Pt.U, Pt.locs, Pt.cells, Pt.slots] at X10 l10 y10 z10 st10 hQ10
  subst l10 y10 z10
  obtain ⟨rfl, N10q, e10⟩ := hQ10
  have N10 := Fr.app N8 N10q
  obtain ⟨cl11, Ar11, q11, S11, N11z, H11, G11⟩ := id V8
  have hin11 : ¬ ((1 : Int32) < 0 ∨ cl11.slots.size ≤ ((1 : Int32)).toNatClampNeg) := inb_of S11 ⟨by decide, by decide⟩
  obtain ⟨T12, h12, X12, e12, W12, st12⟩ := stC X10 hx hZ e10 Ar11 (j := (1 : Int32)) hin11 (g := (mkF m 30 #[rv w9] [(.int 119), (.int 1), (.ref w4x), (.ref w4x), (.ref e1x), (.ref e1x)])) rfl rfl (hb hby d3_30)
  have K12 : Keep h0 h12 [] := K8.wr W12 (Or.inr sz0_b3)
  have N12 := Fr.snoc X12 N10 g_b3
  have V12 : Arv Z h12 w4x w5x .char (3 : Int32) [(.int 114), (.int 119), (.int 0)] (.int (0 : Int32)) := Arv.set Ar11 q11 S11 N11z H11 G11 (by decide) W12 1 rfl (Nat.le_of_ble_eq_true rfl)
  have O12 : Old Z n0 h12 := O8.wr W12 g_b3
  obtain ⟨T13, X13, e13, st13⟩ := getS2 X12 hx hZ hown (host := "") (Or.inl (tw hw 37 rfl)) Via.refl e12 (Sg11.ext O12.2) (g := (mkF m 34 #[rv w9] [(.ref w9), (.int 2), (.ref w4x), (.ref w4x), (.ref e1x), (.ref e1x)])) rfl (hb hby d3_34)
  have Z12 : n0 ≤ h12.size := Nat.le_trans Z8 (Keep.of_wr W12).1
  obtain ⟨cq14, q14, q14'⟩ := (E_w9.ext O12.2).cell
  obtain ⟨_, _, ⟨T14, L14, k14x, n14⟩, -, X14, ⟨Lc14, hQ14, l14, y14, z14⟩, st14⟩ := X13.privateBack hx (y := (⟨zs7, "letter", zs3⟩ : MethodName)) hown (mvT hZ (tw hw 26 rfl)) (mvT hZ (tw hw 27 rfl)) (own_selQ hZ (tw hw 9 rfl) (tw hw 28 rfl) (tw hw 27 rfl) (by decide)) (Cond.privateMethod_at (mvP hZ (tw hw 28 rfl) (args := #[]))) (mvT hZ (tw hw 29 rfl)) (by decide) (backOf (W := 5) (rm4_92 l Z a0 hw [] w9 w6 h12 n0 Z12 E_w9 O12 F_w6_bits F_w9_bits) hZ (tw hw 29 rfl) (tw hw 2 rfl) (by decide) (by decide)) (g := (mkF m 39 #[rv w9] [(.int 120), (.ref w6), (.ref w9), (.int 2), (.ref w4x), (.ref w4x), (.ref e1x), (.ref e1x)])) rfl (by rw [hml]; rfl) (Steps.refl _) (a := w9) (by rw [e13]; exact q14) q14' (argsL := [(.ref w6), (.int 120)]) (rest := [(.int 2), (.ref w4x), (.ref w4x), (.ref e1x), (.ref e1x)]) (lenOf pd_3 rfl) rfl (Nat.le_of_eq rfl) (hb hby d3_39) (fun _ _ => ⟨rfl, e13, (by decide : 2 + 0 ≤ _), (by decide : 7 + 0 ≤ _)⟩)
  dsimp only [Pt.U, Pt.locs, Pt.cells, Pt.slots] at X14 l14 y14 z14 st14 hQ14
  subst l14 y14 z14
  obtain ⟨rfl, N14q, e14⟩ := hQ14
  have N14 := Fr.app N12 N14q
  obtain ⟨cl15, Ar15, q15, S15, N15z, H15, G15⟩ := id V12
  have hin15 : ¬ ((2 : Int32) < 0 ∨ cl15.slots.size ≤ ((2 : Int32)).toNatClampNeg) := inb_of S15 ⟨by decide, by decide⟩
  obtain ⟨T16, h16, X16, e16, W16, st16⟩ := stC X14 hx hZ e14 Ar15 (j := (2 : Int32)) hin15 (g := (mkF m 42 #[rv w9] [(.int 120), (.int 2), (.ref w4x), (.ref w4x), (.ref e1x), (.ref e1x)])) rfl rfl (hb hby d3_42)
  have K16 : Keep h0 h16 [] := K12.wr W16 (Or.inr sz0_b3)
  have N16 := Fr.snoc X16 N14 g_b3
  have V16 : Arv Z h16 w4x w5x .char (3 : Int32) [(.int 114), (.int 119), (.int 120)] (.int (0 : Int32)) := Arv.set Ar15 q15 S15 N15z H15 G15 (by decide) W16 2 rfl (Nat.le_of_ble_eq_true rfl)
  have F2_17 : Exa Z h4 e1x "java/lang/String" := A1.ext E4
  have F3_18 : Exa Z h8 e1x "java/lang/String" := F2_17.wr W8
  have F4_19 : Exa Z h12 e1x "java/lang/String" := F3_18.wr W12
  have F5_20 : Exa Z h16 e1x "java/lang/String" := F4_19.wr W16
  have F2_21 : Fld Z h4 e1x "java/lang/String" "value" "[B" .null := Fn3.ext E4
  have F3_22 : Fld Z h8 e1x "java/lang/String" "value" "[B" .null := F2_21.other W8 (Or.inl (Nat.ne_of_lt (Nat.lt_of_lt_of_le A1.lt (Nat.le_of_eq g4.symm))))
  have F4_23 : Fld Z h12 e1x "java/lang/String" "value" "[B" .null := F3_22.other W12 (Or.inl (Nat.ne_of_lt (Nat.lt_of_lt_of_le A1.lt (Nat.le_of_eq g4.symm))))
  have F5_24 : Fld Z h16 e1x "java/lang/String" "value" "[B" .null := F4_23.other W16 (Or.inl (Nat.ne_of_lt (Nat.lt_of_lt_of_le A1.lt (Nat.le_of_eq g4.symm))))
  have F2_25 : Fld Z h4 e1x "java/lang/String" "coder" "B" (.int 0) := Fn2.ext E4
  have F3_26 : Fld Z h8 e1x "java/lang/String" "coder" "B" (.int 0) := F2_25.other W8 (Or.inl (Nat.ne_of_lt (Nat.lt_of_lt_of_le A1.lt (Nat.le_of_eq g4.symm))))
  have F4_27 : Fld Z h12 e1x "java/lang/String" "coder" "B" (.int 0) := F3_26.other W12 (Or.inl (Nat.ne_of_lt (Nat.lt_of_lt_of_le A1.lt (Nat.le_of_eq g4.symm))))
  have F5_28 : Fld Z h16 e1x "java/lang/String" "coder" "B" (.int 0) := F4_27.other W16 (Or.inl (Nat.ne_of_lt (Nat.lt_of_lt_of_le A1.lt (Nat.le_of_eq g4.symm))))
  have hwwords : ∀ d ∈ StrChars.Road.words, d.before a0 Z = true := fun d hd => hw d (own_words d hd)
  have hp29 : ∀ c ∈ ([(114 : Int32), (119 : Int32), (120 : Int32)] : List Int32), ¬ c < 0 ∧ ¬ (255 : Int32) < c := by
    intro c hc
    simp only [List.mem_cons, List.not_mem_nil, or_false] at hc
    rcases hc with rfl | rfl | rfl
    · decide
    · decide
    · decide
  have O16 : Old Z n0 h16 := O12.wr W16 g_b3
  have g_b1 : n0 ≤ e1x := Nat.le_trans Z0 (Nat.le_of_eq g1.symm)
  have Z16 : n0 ≤ h16.size := Nat.le_trans Z12 (Keep.of_wr W16).1
  obtain ⟨_, _, ⟨T30, L30, k30x, n30⟩, -, X30, ⟨Lc30, hQ30, l30, y30, z30⟩, st30⟩ := X16.specialBack hx (y := (⟨"java/lang/String", "<init>", "([C)V"⟩ : MethodName)) rfl hown (mvT hZ (tw hw 39 rfl)) (mvT hZ (tw hw 40 rfl)) (mvT hZ (tw hw 41 rfl)) (by decide) (StrChars.Road.backV (W := 1) hZ hwwords (kI := 4) (tw hw 21 rfl) (cs := ([(114 : Int32), (119 : Int32), (120 : Int32)] : List Int32)) (bs := ((([(114 : Int32), (119 : Int32), (120 : Int32)] : List Int32)).map (fun c => c.toInt8.toInt32))) (n := 3) g_b1 Z16 F5_20 F5_24 F5_28 V16 (Sg0.ext O16.2) nzGC rfl rfl (by decide) (by decide) hp29 rfl (by decide) (by decide)) (g := (mkF m 43 #[rv w9] [(.ref w4x), (.ref e1x), (.ref e1x)])) rfl (by rw [hml]; rfl) (Steps.refl _) (a := e1x) (argsL := [(.ref w4x)]) (rest := [(.ref e1x)]) (lenOf pd_4 rfl) rfl (Nat.le_of_eq rfl) (hb hby d3_43) (fun _ _ => ⟨rfl, e16, (by decide : 2 + 1 ≤ _), (by decide : 7 + 3 ≤ _)⟩)
  dsimp only [Pt.U, Pt.locs, Pt.cells, Pt.slots] at X30 l30 y30 z30 st30 hQ30
  subst l30 y30 z30
  obtain ⟨rfl, N30q, K30c, Fx30, Fc30, e2x, e3x, gt30, bz_b4, ne30, Fv30, Va30⟩ := hQ30
  have sz0_b1 : h0.size ≤ e1x := Nat.le_trans (Keep.refl h0 []).1 (Nat.le_of_eq g1.symm)
  have K30 : Keep h0 T30.heap [] := K16.trans K30c (allS (Or.inr sz0_b1) all0)
  have N30 := Fr.app N16 N30q
  have sz0_b4 : h0.size ≤ e2x := Nat.le_trans K16.1 bz_b4
  have lt_b1_2 : e1x < h4.size := Nat.lt_of_lt_of_le A1.lt E4.1
  have lt_b1_3 : e1x < h8.size := Nat.lt_of_lt_of_le lt_b1_2 (Keep.of_wr W8).1
  have lt_b1_4 : e1x < h12.size := Nat.lt_of_lt_of_le lt_b1_3 (Keep.of_wr W12).1
  have lt_b1_5 : e1x < h16.size := Nat.lt_of_lt_of_le lt_b1_4 (Keep.of_wr W16).1
  obtain ⟨fs, hr, hrun, hended, hW, hsame⟩ := X30.leave (v := some (.ref e1x)) (fun h => by rw [hre] at h; cases h)
  refine ⟨_, _, pre0 _ ?_, hrun, hended, _, _, rfl, ?_, ⟨_, rfl⟩, hW, hsame.mono (by decide) (by decide)⟩
  · show SF p e below s₁ (mkF m 0 #[rv w9] []) _
    refine st1 _ ?_
    show SF p e below T1 (mkF m 3 #[rv w9] [(.ref e1x)]) _
    refine XS.dup X1.here hx rfl (hb hby d3_3) rfl rfl ?_
    refine XS.iconst X1.here hx rfl (hb hby d3_4) ?_
    show SF p e below T1 (mkF m 5 #[rv w9] [(.int 3), (.ref e1x), (.ref e1x)]) _
    refine st4 _ ?_
    show SF p e below T4 (mkF m 7 #[rv w9] [(.ref w4x), (.ref e1x), (.ref e1x)]) _
    refine XS.dup X4.here hx rfl (hb hby d3_7) rfl rfl ?_
    refine XS.iconst X4.here hx rfl (hb hby d3_8) ?_
    show SF p e below T4 (mkF m 9 #[rv w9] [(.int 0), (.ref w4x), (.ref w4x), (.ref e1x), (.ref e1x)]) _
    refine XS.aloadN X4.here hx rfl (hb hby d3_9) rfl rfl ?_
    show SF p e below T4 (mkF m 10 #[rv w9] [(.ref w9), (.int 0), (.ref w4x), (.ref w4x), (.ref e1x), (.ref e1x)]) _
    refine st5 _ ?_
    show SF p e below T5 (mkF m 13 #[rv w9] [(.ref w4), (.ref w9), (.int 0), (.ref w4x), (.ref w4x), (.ref e1x), (.ref e1x)]) _
    refine XS.bipush X5.here hx rfl (hb hby d3_13) ?_
    show SF p e below T5 (mkF m 15 #[rv w9] [(.int 114), (.ref w4), (.ref w9), (.int 0), (.ref w4x), (.ref w4x), (.ref e1x), (.ref e1x)]) _
    refine st6.trans ?_
    show SF p e below T6 (mkF m 18 #[rv w9] [(.int 114), (.int 0), (.ref w4x), (.ref w4x), (.ref e1x), (.ref e1x)]) _
    refine st8 _ ?_
    show SF p e below T8 (mkF m 19 #[rv w9] [(.ref w4x), (.ref e1x), (.ref e1x)]) _
    refine XS.dup X8.here hx rfl (hb hby d3_19) rfl rfl ?_
    refine XS.iconst X8.here hx rfl (hb hby d3_20) ?_
    show SF p e below T8 (mkF m 21 #[rv w9] [(.int 1), (.ref w4x), (.ref w4x), (.ref e1x), (.ref e1x)]) _
    refine XS.aloadN X8.here hx rfl (hb hby d3_21) rfl rfl ?_
    show SF p e below T8 (mkF m 22 #[rv w9] [(.ref w9), (.int 1), (.ref w4x), (.ref w4x), (.ref e1x), (.ref e1x)]) _
    refine st9 _ ?_
    show SF p e below T9 (mkF m 25 #[rv w9] [(.ref w5), (.ref w9), (.int 1), (.ref w4x), (.ref w4x), (.ref e1x), (.ref e1x)]) _
    refine XS.bipush X9.here hx rfl (hb hby d3_25) ?_
    show SF p e below T9 (mkF m 27 #[rv w9] [(.int 119), (.ref w5), (.ref w9), (.int 1), (.ref w4x), (.ref w4x), (.ref e1x), (.ref e1x)]) _
    refine st10.trans ?_
    show SF p e below T10 (mkF m 30 #[rv w9] [(.int 119), (.int 1), (.ref w4x), (.ref w4x), (.ref e1x), (.ref e1x)]) _
    refine st12 _ ?_
    show SF p e below T12 (mkF m 31 #[rv w9] [(.ref w4x), (.ref e1x), (.ref e1x)]) _
    refine XS.dup X12.here hx rfl (hb hby d3_31) rfl rfl ?_
    refine XS.iconst X12.here hx rfl (hb hby d3_32) ?_
    show SF p e below T12 (mkF m 33 #[rv w9] [(.int 2), (.ref w4x), (.ref w4x), (.ref e1x), (.ref e1x)]) _
    refine XS.aloadN X12.here hx rfl (hb hby d3_33) rfl rfl ?_
    show SF p e below T12 (mkF m 34 #[rv w9] [(.ref w9), (.int 2), (.ref w4x), (.ref w4x), (.ref e1x), (.ref e1x)]) _
    refine st13 _ ?_
    show SF p e below T13 (mkF m 37 #[rv w9] [(.ref w6), (.ref w9), (.int 2), (.ref w4x), (.ref w4x), (.ref e1x), (.ref e1x)]) _
    refine XS.bipush X13.here hx rfl (hb hby d3_37) ?_
    show SF p e below T13 (mkF m 39 #[rv w9] [(.int 120), (.ref w6), (.ref w9), (.int 2), (.ref w4x), (.ref w4x), (.ref e1x), (.ref e1x)]) _
    refine st14.trans ?_
    show SF p e below T14 (mkF m 42 #[rv w9] [(.int 120), (.int 2), (.ref w4x), (.ref w4x), (.ref e1x), (.ref e1x)]) _
    refine st16 _ ?_
    show SF p e below T16 (mkF m 43 #[rv w9] [(.ref w4x), (.ref e1x), (.ref e1x)]) _
    refine st30.trans ?_
    show SF p e below T30 (mkF m 46 #[rv w9] [(.ref e1x)]) _
    exact own_retR X30 hx hre rfl rfl (hb hby d3_46) hr
  · show Q3_93 Z w9 w4 w5 w6 GC h0 n0 _ T30.heap _
    exact ⟨e1x, e2x, e3x, sz0_b1, sz0_b4, (Nat.ne_of_lt (Nat.lt_of_lt_of_le lt_b1_5 bz_b4)), rfl, N30, K30, Fx30, Fc30, Fv30, Va30⟩
-- RightsOfPinLaw.expect 
def Q19_94 (Z : State)  (h0 : Heap) (n0 : Nat) (v : Option Value) (h : Heap) (L : List Loc) : Prop := v = some (.int 114) ∧ Fr n0 L ∧ h = h0
set_option maxRecDepth 65536 in
set_option maxHeartbeats 40000000 in
theorem rm19_94 (l : Launch) (Z : State) (a0 : Array Value) (hw : HW Z a0) (ws : List Jvm.Cond)  (h0 : Heap) (n0 : Nat) (Z0 : n0 ≤ h0.size) :
    MF l Z (⟨zs8, "expect", "(IIC)C"⟩ : MethodName) (Jvm.Cond.code (⟨zs8, "expect", "(IIC)C"⟩ : MethodName) method_2_code 3 (some .char)) ws ({ frames := 0, cells := 0, slots := 0, locals := 0 } : Room) #[(.int 7), (.int 4), (.int 114)] h0 (Q19_94 Z  h0 n0) := by
  refine own_enter (plainFor_of_name pn_1) fun p e s m below meth c s₁ X0 hx hby hml hown hnm hZ e0 hre hlk => ?_
  have N0 := Fr.nil n0
  have pre0 : ∀ t, SF p e below s₁ (mkF m 0 #[iv 7, iv 4, iv 114] []) t → SF p e below s₁ (entryFrame m #[(.int 7), (.int 4), (.int 114)] 3) t := fun t k => castTop (ef_5 m (7 : Int32) (4 : Int32) (114 : Int32)) k
  obtain ⟨fs, hr, hrun, hended, hW, hsame⟩ := X0.leave (v := some (.int 114)) (fun h => by rw [hre] at h; cases h)
  refine ⟨_, _, pre0 _ ?_, hrun, hended, _, _, rfl, ?_, ⟨_, rfl⟩, hW, hsame.mono (by decide) (by decide)⟩
  · show SF p e below s₁ (mkF m 0 #[iv 7, iv 4, iv 114] []) _
    refine XS.iloadN X0.here hx rfl (hb hby d19_0) rfl ?_
    refine XS.iloadN X0.here hx rfl (hb hby d19_1) rfl ?_
    show SF p e below s₁ (mkF m 2 #[iv 7, iv 4, iv 114] [(.int 4), (.int 7)]) _
    refine XS.iand X0.here hx rfl (hb hby d19_2) rfl ?_
    show SF p e below s₁ (mkF m 3 #[iv 7, iv 4, iv 114] [(.int ((7 : Int32) &&& (4 : Int32)))]) _
    rw [show ((7 : Int32) &&& (4 : Int32)) = (4 : Int32) from by decide]
    show SF p e below s₁ (mkF m 3 #[iv 7, iv 4, iv 114] [(.int 4)]) _
    refine XS.ifNo X0.here hx rfl (hb hby d19_3) rfl ((if0 _ _).trans (feq (by decide : ¬ ((4 : Int32) = (0 : Int32)))).1) ?_
    show SF p e below s₁ (mkF m 6 #[iv 7, iv 4, iv 114] []) _
    refine XS.iloadN X0.here hx rfl (hb hby d19_6) rfl ?_
    refine XS.goto X0.here hx rfl (pc0 := 7) (pc' := 12) rfl (hb hby d19_7) (by decide) (by decide) ?_
    show SF p e below s₁ (mkF m 12 #[iv 7, iv 4, iv 114] [(.int 114)]) _
    exact retN X0 hx (t := .char) hre (by simp) (hb hby d19_12) hr
  · show Q19_94 Z  h0 n0 _ s₁.heap _
    rw [e0]
    exact ⟨rfl, N0, rfl⟩
-- RightsOfPinLaw.expect 
def Q19_95 (Z : State)  (h0 : Heap) (n0 : Nat) (v : Option Value) (h : Heap) (L : List Loc) : Prop := v = some (.int 119) ∧ Fr n0 L ∧ h = h0
set_option maxRecDepth 65536 in
set_option maxHeartbeats 40000000 in
theorem rm19_95 (l : Launch) (Z : State) (a0 : Array Value) (hw : HW Z a0) (ws : List Jvm.Cond)  (h0 : Heap) (n0 : Nat) (Z0 : n0 ≤ h0.size) :
    MF l Z (⟨zs8, "expect", "(IIC)C"⟩ : MethodName) (Jvm.Cond.code (⟨zs8, "expect", "(IIC)C"⟩ : MethodName) method_2_code 3 (some .char)) ws ({ frames := 0, cells := 0, slots := 0, locals := 0 } : Room) #[(.int 7), (.int 2), (.int 119)] h0 (Q19_95 Z  h0 n0) := by
  refine own_enter (plainFor_of_name pn_1) fun p e s m below meth c s₁ X0 hx hby hml hown hnm hZ e0 hre hlk => ?_
  have N0 := Fr.nil n0
  have pre0 : ∀ t, SF p e below s₁ (mkF m 0 #[iv 7, iv 2, iv 119] []) t → SF p e below s₁ (entryFrame m #[(.int 7), (.int 2), (.int 119)] 3) t := fun t k => castTop (ef_5 m (7 : Int32) (2 : Int32) (119 : Int32)) k
  obtain ⟨fs, hr, hrun, hended, hW, hsame⟩ := X0.leave (v := some (.int 119)) (fun h => by rw [hre] at h; cases h)
  refine ⟨_, _, pre0 _ ?_, hrun, hended, _, _, rfl, ?_, ⟨_, rfl⟩, hW, hsame.mono (by decide) (by decide)⟩
  · show SF p e below s₁ (mkF m 0 #[iv 7, iv 2, iv 119] []) _
    refine XS.iloadN X0.here hx rfl (hb hby d19_0) rfl ?_
    refine XS.iloadN X0.here hx rfl (hb hby d19_1) rfl ?_
    show SF p e below s₁ (mkF m 2 #[iv 7, iv 2, iv 119] [(.int 2), (.int 7)]) _
    refine XS.iand X0.here hx rfl (hb hby d19_2) rfl ?_
    show SF p e below s₁ (mkF m 3 #[iv 7, iv 2, iv 119] [(.int ((7 : Int32) &&& (2 : Int32)))]) _
    rw [show ((7 : Int32) &&& (2 : Int32)) = (2 : Int32) from by decide]
    show SF p e below s₁ (mkF m 3 #[iv 7, iv 2, iv 119] [(.int 2)]) _
    refine XS.ifNo X0.here hx rfl (hb hby d19_3) rfl ((if0 _ _).trans (feq (by decide : ¬ ((2 : Int32) = (0 : Int32)))).1) ?_
    show SF p e below s₁ (mkF m 6 #[iv 7, iv 2, iv 119] []) _
    refine XS.iloadN X0.here hx rfl (hb hby d19_6) rfl ?_
    refine XS.goto X0.here hx rfl (pc0 := 7) (pc' := 12) rfl (hb hby d19_7) (by decide) (by decide) ?_
    show SF p e below s₁ (mkF m 12 #[iv 7, iv 2, iv 119] [(.int 119)]) _
    exact retN X0 hx (t := .char) hre (by simp) (hb hby d19_12) hr
  · show Q19_95 Z  h0 n0 _ s₁.heap _
    rw [e0]
    exact ⟨rfl, N0, rfl⟩
-- RightsOfPinLaw.expect 
def Q19_96 (Z : State)  (h0 : Heap) (n0 : Nat) (v : Option Value) (h : Heap) (L : List Loc) : Prop := v = some (.int 120) ∧ Fr n0 L ∧ h = h0
set_option maxRecDepth 65536 in
set_option maxHeartbeats 40000000 in
theorem rm19_96 (l : Launch) (Z : State) (a0 : Array Value) (hw : HW Z a0) (ws : List Jvm.Cond)  (h0 : Heap) (n0 : Nat) (Z0 : n0 ≤ h0.size) :
    MF l Z (⟨zs8, "expect", "(IIC)C"⟩ : MethodName) (Jvm.Cond.code (⟨zs8, "expect", "(IIC)C"⟩ : MethodName) method_2_code 3 (some .char)) ws ({ frames := 0, cells := 0, slots := 0, locals := 0 } : Room) #[(.int 7), (.int 1), (.int 120)] h0 (Q19_96 Z  h0 n0) := by
  refine own_enter (plainFor_of_name pn_1) fun p e s m below meth c s₁ X0 hx hby hml hown hnm hZ e0 hre hlk => ?_
  have N0 := Fr.nil n0
  have pre0 : ∀ t, SF p e below s₁ (mkF m 0 #[iv 7, iv 1, iv 120] []) t → SF p e below s₁ (entryFrame m #[(.int 7), (.int 1), (.int 120)] 3) t := fun t k => castTop (ef_5 m (7 : Int32) (1 : Int32) (120 : Int32)) k
  obtain ⟨fs, hr, hrun, hended, hW, hsame⟩ := X0.leave (v := some (.int 120)) (fun h => by rw [hre] at h; cases h)
  refine ⟨_, _, pre0 _ ?_, hrun, hended, _, _, rfl, ?_, ⟨_, rfl⟩, hW, hsame.mono (by decide) (by decide)⟩
  · show SF p e below s₁ (mkF m 0 #[iv 7, iv 1, iv 120] []) _
    refine XS.iloadN X0.here hx rfl (hb hby d19_0) rfl ?_
    refine XS.iloadN X0.here hx rfl (hb hby d19_1) rfl ?_
    show SF p e below s₁ (mkF m 2 #[iv 7, iv 1, iv 120] [(.int 1), (.int 7)]) _
    refine XS.iand X0.here hx rfl (hb hby d19_2) rfl ?_
    show SF p e below s₁ (mkF m 3 #[iv 7, iv 1, iv 120] [(.int ((7 : Int32) &&& (1 : Int32)))]) _
    rw [show ((7 : Int32) &&& (1 : Int32)) = (1 : Int32) from by decide]
    show SF p e below s₁ (mkF m 3 #[iv 7, iv 1, iv 120] [(.int 1)]) _
    refine XS.ifNo X0.here hx rfl (hb hby d19_3) rfl ((if0 _ _).trans (feq (by decide : ¬ ((1 : Int32) = (0 : Int32)))).1) ?_
    show SF p e below s₁ (mkF m 6 #[iv 7, iv 1, iv 120] []) _
    refine XS.iloadN X0.here hx rfl (hb hby d19_6) rfl ?_
    refine XS.goto X0.here hx rfl (pc0 := 7) (pc' := 12) rfl (hb hby d19_7) (by decide) (by decide) ?_
    show SF p e below s₁ (mkF m 12 #[iv 7, iv 1, iv 120] [(.int 120)]) _
    exact retN X0 hx (t := .char) hre (by simp) (hb hby d19_12) hr
  · show Q19_96 Z  h0 n0 _ s₁.heap _
    rw [e0]
    exact ⟨rfl, N0, rfl⟩
set_option maxRecDepth 65536 in
set_option maxHeartbeats 400000000 in
theorem pc_23 {p : Program} {l : Launch} {e : Env} {s : State} {m : MethodId} {below : List Frame} {meth : Method} {c : Code} {T0 : State} {locs : List Loc} {Z : State} {a0 : Array Value} {h0 : Heap} {n0 : Nat} {p0s : Int32} {p1s : Int32} {GC : Int32} {GF : Value} {w4 : Addr} {w5 : Addr} {w6 : Addr} {w9 : Addr} {dv3 : Int32} {dv5 : Addr} (X0 : Stand p l e room_1 s m #[(.int p0s), (.int p1s)] below meth c T0 locs 0 0) (hx : p.tables.exec = Jvm.exec) (hZ : Z.Warmed39 s.vm) (hw : HW Z a0) (hby : c.code = code) (hml : c.maxLocals = 7) (hown : s.vm.findClass zs8 = some m.cls) (hre : meth.sig.returnType = some .boolean) (hlk : meth.locks = false) (e0 : T0.heap = h0) (N0 : Fr n0 locs) (Z0 : n0 ≤ h0.size) (O0 : Old Z n0 h0) (Sg0 : Sta Z Z.heap "java/lang/String" "COMPACT_STRINGS" "Z" (.int GC)) (Sg1 : Sta Z Z.heap zs9 "SIOOBE_FORMATTER" zs5 GF) (rGF : GF.isRef = true) (nzGC : ¬ (GC = (0 : Int32))) (Sg7 : Sta Z Z.heap zs7 "READ" zs4 (.ref w4)) (Sg9 : Sta Z Z.heap zs7 "WRITE" zs4 (.ref w5)) (Sg11 : Sta Z Z.heap zs7 "EXECUTE" zs4 (.ref w6)) (E_w9 : Exa Z Z.heap w9 zs7) (F_w4_bits : Fld Z Z.heap w4 zs7 "bits" "I" (.int 4)) (F_w5_bits : Fld Z Z.heap w5 zs7 "bits" "I" (.int 2)) (F_w6_bits : Fld Z Z.heap w6 zs7 "bits" "I" (.int 1)) (F_w9_bits : Fld Z Z.heap w9 zs7 "bits" "I" (.int 7)) :
    Fine p e below s n0 (T0.setTop (mkF m 72 #[iv p0s, iv p1s, iv 7, iv dv3, rv w9, rv dv5, .unset] [])) := by
  obtain ⟨cq1, kq1, q1a, q1b, q1c⟩ := isOf hZ e0 (E_w9.ext O0.2)
  obtain ⟨_, _, ⟨T1, L1, k1x, n1⟩, -, X1, ⟨Lc1, hQ1, l1, y1, z1⟩, st1⟩ := X0.virtualBack hx (y := (⟨zs7, "toString", zs0⟩ : MethodName)) (z := (⟨zs7, "toString", zs0⟩ : MethodName)) hown (mvT hZ (tw hw 15 rfl)) (mvT hZ (tw hw 16 rfl)) (notFace_of_selects (args := #[]) (mvT hZ (tw hw 18 rfl))) (mvT hZ (tw hw 18 rfl)) (mvT hZ (tw hw 17 rfl)) (by decide) (backOf (W := 0) (rm3_93 l Z a0 hw [] w9 w4 w5 w6 GC h0 n0 Z0 Sg7 O0 E_w9 F_w4_bits F_w9_bits Sg9 F_w5_bits Sg11 F_w6_bits Sg0 nzGC) hZ (tw hw 19 rfl) (tw hw 2 rfl) (by decide) (by decide)) q1a q1c (g := (mkF m 133 #[iv p0s, iv p1s, iv 7, iv dv3, rv w9, rv dv5, .unset] [(.ref w9)])) rfl (by rw [hml]; rfl) (Steps.refl _) (argsL := []) (rest := []) (lenOf pd_5 rfl) rfl (Nat.le_of_eq rfl) (hb hby at_133) (fun _ _ => ⟨rfl, e0, (by decide : 0 + 3 ≤ _), (by decide : 0 + 10 ≤ _)⟩)
  dsimp only [Pt.U, Pt.locs, Pt.cells, Pt.slots] at X1 l1 y1 z1 st1 hQ1
  subst l1 y1 z1
  obtain ⟨b6, b7, k8, bz_b6, bz_b7, bn1_0, rfl, N1q, K1c, Fq1_0, Fq1_1, Fq1_2, Fq1_3⟩ := hQ1
  have N1 := Fr.app N0 N1q
  have hwwordsLen : ∀ d ∈ StrChars.Road.wordsLen, d.before a0 Z = true := fun d hd => hw d (own_wordsLen d hd)
  have hp2 : ∀ c ∈ ([(114 : Int32), (119 : Int32), (120 : Int32)] : List Int32), ¬ c < 0 ∧ ¬ (255 : Int32) < c := by
    intro c hc
    simp only [List.mem_cons, List.not_mem_nil, or_false] at hc
    rcases hc with rfl | rfl | rfl
    · decide
    · decide
    · decide
  have hcd3 : StrChars.Road.CodA ([(114 : Int32), (119 : Int32), (120 : Int32)] : List Int32) 0 (3 : Int32) (((([(114 : Int32), (119 : Int32), (120 : Int32)] : List Int32)).map (fun c => c.toInt8.toInt32)).map Value.int) := StrChars.Road.codOf (n := 3) rfl (fun c hc => (hp2 c hc).2)
  have hbd3 : ∀ c ∈ ([(114 : Int32), (119 : Int32), (120 : Int32)] : List Int32), ¬ c < 0 ∧ ¬ (65535 : Int32) < c := own_up _ hp2
  have O1 : Old Z n0 T1.heap := O0.keep K1c all0
  obtain ⟨cq4, kq4, q4a, q4b, q4c⟩ := isOf hZ rfl Fq1_0
  obtain ⟨_, _, ⟨T4, L4, k4x, n4⟩, -, X4, ⟨Lc4, hQ4, l4, y4, z4⟩, st4⟩ := X1.virtualBack hx (y := (⟨"java/lang/String", "length", "()I"⟩ : MethodName)) (z := (⟨"java/lang/String", "length", "()I"⟩ : MethodName)) hown (mvT hZ (tw hw 65 rfl)) (mvT hZ (tw hw 66 rfl)) (notFace_of_selects (args := #[]) (mvT hZ (tw hw 68 rfl))) (mvT hZ (tw hw 68 rfl)) (mvT hZ (tw hw 67 rfl)) (by decide) (StrChars.Road.lenW (W := 0) hZ hwwordsLen (kI := 4) (tw hw 21 rfl) Fq1_0 Fq1_2 Fq1_1 Fq1_3 hcd3 hbd3 (Sg0.ext O1.2) nzGC (Nat.le_of_ble_eq_true rfl) (by decide) (by decide)) q4a q4c (g := (mkF m 140 #[iv p0s, iv p1s, iv 7, iv dv3, rv w9, rv dv5, rv b6] [(.ref b6)])) rfl (by rw [hml]; rfl) (Steps.refl _) (argsL := []) (rest := []) (lenOf pd_1 rfl) rfl (Nat.le_of_eq rfl) (hb hby at_140) (fun _ _ => ⟨rfl, rfl, (by decide : 3 + 0 ≤ _), (by decide : 10 + 0 ≤ _)⟩)
  dsimp only [Pt.U, Pt.locs, Pt.cells, Pt.slots] at X4 l4 y4 z4 st4 hQ4
  subst l4 y4 z4
  obtain ⟨rfl, rfl, e4⟩ := hQ4
  have N4 := Fr.app N1 (Fr.nil n0)
  have hwwordsChN : ∀ d ∈ StrChars.Road.wordsChN, d.before a0 Z = true := fun d hd => hw d (own_wordsChN d hd)
  have hp5 : ∀ c ∈ ([(114 : Int32), (119 : Int32), (120 : Int32)] : List Int32), ¬ c < 0 ∧ ¬ (255 : Int32) < c := by
    intro c hc
    simp only [List.mem_cons, List.not_mem_nil, or_false] at hc
    rcases hc with rfl | rfl | rfl
    · decide
    · decide
    · decide
  have hcd6 : StrChars.Road.CodA ([(114 : Int32), (119 : Int32), (120 : Int32)] : List Int32) 0 (3 : Int32) (((([(114 : Int32), (119 : Int32), (120 : Int32)] : List Int32)).map (fun c => c.toInt8.toInt32)).map Value.int) := StrChars.Road.codOf (n := 3) rfl (fun c hc => (hp5 c hc).2)
  have hbd6 : ∀ c ∈ ([(114 : Int32), (119 : Int32), (120 : Int32)] : List Int32), ¬ c < 0 ∧ ¬ (65535 : Int32) < c := own_up _ hp5
  obtain ⟨cq7, kq7, q7a, q7b, q7c⟩ := isOf hZ e4 Fq1_0
  obtain ⟨_, _, ⟨T7, L7, k7x, n7⟩, -, X7, ⟨Lc7, hQ7, l7, y7, z7⟩, st7⟩ := X4.virtualBack hx (y := (⟨"java/lang/String", "charAt", "(I)C"⟩ : MethodName)) (z := (⟨"java/lang/String", "charAt", "(I)C"⟩ : MethodName)) hown (mvT hZ (tw hw 75 rfl)) (mvT hZ (tw hw 76 rfl)) (notFace_of_selects (args := #[]) (mvT hZ (tw hw 78 rfl))) (mvT hZ (tw hw 78 rfl)) (mvT hZ (tw hw 77 rfl)) (by decide) (StrChars.Road.chN (W := 0) hZ hwwordsChN (kI := 4) (tw hw 21 rfl) Fq1_0 Fq1_2 Fq1_1 Fq1_3 hcd6 hbd6 (Sg0.ext O1.2) nzGC (Sg1.ext O1.2) rGF (Nat.le_of_ble_eq_true rfl) (i := 0) (Nat.le_of_ble_eq_true rfl) (j := (0 : Int32)) rfl (by decide) (by decide)) q7a q7c (g := (mkF m 150 #[iv p0s, iv p1s, iv 7, iv dv3, rv w9, rv dv5, rv b6] [(.int 0), (.ref b6)])) rfl (by rw [hml]; rfl) (Steps.refl _) (argsL := [(.int 0)]) (rest := []) (lenOf pd_6 rfl) rfl (Nat.le_of_eq rfl) (hb hby at_150) (fun _ _ => ⟨rfl, e4, (by decide : 3 + 0 ≤ _), (by decide : 10 + 0 ≤ _)⟩)
  dsimp only [Pt.U, Pt.locs, Pt.cells, Pt.slots] at X7 l7 y7 z7 st7 hQ7
  subst l7 y7 z7
  obtain ⟨rfl, rfl, e7⟩ := hQ7
  have N7 := Fr.app N4 (Fr.nil n0)
  have Z1 : n0 ≤ T1.heap.size := Nat.le_trans Z0 K1c.1
  obtain ⟨_, _, ⟨T8, L8, k8x, n8⟩, -, X8, ⟨Lc8, hQ8, l8, y8, z8⟩, st8⟩ := Jvm.LawKit.callS X7 hx (y := (⟨zs8, "expect", "(IIC)C"⟩ : MethodName)) hown (mvT hZ (tw hw 97 rfl)) (mvT hZ (tw hw 98 rfl)) (mvT hZ (tw hw 99 rfl)) (mvT hZ (tw hw 100 rfl)) (by decide) (backOf (W := 1) (rm19_94 l Z a0 hw []  T1.heap n0 Z1 ) hZ (tw hw 100 rfl) (tw hw 99 rfl) (by decide) (by decide)) (g := (mkF m 157 #[iv p0s, iv p1s, iv 7, iv dv3, rv w9, rv dv5, rv b6] [(.int 114), (.int 4), (.int 7), (.int 114)])) rfl (by rw [hml]; rfl) (argsL := [(.int 7), (.int 4), (.int 114)]) (rest := [(.int 114)]) (lenOf pd_7 rfl) rfl (Nat.le_of_eq rfl) (hb hby at_157) (fun _ _ => ⟨rfl, e7, (by decide : 3 + 0 ≤ _), (by decide : 10 + 0 ≤ _)⟩)
  dsimp only [Pt.U, Pt.locs, Pt.cells, Pt.slots] at X8 l8 y8 z8 st8 hQ8
  subst l8 y8 z8
  obtain ⟨rfl, N8q, e8⟩ := hQ8
  have N8 := Fr.app N7 N8q
  have hp9 : ∀ c ∈ ([(114 : Int32), (119 : Int32), (120 : Int32)] : List Int32), ¬ c < 0 ∧ ¬ (255 : Int32) < c := by
    intro c hc
    simp only [List.mem_cons, List.not_mem_nil, or_false] at hc
    rcases hc with rfl | rfl | rfl
    · decide
    · decide
    · decide
  have hcd10 : StrChars.Road.CodA ([(114 : Int32), (119 : Int32), (120 : Int32)] : List Int32) 0 (3 : Int32) (((([(114 : Int32), (119 : Int32), (120 : Int32)] : List Int32)).map (fun c => c.toInt8.toInt32)).map Value.int) := StrChars.Road.codOf (n := 3) rfl (fun c hc => (hp9 c hc).2)
  have hbd10 : ∀ c ∈ ([(114 : Int32), (119 : Int32), (120 : Int32)] : List Int32), ¬ c < 0 ∧ ¬ (65535 : Int32) < c := own_up _ hp9
  obtain ⟨cq11, kq11, q11a, q11b, q11c⟩ := isOf hZ e8 Fq1_0
  obtain ⟨_, _, ⟨T11, L11, k11x, n11⟩, -, X11, ⟨Lc11, hQ11, l11, y11, z11⟩, st11⟩ := X8.virtualBack hx (y := (⟨"java/lang/String", "charAt", "(I)C"⟩ : MethodName)) (z := (⟨"java/lang/String", "charAt", "(I)C"⟩ : MethodName)) hown (mvT hZ (tw hw 75 rfl)) (mvT hZ (tw hw 76 rfl)) (notFace_of_selects (args := #[]) (mvT hZ (tw hw 78 rfl))) (mvT hZ (tw hw 78 rfl)) (mvT hZ (tw hw 77 rfl)) (by decide) (StrChars.Road.chN (W := 0) hZ hwwordsChN (kI := 4) (tw hw 21 rfl) Fq1_0 Fq1_2 Fq1_1 Fq1_3 hcd10 hbd10 (Sg0.ext O1.2) nzGC (Sg1.ext O1.2) rGF (Nat.le_of_ble_eq_true rfl) (i := 1) (Nat.le_of_ble_eq_true rfl) (j := (1 : Int32)) rfl (by decide) (by decide)) q11a q11c (g := (mkF m 166 #[iv p0s, iv p1s, iv 7, iv dv3, rv w9, rv dv5, rv b6] [(.int 1), (.ref b6)])) rfl (by rw [hml]; rfl) (Steps.refl _) (argsL := [(.int 1)]) (rest := []) (lenOf pd_6 rfl) rfl (Nat.le_of_eq rfl) (hb hby at_166) (fun _ _ => ⟨rfl, e8, (by decide : 3 + 0 ≤ _), (by decide : 10 + 0 ≤ _)⟩)
  dsimp only [Pt.U, Pt.locs, Pt.cells, Pt.slots] at X11 l11 y11 z11 st11 hQ11
  subst l11 y11 z11
  obtain ⟨rfl, rfl, e11⟩ := hQ11
  have N11 := Fr.app N8 (Fr.nil n0)
  obtain ⟨_, _, ⟨T12, L12, k12x, n12⟩, -, X12, ⟨Lc12, hQ12, l12, y12, z12⟩, st12⟩ := Jvm.LawKit.callS X11 hx (y := (⟨zs8, "expect", "(IIC)C"⟩ : MethodName)) hown (mvT hZ (tw hw 97 rfl)) (mvT hZ (tw hw 98 rfl)) (mvT hZ (tw hw 99 rfl)) (mvT hZ (tw hw 100 rfl)) (by decide) (backOf (W := 1) (rm19_95 l Z a0 hw []  T1.heap n0 Z1 ) hZ (tw hw 100 rfl) (tw hw 99 rfl) (by decide) (by decide)) (g := (mkF m 173 #[iv p0s, iv p1s, iv 7, iv dv3, rv w9, rv dv5, rv b6] [(.int 119), (.int 2), (.int 7), (.int 119)])) rfl (by rw [hml]; rfl) (argsL := [(.int 7), (.int 2), (.int 119)]) (rest := [(.int 119)]) (lenOf pd_7 rfl) rfl (Nat.le_of_eq rfl) (hb hby at_173) (fun _ _ => ⟨rfl, e11, (by decide : 3 + 0 ≤ _), (by decide : 10 + 0 ≤ _)⟩)
  dsimp only [Pt.U, Pt.locs, Pt.cells, Pt.slots] at X12 l12 y12 z12 st12 hQ12
  subst l12 y12 z12
  obtain ⟨rfl, N12q, e12⟩ := hQ12
  have N12 := Fr.app N11 N12q
  have hp13 : ∀ c ∈ ([(114 : Int32), (119 : Int32), (120 : Int32)] : List Int32), ¬ c < 0 ∧ ¬ (255 : Int32) < c := by
    intro c hc
    simp only [List.mem_cons, List.not_mem_nil, or_false] at hc
    rcases hc with rfl | rfl | rfl
    · decide
    · decide
    · decide
  have hcd14 : StrChars.Road.CodA ([(114 : Int32), (119 : Int32), (120 : Int32)] : List Int32) 0 (3 : Int32) (((([(114 : Int32), (119 : Int32), (120 : Int32)] : List Int32)).map (fun c => c.toInt8.toInt32)).map Value.int) := StrChars.Road.codOf (n := 3) rfl (fun c hc => (hp13 c hc).2)
  have hbd14 : ∀ c ∈ ([(114 : Int32), (119 : Int32), (120 : Int32)] : List Int32), ¬ c < 0 ∧ ¬ (65535 : Int32) < c := own_up _ hp13
  obtain ⟨cq15, kq15, q15a, q15b, q15c⟩ := isOf hZ e12 Fq1_0
  obtain ⟨_, _, ⟨T15, L15, k15x, n15⟩, -, X15, ⟨Lc15, hQ15, l15, y15, z15⟩, st15⟩ := X12.virtualBack hx (y := (⟨"java/lang/String", "charAt", "(I)C"⟩ : MethodName)) (z := (⟨"java/lang/String", "charAt", "(I)C"⟩ : MethodName)) hown (mvT hZ (tw hw 75 rfl)) (mvT hZ (tw hw 76 rfl)) (notFace_of_selects (args := #[]) (mvT hZ (tw hw 78 rfl))) (mvT hZ (tw hw 78 rfl)) (mvT hZ (tw hw 77 rfl)) (by decide) (StrChars.Road.chN (W := 0) hZ hwwordsChN (kI := 4) (tw hw 21 rfl) Fq1_0 Fq1_2 Fq1_1 Fq1_3 hcd14 hbd14 (Sg0.ext O1.2) nzGC (Sg1.ext O1.2) rGF (Nat.le_of_ble_eq_true rfl) (i := 2) (Nat.le_of_ble_eq_true rfl) (j := (2 : Int32)) rfl (by decide) (by decide)) q15a q15c (g := (mkF m 182 #[iv p0s, iv p1s, iv 7, iv dv3, rv w9, rv dv5, rv b6] [(.int 2), (.ref b6)])) rfl (by rw [hml]; rfl) (Steps.refl _) (argsL := [(.int 2)]) (rest := []) (lenOf pd_6 rfl) rfl (Nat.le_of_eq rfl) (hb hby at_182) (fun _ _ => ⟨rfl, e12, (by decide : 3 + 0 ≤ _), (by decide : 10 + 0 ≤ _)⟩)
  dsimp only [Pt.U, Pt.locs, Pt.cells, Pt.slots] at X15 l15 y15 z15 st15 hQ15
  subst l15 y15 z15
  obtain ⟨rfl, rfl, e15⟩ := hQ15
  have N15 := Fr.app N12 (Fr.nil n0)
  obtain ⟨_, _, ⟨T16, L16, k16x, n16⟩, -, X16, ⟨Lc16, hQ16, l16, y16, z16⟩, st16⟩ := Jvm.LawKit.callS X15 hx (y := (⟨zs8, "expect", "(IIC)C"⟩ : MethodName)) hown (mvT hZ (tw hw 97 rfl)) (mvT hZ (tw hw 98 rfl)) (mvT hZ (tw hw 99 rfl)) (mvT hZ (tw hw 100 rfl)) (by decide) (backOf (W := 1) (rm19_96 l Z a0 hw []  T1.heap n0 Z1 ) hZ (tw hw 100 rfl) (tw hw 99 rfl) (by decide) (by decide)) (g := (mkF m 189 #[iv p0s, iv p1s, iv 7, iv dv3, rv w9, rv dv5, rv b6] [(.int 120), (.int 1), (.int 7), (.int 120)])) rfl (by rw [hml]; rfl) (argsL := [(.int 7), (.int 1), (.int 120)]) (rest := [(.int 120)]) (lenOf pd_7 rfl) rfl (Nat.le_of_eq rfl) (hb hby at_189) (fun _ _ => ⟨rfl, e15, (by decide : 3 + 0 ≤ _), (by decide : 10 + 0 ≤ _)⟩)
  dsimp only [Pt.U, Pt.locs, Pt.cells, Pt.slots] at X16 l16 y16 z16 st16 hQ16
  subst l16 y16 z16
  obtain ⟨rfl, N16q, e16⟩ := hQ16
  have N16 := Fr.app N15 N16q
  obtain ⟨fs, hr, hrun, hended, hW, hsame⟩ := X16.leave (v := some (.int (1 : Int32))) (fun h => by rw [hre] at h; cases h)
  refine ⟨_, _, ?_, hrun, hended, _, _, rfl, ?_, ⟨_, rfl⟩, hW, hsame.mono (by decide) (by decide)⟩
  · show SF p e below T0 (mkF m 72 #[iv p0s, iv p1s, iv 7, iv dv3, rv w9, rv dv5, .unset] []) _
    refine XS.iloadN X0.here hx rfl (hb hby at_72) rfl ?_
    show SF p e below T0 (mkF m 73 #[iv p0s, iv p1s, iv 7, iv dv3, rv w9, rv dv5, .unset] [(.int 7)]) _
    refine XS.ifYes X0.here hx rfl (pc0 := 73) (pc' := 86) rfl (hb hby at_73) rfl ((if0 _ _).trans (feq (by decide : ¬ ((7 : Int32) = (0 : Int32)))).2) (by decide) (by decide) ?_
    show SF p e below T0 (mkF m 86 #[iv p0s, iv p1s, iv 7, iv dv3, rv w9, rv dv5, .unset] []) _
    refine XS.iloadN X0.here hx rfl (hb hby at_86) rfl ?_
    refine XS.iconst X0.here hx rfl (hb hby at_87) ?_
    show SF p e below T0 (mkF m 88 #[iv p0s, iv p1s, iv 7, iv dv3, rv w9, rv dv5, .unset] [(.int 4), (.int 7)]) _
    refine XS.icmpYes X0.here hx rfl (pc0 := 88) (pc' := 101) rfl (hb hby at_88) rfl (feq (by decide : ¬ ((7 : Int32) = (4 : Int32)))).2 (by decide) (by decide) ?_
    show SF p e below T0 (mkF m 101 #[iv p0s, iv p1s, iv 7, iv dv3, rv w9, rv dv5, .unset] []) _
    refine XS.iloadN X0.here hx rfl (hb hby at_101) rfl ?_
    refine XS.iconst X0.here hx rfl (hb hby at_102) ?_
    show SF p e below T0 (mkF m 103 #[iv p0s, iv p1s, iv 7, iv dv3, rv w9, rv dv5, .unset] [(.int 2), (.int 7)]) _
    refine XS.icmpYes X0.here hx rfl (pc0 := 103) (pc' := 116) rfl (hb hby at_103) rfl (feq (by decide : ¬ ((7 : Int32) = (2 : Int32)))).2 (by decide) (by decide) ?_
    show SF p e below T0 (mkF m 116 #[iv p0s, iv p1s, iv 7, iv dv3, rv w9, rv dv5, .unset] []) _
    refine XS.iloadN X0.here hx rfl (hb hby at_116) rfl ?_
    refine XS.iconst X0.here hx rfl (hb hby at_117) ?_
    show SF p e below T0 (mkF m 118 #[iv p0s, iv p1s, iv 7, iv dv3, rv w9, rv dv5, .unset] [(.int 1), (.int 7)]) _
    refine XS.icmpYes X0.here hx rfl (pc0 := 118) (pc' := 131) rfl (hb hby at_118) rfl (feq (by decide : ¬ ((7 : Int32) = (1 : Int32)))).2 (by decide) (by decide) ?_
    show SF p e below T0 (mkF m 131 #[iv p0s, iv p1s, iv 7, iv dv3, rv w9, rv dv5, .unset] []) _
    refine XS.aload X0.here hx rfl (hb hby at_131) rfl rfl ?_
    show SF p e below T0 (mkF m 133 #[iv p0s, iv p1s, iv 7, iv dv3, rv w9, rv dv5, .unset] [(.ref w9)]) _
    refine st1.trans ?_
    show SF p e below T1 (mkF m 136 #[iv p0s, iv p1s, iv 7, iv dv3, rv w9, rv dv5, .unset] [(.ref b6)]) _
    refine XS.astore X1.here hx rfl (hb hby at_136) rfl rfl (l' := #[iv p0s, iv p1s, iv 7, iv dv3, rv w9, rv dv5, rv b6]) rfl ?_
    refine XS.aload X1.here hx rfl (hb hby at_138) rfl rfl ?_
    show SF p e below T1 (mkF m 140 #[iv p0s, iv p1s, iv 7, iv dv3, rv w9, rv dv5, rv b6] [(.ref b6)]) _
    refine st4.trans ?_
    show SF p e below T4 (mkF m 143 #[iv p0s, iv p1s, iv 7, iv dv3, rv w9, rv dv5, rv b6] [(.int 3)]) _
    refine XS.iconst X4.here hx rfl (hb hby at_143) ?_
    show SF p e below T4 (mkF m 144 #[iv p0s, iv p1s, iv 7, iv dv3, rv w9, rv dv5, rv b6] [(.int 3), (.int 3)]) _
    refine XS.icmpNo X4.here hx rfl (hb hby at_144) rfl (teq (by decide : (3 : Int32) = (3 : Int32))).2 ?_
    show SF p e below T4 (mkF m 147 #[iv p0s, iv p1s, iv 7, iv dv3, rv w9, rv dv5, rv b6] []) _
    refine XS.aload X4.here hx rfl (hb hby at_147) rfl rfl ?_
    refine XS.iconst X4.here hx rfl (hb hby at_149) ?_
    show SF p e below T4 (mkF m 150 #[iv p0s, iv p1s, iv 7, iv dv3, rv w9, rv dv5, rv b6] [(.int 0), (.ref b6)]) _
    refine st7.trans ?_
    show SF p e below T7 (mkF m 153 #[iv p0s, iv p1s, iv 7, iv dv3, rv w9, rv dv5, rv b6] [(.int 114)]) _
    refine XS.iloadN X7.here hx rfl (hb hby at_153) rfl ?_
    refine XS.iconst X7.here hx rfl (hb hby at_154) ?_
    show SF p e below T7 (mkF m 155 #[iv p0s, iv p1s, iv 7, iv dv3, rv w9, rv dv5, rv b6] [(.int 4), (.int 7), (.int 114)]) _
    refine XS.bipush X7.here hx rfl (hb hby at_155) ?_
    show SF p e below T7 (mkF m 157 #[iv p0s, iv p1s, iv 7, iv dv3, rv w9, rv dv5, rv b6] [(.int 114), (.int 4), (.int 7), (.int 114)]) _
    refine st8 _ ?_
    show SF p e below T8 (mkF m 160 #[iv p0s, iv p1s, iv 7, iv dv3, rv w9, rv dv5, rv b6] [(.int 114), (.int 114)]) _
    refine XS.icmpNo X8.here hx rfl (hb hby at_160) rfl (teq (by decide : (114 : Int32) = (114 : Int32))).2 ?_
    show SF p e below T8 (mkF m 163 #[iv p0s, iv p1s, iv 7, iv dv3, rv w9, rv dv5, rv b6] []) _
    refine XS.aload X8.here hx rfl (hb hby at_163) rfl rfl ?_
    refine XS.iconst X8.here hx rfl (hb hby at_165) ?_
    show SF p e below T8 (mkF m 166 #[iv p0s, iv p1s, iv 7, iv dv3, rv w9, rv dv5, rv b6] [(.int 1), (.ref b6)]) _
    refine st11.trans ?_
    show SF p e below T11 (mkF m 169 #[iv p0s, iv p1s, iv 7, iv dv3, rv w9, rv dv5, rv b6] [(.int 119)]) _
    refine XS.iloadN X11.here hx rfl (hb hby at_169) rfl ?_
    refine XS.iconst X11.here hx rfl (hb hby at_170) ?_
    show SF p e below T11 (mkF m 171 #[iv p0s, iv p1s, iv 7, iv dv3, rv w9, rv dv5, rv b6] [(.int 2), (.int 7), (.int 119)]) _
    refine XS.bipush X11.here hx rfl (hb hby at_171) ?_
    show SF p e below T11 (mkF m 173 #[iv p0s, iv p1s, iv 7, iv dv3, rv w9, rv dv5, rv b6] [(.int 119), (.int 2), (.int 7), (.int 119)]) _
    refine st12 _ ?_
    show SF p e below T12 (mkF m 176 #[iv p0s, iv p1s, iv 7, iv dv3, rv w9, rv dv5, rv b6] [(.int 119), (.int 119)]) _
    refine XS.icmpNo X12.here hx rfl (hb hby at_176) rfl (teq (by decide : (119 : Int32) = (119 : Int32))).2 ?_
    show SF p e below T12 (mkF m 179 #[iv p0s, iv p1s, iv 7, iv dv3, rv w9, rv dv5, rv b6] []) _
    refine XS.aload X12.here hx rfl (hb hby at_179) rfl rfl ?_
    refine XS.iconst X12.here hx rfl (hb hby at_181) ?_
    show SF p e below T12 (mkF m 182 #[iv p0s, iv p1s, iv 7, iv dv3, rv w9, rv dv5, rv b6] [(.int 2), (.ref b6)]) _
    refine st15.trans ?_
    show SF p e below T15 (mkF m 185 #[iv p0s, iv p1s, iv 7, iv dv3, rv w9, rv dv5, rv b6] [(.int 120)]) _
    refine XS.iloadN X15.here hx rfl (hb hby at_185) rfl ?_
    refine XS.iconst X15.here hx rfl (hb hby at_186) ?_
    show SF p e below T15 (mkF m 187 #[iv p0s, iv p1s, iv 7, iv dv3, rv w9, rv dv5, rv b6] [(.int 1), (.int 7), (.int 120)]) _
    refine XS.bipush X15.here hx rfl (hb hby at_187) ?_
    show SF p e below T15 (mkF m 189 #[iv p0s, iv p1s, iv 7, iv dv3, rv w9, rv dv5, rv b6] [(.int 120), (.int 1), (.int 7), (.int 120)]) _
    refine st16 _ ?_
    show SF p e below T16 (mkF m 192 #[iv p0s, iv p1s, iv 7, iv dv3, rv w9, rv dv5, rv b6] [(.int 120), (.int 120)]) _
    refine XS.icmpNo X16.here hx rfl (hb hby at_192) rfl (teq (by decide : (120 : Int32) = (120 : Int32))).2 ?_
    show SF p e below T16 (mkF m 195 #[iv p0s, iv p1s, iv 7, iv dv3, rv w9, rv dv5, rv b6] []) _
    refine XS.iconst X16.here hx rfl (hb hby at_195) ?_
    refine XS.goto X16.here hx rfl (pc0 := 196) (pc' := 200) rfl (hb hby at_196) (by decide) (by decide) ?_
    show SF p e below T16 (mkF m 200 #[iv p0s, iv p1s, iv 7, iv dv3, rv w9, rv dv5, rv b6] [(.int 1)]) _
    exact retN X16 hx (t := .boolean) hre (by simp) (hb hby at_200) hr
  · exact ⟨rfl, N16⟩
set_option maxRecDepth 65536 in
set_option maxHeartbeats 400000000 in
theorem pc_22 {p : Program} {l : Launch} {e : Env} {s : State} {m : MethodId} {below : List Frame} {meth : Method} {c : Code} {T0 : State} {locs : List Loc} {Z : State} {a0 : Array Value} {h0 : Heap} {n0 : Nat} {p0s : Int32} {p1s : Int32} {GC : Int32} {GF : Value} {w4 : Addr} {w5 : Addr} {w6 : Addr} {w9 : Addr} {dv3 : Int32} {dv5 : Addr} (X0 : Stand p l e room_1 s m #[(.int p0s), (.int p1s)] below meth c T0 locs 0 0) (hx : p.tables.exec = Jvm.exec) (hZ : Z.Warmed39 s.vm) (hw : HW Z a0) (hby : c.code = code) (hml : c.maxLocals = 7) (hown : s.vm.findClass zs8 = some m.cls) (hre : meth.sig.returnType = some .boolean) (hlk : meth.locks = false) (e0 : T0.heap = h0) (N0 : Fr n0 locs) (Z0 : n0 ≤ h0.size) (O0 : Old Z n0 h0) (Sg0 : Sta Z Z.heap "java/lang/String" "COMPACT_STRINGS" "Z" (.int GC)) (Sg1 : Sta Z Z.heap zs9 "SIOOBE_FORMATTER" zs5 GF) (rGF : GF.isRef = true) (nzGC : ¬ (GC = (0 : Int32))) (Sg7 : Sta Z Z.heap zs7 "READ" zs4 (.ref w4)) (Sg9 : Sta Z Z.heap zs7 "WRITE" zs4 (.ref w5)) (Sg11 : Sta Z Z.heap zs7 "EXECUTE" zs4 (.ref w6)) (E_w9 : Exa Z Z.heap w9 zs7) (F_w4_bits : Fld Z Z.heap w4 zs7 "bits" "I" (.int 4)) (F_w5_bits : Fld Z Z.heap w5 zs7 "bits" "I" (.int 2)) (F_w6_bits : Fld Z Z.heap w6 zs7 "bits" "I" (.int 1)) (F_w9_bits : Fld Z Z.heap w9 zs7 "bits" "I" (.int 7)) (P1 : ¬ ((7 : Int32) = dv3)) (P2 : w9 ≠ dv5) :
    Fine p e below s n0 (T0.setTop (mkF m 22 #[iv p0s, iv p1s, iv 7, iv dv3, rv w9, rv dv5, .unset] [])) := by
  obtain ⟨cq1, kq1, q1a, q1b, q1c⟩ := isOf hZ e0 (E_w9.ext O0.2)
  obtain ⟨_, _, ⟨T1, L1, k1x, n1⟩, -, X1, ⟨Lc1, hQ1, l1, y1, z1⟩, st1⟩ := X0.virtualBack hx (y := (⟨zs7, "bits", "()I"⟩ : MethodName)) (z := (⟨zs7, "bits", "()I"⟩ : MethodName)) hown (mvT hZ (tw hw 6 rfl)) (mvT hZ (tw hw 7 rfl)) (notFace_of_selects (args := #[]) (mvT hZ (tw hw 9 rfl))) (mvT hZ (tw hw 9 rfl)) (mvT hZ (tw hw 8 rfl)) (by decide) (backOf (W := 0) (rm2_86 l Z a0 hw [] w9 h0 n0 Z0 F_w9_bits O0) hZ (tw hw 10 rfl) (tw hw 2 rfl) (by decide) (by decide)) q1a q1c (g := (mkF m 36 #[iv p0s, iv p1s, iv 7, iv dv3, rv w9, rv dv5, .unset] [(.ref w9)])) rfl (by rw [hml]; rfl) (Steps.refl _) (argsL := []) (rest := []) (lenOf pd_1 rfl) rfl (Nat.le_of_eq rfl) (hb hby at_36) (fun _ _ => ⟨rfl, e0, (by decide : 0 + 0 ≤ _), (by decide : 0 + 0 ≤ _)⟩)
  dsimp only [Pt.U, Pt.locs, Pt.cells, Pt.slots] at X1 l1 y1 z1 st1 hQ1
  subst l1 y1 z1
  obtain ⟨rfl, N1q, e1⟩ := hQ1
  have N1 := Fr.app N0 N1q
  refine Fine.pre (fun t k => ?_) (pc_23 (dv3 := dv3) (dv5 := dv5) X1 hx hZ hw hby hml hown hre hlk e1 N1 Z0 O0 Sg0 Sg1 rGF nzGC Sg7 Sg9 Sg11 E_w9 F_w4_bits F_w5_bits F_w6_bits F_w9_bits )
  show SF p e below T0 (mkF m 22 #[iv p0s, iv p1s, iv 7, iv dv3, rv w9, rv dv5, .unset] []) _
  refine XS.aload X0.here hx rfl (hb hby at_22) rfl rfl ?_
  show SF p e below T0 (mkF m 24 #[iv p0s, iv p1s, iv 7, iv dv3, rv w9, rv dv5, .unset] [(.ref w9)]) _
  refine XS.ifnullNo X0.here hx rfl (hb hby at_24) rfl ?_
  show SF p e below T0 (mkF m 27 #[iv p0s, iv p1s, iv 7, iv dv3, rv w9, rv dv5, .unset] []) _
  refine XS.aload X0.here hx rfl (hb hby at_27) rfl rfl ?_
  show SF p e below T0 (mkF m 29 #[iv p0s, iv p1s, iv 7, iv dv3, rv w9, rv dv5, .unset] [(.ref dv5)]) _
  refine XS.ifnonnullYes X0.here hx rfl (pc0 := 29) (pc' := 34) rfl (hb hby at_29) rfl (by decide) (by decide) ?_
  show SF p e below T0 (mkF m 34 #[iv p0s, iv p1s, iv 7, iv dv3, rv w9, rv dv5, .unset] []) _
  refine XS.aload X0.here hx rfl (hb hby at_34) rfl rfl ?_
  show SF p e below T0 (mkF m 36 #[iv p0s, iv p1s, iv 7, iv dv3, rv w9, rv dv5, .unset] [(.ref w9)]) _
  refine st1.trans ?_
  show SF p e below T1 (mkF m 39 #[iv p0s, iv p1s, iv 7, iv dv3, rv w9, rv dv5, .unset] [(.int 7)]) _
  refine XS.iloadN X1.here hx rfl (hb hby at_39) rfl ?_
  show SF p e below T1 (mkF m 40 #[iv p0s, iv p1s, iv 7, iv dv3, rv w9, rv dv5, .unset] [(.int 7), (.int 7)]) _
  refine XS.icmpYes X1.here hx rfl (pc0 := 40) (pc' := 45) rfl (hb hby at_40) rfl (teq (by decide : (7 : Int32) = (7 : Int32))).1 (by decide) (by decide) ?_
  show SF p e below T1 (mkF m 45 #[iv p0s, iv p1s, iv 7, iv dv3, rv w9, rv dv5, .unset] []) _
  refine XS.aload X1.here hx rfl (hb hby at_45) rfl rfl ?_
  refine XS.aload X1.here hx rfl (hb hby at_47) rfl rfl ?_
  show SF p e below T1 (mkF m 49 #[iv p0s, iv p1s, iv 7, iv dv3, rv w9, rv dv5, .unset] [(.ref dv5), (.ref w9)]) _
  refine Jvm.RoadKit.acmp (g := (mkF m 49 #[iv p0s, iv p1s, iv 7, iv dv3, rv w9, rv dv5, .unset] [(.ref dv5), (.ref w9)])) X1 hx rfl rfl rfl (pc0 := 49) (pc' := 56) (same := false) rfl (hb hby at_49) rfl (decide_eq_false fun q => P2 (Value.ref.inj q)) (by decide) (by decide) ?_
  show SF p e below T1 (mkF m 56 #[iv p0s, iv p1s, iv 7, iv dv3, rv w9, rv dv5, .unset] []) _
  refine XS.iconst X1.here hx rfl (hb hby at_56) ?_
  refine XS.iloadN X1.here hx rfl (hb hby at_57) rfl ?_
  show SF p e below T1 (mkF m 58 #[iv p0s, iv p1s, iv 7, iv dv3, rv w9, rv dv5, .unset] [(.int 7), (.int 0)]) _
  refine XS.iloadN X1.here hx rfl (hb hby at_58) rfl ?_
  show SF p e below T1 (mkF m 59 #[iv p0s, iv p1s, iv 7, iv dv3, rv w9, rv dv5, .unset] [(.int dv3), (.int 7), (.int 0)]) _
  refine XS.icmpYes X1.here hx rfl (pc0 := 59) (pc' := 66) rfl (hb hby at_59) rfl (feq P1).2 (by decide) (by decide) ?_
  show SF p e below T1 (mkF m 66 #[iv p0s, iv p1s, iv 7, iv dv3, rv w9, rv dv5, .unset] [(.int 0)]) _
  refine XS.iconst X1.here hx rfl (hb hby at_66) ?_
  show SF p e below T1 (mkF m 67 #[iv p0s, iv p1s, iv 7, iv dv3, rv w9, rv dv5, .unset] [(.int 0), (.int 0)]) _
  refine XS.icmpYes X1.here hx rfl (pc0 := 67) (pc' := 72) rfl (hb hby at_67) rfl (teq (by decide : (0 : Int32) = (0 : Int32))).1 (by decide) (by decide) ?_
  exact k
set_option maxRecDepth 65536 in
set_option maxHeartbeats 400000000 in
theorem pc_24 {p : Program} {l : Launch} {e : Env} {s : State} {m : MethodId} {below : List Frame} {meth : Method} {c : Code} {T0 : State} {locs : List Loc} {Z : State} {a0 : Array Value} {h0 : Heap} {n0 : Nat} {p0s : Int32} {p1s : Int32} {GC : Int32} {GF : Value} {w4 : Addr} {w5 : Addr} {w6 : Addr} {w9 : Addr}  (X0 : Stand p l e room_1 s m #[(.int p0s), (.int p1s)] below meth c T0 locs 0 0) (hx : p.tables.exec = Jvm.exec) (hZ : Z.Warmed39 s.vm) (hw : HW Z a0) (hby : c.code = code) (hml : c.maxLocals = 7) (hown : s.vm.findClass zs8 = some m.cls) (hre : meth.sig.returnType = some .boolean) (hlk : meth.locks = false) (e0 : T0.heap = h0) (N0 : Fr n0 locs) (Z0 : n0 ≤ h0.size) (O0 : Old Z n0 h0) (Sg0 : Sta Z Z.heap "java/lang/String" "COMPACT_STRINGS" "Z" (.int GC)) (Sg1 : Sta Z Z.heap zs9 "SIOOBE_FORMATTER" zs5 GF) (rGF : GF.isRef = true) (nzGC : ¬ (GC = (0 : Int32))) (Sg7 : Sta Z Z.heap zs7 "READ" zs4 (.ref w4)) (Sg9 : Sta Z Z.heap zs7 "WRITE" zs4 (.ref w5)) (Sg11 : Sta Z Z.heap zs7 "EXECUTE" zs4 (.ref w6)) (E_w9 : Exa Z Z.heap w9 zs7) (F_w4_bits : Fld Z Z.heap w4 zs7 "bits" "I" (.int 4)) (F_w5_bits : Fld Z Z.heap w5 zs7 "bits" "I" (.int 2)) (F_w6_bits : Fld Z Z.heap w6 zs7 "bits" "I" (.int 1)) (F_w9_bits : Fld Z Z.heap w9 zs7 "bits" "I" (.int 7)) :
    Fine p e below s n0 (T0.setTop (mkF m 22 #[iv p0s, iv p1s, iv 7, iv 7, rv w9, rv w9, .unset] [])) := by
  obtain ⟨cq1, kq1, q1a, q1b, q1c⟩ := isOf hZ e0 (E_w9.ext O0.2)
  obtain ⟨_, _, ⟨T1, L1, k1x, n1⟩, -, X1, ⟨Lc1, hQ1, l1, y1, z1⟩, st1⟩ := X0.virtualBack hx (y := (⟨zs7, "bits", "()I"⟩ : MethodName)) (z := (⟨zs7, "bits", "()I"⟩ : MethodName)) hown (mvT hZ (tw hw 6 rfl)) (mvT hZ (tw hw 7 rfl)) (notFace_of_selects (args := #[]) (mvT hZ (tw hw 9 rfl))) (mvT hZ (tw hw 9 rfl)) (mvT hZ (tw hw 8 rfl)) (by decide) (backOf (W := 0) (rm2_86 l Z a0 hw [] w9 h0 n0 Z0 F_w9_bits O0) hZ (tw hw 10 rfl) (tw hw 2 rfl) (by decide) (by decide)) q1a q1c (g := (mkF m 36 #[iv p0s, iv p1s, iv 7, iv 7, rv w9, rv w9, .unset] [(.ref w9)])) rfl (by rw [hml]; rfl) (Steps.refl _) (argsL := []) (rest := []) (lenOf pd_1 rfl) rfl (Nat.le_of_eq rfl) (hb hby at_36) (fun _ _ => ⟨rfl, e0, (by decide : 0 + 0 ≤ _), (by decide : 0 + 0 ≤ _)⟩)
  dsimp only [Pt.U, Pt.locs, Pt.cells, Pt.slots] at X1 l1 y1 z1 st1 hQ1
  subst l1 y1 z1
  obtain ⟨rfl, N1q, e1⟩ := hQ1
  have N1 := Fr.app N0 N1q
  refine Fine.pre (fun t k => ?_) (pc_23 (dv3 := (7 : Int32)) (dv5 := w9) X1 hx hZ hw hby hml hown hre hlk e1 N1 Z0 O0 Sg0 Sg1 rGF nzGC Sg7 Sg9 Sg11 E_w9 F_w4_bits F_w5_bits F_w6_bits F_w9_bits )
  show SF p e below T0 (mkF m 22 #[iv p0s, iv p1s, iv 7, iv 7, rv w9, rv w9, .unset] []) _
  refine XS.aload X0.here hx rfl (hb hby at_22) rfl rfl ?_
  show SF p e below T0 (mkF m 24 #[iv p0s, iv p1s, iv 7, iv 7, rv w9, rv w9, .unset] [(.ref w9)]) _
  refine XS.ifnullNo X0.here hx rfl (hb hby at_24) rfl ?_
  show SF p e below T0 (mkF m 27 #[iv p0s, iv p1s, iv 7, iv 7, rv w9, rv w9, .unset] []) _
  refine XS.aload X0.here hx rfl (hb hby at_27) rfl rfl ?_
  show SF p e below T0 (mkF m 29 #[iv p0s, iv p1s, iv 7, iv 7, rv w9, rv w9, .unset] [(.ref w9)]) _
  refine XS.ifnonnullYes X0.here hx rfl (pc0 := 29) (pc' := 34) rfl (hb hby at_29) rfl (by decide) (by decide) ?_
  show SF p e below T0 (mkF m 34 #[iv p0s, iv p1s, iv 7, iv 7, rv w9, rv w9, .unset] []) _
  refine XS.aload X0.here hx rfl (hb hby at_34) rfl rfl ?_
  show SF p e below T0 (mkF m 36 #[iv p0s, iv p1s, iv 7, iv 7, rv w9, rv w9, .unset] [(.ref w9)]) _
  refine st1.trans ?_
  show SF p e below T1 (mkF m 39 #[iv p0s, iv p1s, iv 7, iv 7, rv w9, rv w9, .unset] [(.int 7)]) _
  refine XS.iloadN X1.here hx rfl (hb hby at_39) rfl ?_
  show SF p e below T1 (mkF m 40 #[iv p0s, iv p1s, iv 7, iv 7, rv w9, rv w9, .unset] [(.int 7), (.int 7)]) _
  refine XS.icmpYes X1.here hx rfl (pc0 := 40) (pc' := 45) rfl (hb hby at_40) rfl (teq (by decide : (7 : Int32) = (7 : Int32))).1 (by decide) (by decide) ?_
  show SF p e below T1 (mkF m 45 #[iv p0s, iv p1s, iv 7, iv 7, rv w9, rv w9, .unset] []) _
  refine XS.aload X1.here hx rfl (hb hby at_45) rfl rfl ?_
  refine XS.aload X1.here hx rfl (hb hby at_47) rfl rfl ?_
  show SF p e below T1 (mkF m 49 #[iv p0s, iv p1s, iv 7, iv 7, rv w9, rv w9, .unset] [(.ref w9), (.ref w9)]) _
  refine Jvm.RoadKit.acmp (g := (mkF m 49 #[iv p0s, iv p1s, iv 7, iv 7, rv w9, rv w9, .unset] [(.ref w9), (.ref w9)])) X1 hx rfl rfl rfl (pc0 := 49) (pc' := 52) (same := true) rfl (hb hby at_49) rfl (decide_eq_true rfl) (by decide) (by decide) ?_
  show SF p e below T1 (mkF m 52 #[iv p0s, iv p1s, iv 7, iv 7, rv w9, rv w9, .unset] []) _
  refine XS.iconst X1.here hx rfl (hb hby at_52) ?_
  refine XS.goto X1.here hx rfl (pc0 := 53) (pc' := 57) rfl (hb hby at_53) (by decide) (by decide) ?_
  show SF p e below T1 (mkF m 57 #[iv p0s, iv p1s, iv 7, iv 7, rv w9, rv w9, .unset] [(.int 1)]) _
  refine XS.iloadN X1.here hx rfl (hb hby at_57) rfl ?_
  refine XS.iloadN X1.here hx rfl (hb hby at_58) rfl ?_
  show SF p e below T1 (mkF m 59 #[iv p0s, iv p1s, iv 7, iv 7, rv w9, rv w9, .unset] [(.int 7), (.int 7), (.int 1)]) _
  refine XS.icmpNo X1.here hx rfl (hb hby at_59) rfl (teq (by decide : (7 : Int32) = (7 : Int32))).2 ?_
  show SF p e below T1 (mkF m 62 #[iv p0s, iv p1s, iv 7, iv 7, rv w9, rv w9, .unset] [(.int 1)]) _
  refine XS.iconst X1.here hx rfl (hb hby at_62) ?_
  refine XS.goto X1.here hx rfl (pc0 := 63) (pc' := 67) rfl (hb hby at_63) (by decide) (by decide) ?_
  show SF p e below T1 (mkF m 67 #[iv p0s, iv p1s, iv 7, iv 7, rv w9, rv w9, .unset] [(.int 1), (.int 1)]) _
  refine XS.icmpYes X1.here hx rfl (pc0 := 67) (pc' := 72) rfl (hb hby at_67) rfl (teq (by decide : (1 : Int32) = (1 : Int32))).1 (by decide) (by decide) ?_
  exact k
theorem ef_6 (m : MethodId) (x0 : Int32) (x1 : Int32) : entryFrame m #[(.int x0), (.int x1)] maxLocals = mkF m 0 #[.val (.int x0), .val (.int x1), .unset, .unset, .unset, .unset, .unset] [] := by first | (simp [entryFrame, mkF, argsToLocals, Value.category, maxLocals]; done) | rfl
set_option maxRecDepth 65536 in
set_option maxHeartbeats 400000000 in
theorem rm0 (l : Launch) (Z : State) (a0 : Array Value) (hw : HW Z a0) (ws : List Jvm.Cond) (p0s : Int32) (p1s : Int32) (GC : Int32) (GF : Value) (w1 : Addr) (w2 : Addr) (w3 : Addr) (w4 : Addr) (w5 : Addr) (w6 : Addr) (w7 : Addr) (w8 : Addr) (w9 : Addr) (kw1 : ClassId) (h0 : Heap) (n0 : Nat) (Z0 : n0 ≤ h0.size) (O0 : Old Z n0 h0) (Sg0 : Sta Z Z.heap "java/lang/String" "COMPACT_STRINGS" "Z" (.int GC)) (Sg1 : Sta Z Z.heap zs9 "SIOOBE_FORMATTER" zs5 GF) (rGF : GF.isRef = true) (nzGC : ¬ (GC = (0 : Int32))) (Sg4 : Sta Z Z.heap zs7 "SETS" zs6 (.ref w1)) (E_w2 : Exa Z Z.heap w2 zs7) (E_w3 : Exa Z Z.heap w3 zs7) (Sg7 : Sta Z Z.heap zs7 "READ" zs4 (.ref w4)) (E_w4 : Exa Z Z.heap w4 zs7) (Sg9 : Sta Z Z.heap zs7 "WRITE" zs4 (.ref w5)) (E_w5 : Exa Z Z.heap w5 zs7) (Sg11 : Sta Z Z.heap zs7 "EXECUTE" zs4 (.ref w6)) (E_w6 : Exa Z Z.heap w6 zs7) (E_w7 : Exa Z Z.heap w7 zs7) (E_w8 : Exa Z Z.heap w8 zs7) (E_w9 : Exa Z Z.heap w9 zs7) (Sg16 : Sta Z Z.heap zs7 "NONE" zs4 (.ref w2)) (F_w2_bits : Fld Z Z.heap w2 zs7 "bits" "I" (.int 0)) (F_w4_bits : Fld Z Z.heap w4 zs7 "bits" "I" (.int 4)) (F_w5_bits : Fld Z Z.heap w5 zs7 "bits" "I" (.int 2)) (F_w6_bits : Fld Z Z.heap w6 zs7 "bits" "I" (.int 1)) (F_w7_bits : Fld Z Z.heap w7 zs7 "bits" "I" (.int 6)) (F_w8_bits : Fld Z Z.heap w8 zs7 "bits" "I" (.int 5)) (F_w9_bits : Fld Z Z.heap w9 zs7 "bits" "I" (.int 7)) (F_w3_bits : Fld Z Z.heap w3 zs7 "bits" "I" (.int 3)) (V_w1 : Arv Z Z.heap w1 kw1 (.object zs7) (8 : Int32) [(.ref w2), (.ref w6), (.ref w5), (.ref w3), (.ref w4), (.ref w8), (.ref w7), (.ref w9)] .null) :
    MF l Z x (Jvm.Cond.code x code maxLocals ret) ws room_1 #[(.int p0s), (.int p1s)] h0 (fun v _ L => v = some (.int (1 : Int32)) ∧ Fr n0 L) := by
  refine own_enter (plainFor_of_name pn_1) fun p e s m below meth c s₁ X0 hx hby hml hown hnm hZ e0 hre hlk => ?_
  have N0 := Fr.nil n0
  have pre0 : ∀ t, SF p e below s₁ (mkF m 0 #[iv p0s, iv p1s, .unset, .unset, .unset, .unset, .unset] []) t → SF p e below s₁ (entryFrame m #[(.int p0s), (.int p1s)] maxLocals) t := fun t k => castTop (ef_6 m p0s p1s) k
  show Fine p e below s n0 _
  have pre1 : ∀ t, SF p e below s₁ (mkF m 4 #[iv p0s, iv p1s, .unset, .unset, .unset, .unset, .unset] [(.int (p0s &&& (7 : Int32)))]) t → SF p e below s₁ (mkF m 0 #[iv p0s, iv p1s, .unset, .unset, .unset, .unset, .unset] []) t := fun t k => by
    show SF p e below s₁ (mkF m 0 #[iv p0s, iv p1s, .unset, .unset, .unset, .unset, .unset] []) _
    refine XS.iloadN X0.here hx rfl (hb hby at_0) rfl ?_
    refine XS.bipush X0.here hx rfl (hb hby at_1) ?_
    show SF p e below s₁ (mkF m 3 #[iv p0s, iv p1s, .unset, .unset, .unset, .unset, .unset] [(.int 7), (.int p0s)]) _
    refine XS.iand X0.here hx rfl (hb hby at_3) rfl ?_
    exact k
  rcases own_and7 p0s with hc1 | hc1 | hc1 | hc1 | hc1 | hc1 | hc1 | hc1
  · obtain ⟨_, _, ⟨T1, L1, k1x, n1⟩, -, X1, ⟨Lc1, hQ1, l1, y1, z1⟩, st1⟩ := Jvm.LawKit.callS X0 hx (y := (⟨zs7, "of", zs1⟩ : MethodName)) hown (mvT hZ (tw hw 0 rfl)) (mvT hZ (tw hw 1 rfl)) (mvT hZ (tw hw 2 rfl)) (mvT hZ (tw hw 3 rfl)) (by decide) (backOf (W := 0) (rm1_1 l Z a0 hw [] w1 kw1 w2 w6 w5 w3 w4 w8 w7 w9 h0 n0 Z0 Sg4 O0 V_w1) hZ (tw hw 3 rfl) (tw hw 2 rfl) (by decide) (by decide)) (g := (mkF m 11 #[iv p0s, iv p1s, iv 0, iv (p1s &&& (7 : Int32)), .unset, .unset, .unset] [(.int 0)])) rfl (by rw [hml]; rfl) (argsL := [(.int 0)]) (rest := []) (lenOf pd_0 rfl) rfl (Nat.le_of_eq rfl) (hb hby at_11) (fun _ _ => ⟨rfl, e0, (by decide : 0 + 0 ≤ _), (by decide : 0 + 0 ≤ _)⟩)
    dsimp only [Pt.U, Pt.locs, Pt.cells, Pt.slots] at X1 l1 y1 z1 st1 hQ1
    subst l1 y1 z1
    obtain ⟨rfl, N1q, e1⟩ := hQ1
    have N1 := Fr.app N0 N1q
    have pre2 : ∀ t, SF p e below T1 (mkF m 17 #[iv p0s, iv p1s, iv 0, iv (p1s &&& (7 : Int32)), rv w2, .unset, .unset] [(.int (p1s &&& (7 : Int32)))]) t → SF p e below s₁ (mkF m 4 #[iv p0s, iv p1s, .unset, .unset, .unset, .unset, .unset] [(.int (p0s &&& (7 : Int32)))]) t := fun t k => by
      show SF p e below s₁ (mkF m 4 #[iv p0s, iv p1s, .unset, .unset, .unset, .unset, .unset] [(.int (p0s &&& (7 : Int32)))]) _
      rw [hc1]
      show SF p e below s₁ (mkF m 4 #[iv p0s, iv p1s, .unset, .unset, .unset, .unset, .unset] [(.int 0)]) _
      refine XS.istoreN X0.here hx rfl (hb hby at_4) rfl (l' := #[iv p0s, iv p1s, iv 0, .unset, .unset, .unset, .unset]) rfl ?_
      refine XS.iloadN X0.here hx rfl (hb hby at_5) rfl ?_
      show SF p e below s₁ (mkF m 6 #[iv p0s, iv p1s, iv 0, .unset, .unset, .unset, .unset] [(.int p1s)]) _
      refine XS.bipush X0.here hx rfl (hb hby at_6) ?_
      show SF p e below s₁ (mkF m 8 #[iv p0s, iv p1s, iv 0, .unset, .unset, .unset, .unset] [(.int 7), (.int p1s)]) _
      refine XS.iand X0.here hx rfl (hb hby at_8) rfl ?_
      show SF p e below s₁ (mkF m 9 #[iv p0s, iv p1s, iv 0, .unset, .unset, .unset, .unset] [(.int (p1s &&& (7 : Int32)))]) _
      refine XS.istoreN X0.here hx rfl (hb hby at_9) rfl (l' := #[iv p0s, iv p1s, iv 0, iv (p1s &&& (7 : Int32)), .unset, .unset, .unset]) rfl ?_
      refine XS.iloadN X0.here hx rfl (hb hby at_10) rfl ?_
      show SF p e below s₁ (mkF m 11 #[iv p0s, iv p1s, iv 0, iv (p1s &&& (7 : Int32)), .unset, .unset, .unset] [(.int 0)]) _
      refine st1 _ ?_
      show SF p e below T1 (mkF m 14 #[iv p0s, iv p1s, iv 0, iv (p1s &&& (7 : Int32)), .unset, .unset, .unset] [(.ref w2)]) _
      refine XS.astore X1.here hx rfl (hb hby at_14) rfl rfl (l' := #[iv p0s, iv p1s, iv 0, iv (p1s &&& (7 : Int32)), rv w2, .unset, .unset]) rfl ?_
      refine XS.iloadN X1.here hx rfl (hb hby at_16) rfl ?_
      exact k
    rcases own_and7 p1s with hc2 | hc2 | hc2 | hc2 | hc2 | hc2 | hc2 | hc2
    · obtain ⟨_, _, ⟨T2, L2, k2x, n2⟩, -, X2, ⟨Lc2, hQ2, l2, y2, z2⟩, st2⟩ := Jvm.LawKit.callS X1 hx (y := (⟨zs7, "of", zs1⟩ : MethodName)) hown (mvT hZ (tw hw 0 rfl)) (mvT hZ (tw hw 1 rfl)) (mvT hZ (tw hw 2 rfl)) (mvT hZ (tw hw 3 rfl)) (by decide) (backOf (W := 0) (rm1_1 l Z a0 hw [] w1 kw1 w2 w6 w5 w3 w4 w8 w7 w9 h0 n0 Z0 Sg4 O0 V_w1) hZ (tw hw 3 rfl) (tw hw 2 rfl) (by decide) (by decide)) (g := (mkF m 17 #[iv p0s, iv p1s, iv 0, iv 0, rv w2, .unset, .unset] [(.int 0)])) rfl (by rw [hml]; rfl) (argsL := [(.int 0)]) (rest := []) (lenOf pd_0 rfl) rfl (Nat.le_of_eq rfl) (hb hby at_17) (fun _ _ => ⟨rfl, e1, (by decide : 0 + 0 ≤ _), (by decide : 0 + 0 ≤ _)⟩)
      dsimp only [Pt.U, Pt.locs, Pt.cells, Pt.slots] at X2 l2 y2 z2 st2 hQ2
      subst l2 y2 z2
      obtain ⟨rfl, N2q, e2⟩ := hQ2
      have N2 := Fr.app N1 N2q
      refine Fine.pre (fun t k => pre0 _ (pre1 _ (pre2 _ (?_)))) (pc_1 X2 hx hZ hw hby hml hown hre hlk e2 N2 Z0 O0 Sg0 Sg1 rGF nzGC E_w2 Sg7 Sg9 Sg11 Sg16 F_w2_bits F_w4_bits F_w5_bits F_w6_bits )
      show SF p e below T1 (mkF m 17 #[iv p0s, iv p1s, iv 0, iv (p1s &&& (7 : Int32)), rv w2, .unset, .unset] [(.int (p1s &&& (7 : Int32)))]) _
      rw [hc2]
      show SF p e below T1 (mkF m 17 #[iv p0s, iv p1s, iv 0, iv 0, rv w2, .unset, .unset] [(.int 0)]) _
      refine st2 _ ?_
      show SF p e below T2 (mkF m 20 #[iv p0s, iv p1s, iv 0, iv 0, rv w2, .unset, .unset] [(.ref w2)]) _
      refine XS.astore X2.here hx rfl (hb hby at_20) rfl rfl (l' := #[iv p0s, iv p1s, iv 0, iv 0, rv w2, rv w2, .unset]) rfl ?_
      exact k
    · obtain ⟨_, _, ⟨T2, L2, k2x, n2⟩, -, X2, ⟨Lc2, hQ2, l2, y2, z2⟩, st2⟩ := Jvm.LawKit.callS X1 hx (y := (⟨zs7, "of", zs1⟩ : MethodName)) hown (mvT hZ (tw hw 0 rfl)) (mvT hZ (tw hw 1 rfl)) (mvT hZ (tw hw 2 rfl)) (mvT hZ (tw hw 3 rfl)) (by decide) (backOf (W := 0) (rm1_13 l Z a0 hw [] w1 kw1 w2 w6 w5 w3 w4 w8 w7 w9 h0 n0 Z0 Sg4 O0 V_w1) hZ (tw hw 3 rfl) (tw hw 2 rfl) (by decide) (by decide)) (g := (mkF m 17 #[iv p0s, iv p1s, iv 0, iv 1, rv w2, .unset, .unset] [(.int 1)])) rfl (by rw [hml]; rfl) (argsL := [(.int 1)]) (rest := []) (lenOf pd_0 rfl) rfl (Nat.le_of_eq rfl) (hb hby at_17) (fun _ _ => ⟨rfl, e1, (by decide : 0 + 0 ≤ _), (by decide : 0 + 0 ≤ _)⟩)
      dsimp only [Pt.U, Pt.locs, Pt.cells, Pt.slots] at X2 l2 y2 z2 st2 hQ2
      subst l2 y2 z2
      obtain ⟨rfl, N2q, e2⟩ := hQ2
      have N2 := Fr.app N1 N2q
      refine Fine.pre (fun t k => pre0 _ (pre1 _ (pre2 _ (?_)))) (pc_3 (dv3 := (1 : Int32)) (dv5 := w6) X2 hx hZ hw hby hml hown hre hlk e2 N2 Z0 O0 Sg0 Sg1 rGF nzGC E_w2 Sg7 Sg9 Sg11 Sg16 F_w2_bits F_w4_bits F_w5_bits F_w6_bits (by decide) (Fld.ne F_w2_bits F_w6_bits (by decide)))
      show SF p e below T1 (mkF m 17 #[iv p0s, iv p1s, iv 0, iv (p1s &&& (7 : Int32)), rv w2, .unset, .unset] [(.int (p1s &&& (7 : Int32)))]) _
      rw [hc2]
      show SF p e below T1 (mkF m 17 #[iv p0s, iv p1s, iv 0, iv 1, rv w2, .unset, .unset] [(.int 1)]) _
      refine st2 _ ?_
      show SF p e below T2 (mkF m 20 #[iv p0s, iv p1s, iv 0, iv 1, rv w2, .unset, .unset] [(.ref w6)]) _
      refine XS.astore X2.here hx rfl (hb hby at_20) rfl rfl (l' := #[iv p0s, iv p1s, iv 0, iv 1, rv w2, rv w6, .unset]) rfl ?_
      exact k
    · obtain ⟨_, _, ⟨T2, L2, k2x, n2⟩, -, X2, ⟨Lc2, hQ2, l2, y2, z2⟩, st2⟩ := Jvm.LawKit.callS X1 hx (y := (⟨zs7, "of", zs1⟩ : MethodName)) hown (mvT hZ (tw hw 0 rfl)) (mvT hZ (tw hw 1 rfl)) (mvT hZ (tw hw 2 rfl)) (mvT hZ (tw hw 3 rfl)) (by decide) (backOf (W := 0) (rm1_14 l Z a0 hw [] w1 kw1 w2 w6 w5 w3 w4 w8 w7 w9 h0 n0 Z0 Sg4 O0 V_w1) hZ (tw hw 3 rfl) (tw hw 2 rfl) (by decide) (by decide)) (g := (mkF m 17 #[iv p0s, iv p1s, iv 0, iv 2, rv w2, .unset, .unset] [(.int 2)])) rfl (by rw [hml]; rfl) (argsL := [(.int 2)]) (rest := []) (lenOf pd_0 rfl) rfl (Nat.le_of_eq rfl) (hb hby at_17) (fun _ _ => ⟨rfl, e1, (by decide : 0 + 0 ≤ _), (by decide : 0 + 0 ≤ _)⟩)
      dsimp only [Pt.U, Pt.locs, Pt.cells, Pt.slots] at X2 l2 y2 z2 st2 hQ2
      subst l2 y2 z2
      obtain ⟨rfl, N2q, e2⟩ := hQ2
      have N2 := Fr.app N1 N2q
      refine Fine.pre (fun t k => pre0 _ (pre1 _ (pre2 _ (?_)))) (pc_3 (dv3 := (2 : Int32)) (dv5 := w5) X2 hx hZ hw hby hml hown hre hlk e2 N2 Z0 O0 Sg0 Sg1 rGF nzGC E_w2 Sg7 Sg9 Sg11 Sg16 F_w2_bits F_w4_bits F_w5_bits F_w6_bits (by decide) (Fld.ne F_w2_bits F_w5_bits (by decide)))
      show SF p e below T1 (mkF m 17 #[iv p0s, iv p1s, iv 0, iv (p1s &&& (7 : Int32)), rv w2, .unset, .unset] [(.int (p1s &&& (7 : Int32)))]) _
      rw [hc2]
      show SF p e below T1 (mkF m 17 #[iv p0s, iv p1s, iv 0, iv 2, rv w2, .unset, .unset] [(.int 2)]) _
      refine st2 _ ?_
      show SF p e below T2 (mkF m 20 #[iv p0s, iv p1s, iv 0, iv 2, rv w2, .unset, .unset] [(.ref w5)]) _
      refine XS.astore X2.here hx rfl (hb hby at_20) rfl rfl (l' := #[iv p0s, iv p1s, iv 0, iv 2, rv w2, rv w5, .unset]) rfl ?_
      exact k
    · obtain ⟨_, _, ⟨T2, L2, k2x, n2⟩, -, X2, ⟨Lc2, hQ2, l2, y2, z2⟩, st2⟩ := Jvm.LawKit.callS X1 hx (y := (⟨zs7, "of", zs1⟩ : MethodName)) hown (mvT hZ (tw hw 0 rfl)) (mvT hZ (tw hw 1 rfl)) (mvT hZ (tw hw 2 rfl)) (mvT hZ (tw hw 3 rfl)) (by decide) (backOf (W := 0) (rm1_15 l Z a0 hw [] w1 kw1 w2 w6 w5 w3 w4 w8 w7 w9 h0 n0 Z0 Sg4 O0 V_w1) hZ (tw hw 3 rfl) (tw hw 2 rfl) (by decide) (by decide)) (g := (mkF m 17 #[iv p0s, iv p1s, iv 0, iv 3, rv w2, .unset, .unset] [(.int 3)])) rfl (by rw [hml]; rfl) (argsL := [(.int 3)]) (rest := []) (lenOf pd_0 rfl) rfl (Nat.le_of_eq rfl) (hb hby at_17) (fun _ _ => ⟨rfl, e1, (by decide : 0 + 0 ≤ _), (by decide : 0 + 0 ≤ _)⟩)
      dsimp only [Pt.U, Pt.locs, Pt.cells, Pt.slots] at X2 l2 y2 z2 st2 hQ2
      subst l2 y2 z2
      obtain ⟨rfl, N2q, e2⟩ := hQ2
      have N2 := Fr.app N1 N2q
      refine Fine.pre (fun t k => pre0 _ (pre1 _ (pre2 _ (?_)))) (pc_3 (dv3 := (3 : Int32)) (dv5 := w3) X2 hx hZ hw hby hml hown hre hlk e2 N2 Z0 O0 Sg0 Sg1 rGF nzGC E_w2 Sg7 Sg9 Sg11 Sg16 F_w2_bits F_w4_bits F_w5_bits F_w6_bits (by decide) (Fld.ne F_w2_bits F_w3_bits (by decide)))
      show SF p e below T1 (mkF m 17 #[iv p0s, iv p1s, iv 0, iv (p1s &&& (7 : Int32)), rv w2, .unset, .unset] [(.int (p1s &&& (7 : Int32)))]) _
      rw [hc2]
      show SF p e below T1 (mkF m 17 #[iv p0s, iv p1s, iv 0, iv 3, rv w2, .unset, .unset] [(.int 3)]) _
      refine st2 _ ?_
      show SF p e below T2 (mkF m 20 #[iv p0s, iv p1s, iv 0, iv 3, rv w2, .unset, .unset] [(.ref w3)]) _
      refine XS.astore X2.here hx rfl (hb hby at_20) rfl rfl (l' := #[iv p0s, iv p1s, iv 0, iv 3, rv w2, rv w3, .unset]) rfl ?_
      exact k
    · obtain ⟨_, _, ⟨T2, L2, k2x, n2⟩, -, X2, ⟨Lc2, hQ2, l2, y2, z2⟩, st2⟩ := Jvm.LawKit.callS X1 hx (y := (⟨zs7, "of", zs1⟩ : MethodName)) hown (mvT hZ (tw hw 0 rfl)) (mvT hZ (tw hw 1 rfl)) (mvT hZ (tw hw 2 rfl)) (mvT hZ (tw hw 3 rfl)) (by decide) (backOf (W := 0) (rm1_16 l Z a0 hw [] w1 kw1 w2 w6 w5 w3 w4 w8 w7 w9 h0 n0 Z0 Sg4 O0 V_w1) hZ (tw hw 3 rfl) (tw hw 2 rfl) (by decide) (by decide)) (g := (mkF m 17 #[iv p0s, iv p1s, iv 0, iv 4, rv w2, .unset, .unset] [(.int 4)])) rfl (by rw [hml]; rfl) (argsL := [(.int 4)]) (rest := []) (lenOf pd_0 rfl) rfl (Nat.le_of_eq rfl) (hb hby at_17) (fun _ _ => ⟨rfl, e1, (by decide : 0 + 0 ≤ _), (by decide : 0 + 0 ≤ _)⟩)
      dsimp only [Pt.U, Pt.locs, Pt.cells, Pt.slots] at X2 l2 y2 z2 st2 hQ2
      subst l2 y2 z2
      obtain ⟨rfl, N2q, e2⟩ := hQ2
      have N2 := Fr.app N1 N2q
      refine Fine.pre (fun t k => pre0 _ (pre1 _ (pre2 _ (?_)))) (pc_3 (dv3 := (4 : Int32)) (dv5 := w4) X2 hx hZ hw hby hml hown hre hlk e2 N2 Z0 O0 Sg0 Sg1 rGF nzGC E_w2 Sg7 Sg9 Sg11 Sg16 F_w2_bits F_w4_bits F_w5_bits F_w6_bits (by decide) (Fld.ne F_w2_bits F_w4_bits (by decide)))
      show SF p e below T1 (mkF m 17 #[iv p0s, iv p1s, iv 0, iv (p1s &&& (7 : Int32)), rv w2, .unset, .unset] [(.int (p1s &&& (7 : Int32)))]) _
      rw [hc2]
      show SF p e below T1 (mkF m 17 #[iv p0s, iv p1s, iv 0, iv 4, rv w2, .unset, .unset] [(.int 4)]) _
      refine st2 _ ?_
      show SF p e below T2 (mkF m 20 #[iv p0s, iv p1s, iv 0, iv 4, rv w2, .unset, .unset] [(.ref w4)]) _
      refine XS.astore X2.here hx rfl (hb hby at_20) rfl rfl (l' := #[iv p0s, iv p1s, iv 0, iv 4, rv w2, rv w4, .unset]) rfl ?_
      exact k
    · obtain ⟨_, _, ⟨T2, L2, k2x, n2⟩, -, X2, ⟨Lc2, hQ2, l2, y2, z2⟩, st2⟩ := Jvm.LawKit.callS X1 hx (y := (⟨zs7, "of", zs1⟩ : MethodName)) hown (mvT hZ (tw hw 0 rfl)) (mvT hZ (tw hw 1 rfl)) (mvT hZ (tw hw 2 rfl)) (mvT hZ (tw hw 3 rfl)) (by decide) (backOf (W := 0) (rm1_17 l Z a0 hw [] w1 kw1 w2 w6 w5 w3 w4 w8 w7 w9 h0 n0 Z0 Sg4 O0 V_w1) hZ (tw hw 3 rfl) (tw hw 2 rfl) (by decide) (by decide)) (g := (mkF m 17 #[iv p0s, iv p1s, iv 0, iv 5, rv w2, .unset, .unset] [(.int 5)])) rfl (by rw [hml]; rfl) (argsL := [(.int 5)]) (rest := []) (lenOf pd_0 rfl) rfl (Nat.le_of_eq rfl) (hb hby at_17) (fun _ _ => ⟨rfl, e1, (by decide : 0 + 0 ≤ _), (by decide : 0 + 0 ≤ _)⟩)
      dsimp only [Pt.U, Pt.locs, Pt.cells, Pt.slots] at X2 l2 y2 z2 st2 hQ2
      subst l2 y2 z2
      obtain ⟨rfl, N2q, e2⟩ := hQ2
      have N2 := Fr.app N1 N2q
      refine Fine.pre (fun t k => pre0 _ (pre1 _ (pre2 _ (?_)))) (pc_3 (dv3 := (5 : Int32)) (dv5 := w8) X2 hx hZ hw hby hml hown hre hlk e2 N2 Z0 O0 Sg0 Sg1 rGF nzGC E_w2 Sg7 Sg9 Sg11 Sg16 F_w2_bits F_w4_bits F_w5_bits F_w6_bits (by decide) (Fld.ne F_w2_bits F_w8_bits (by decide)))
      show SF p e below T1 (mkF m 17 #[iv p0s, iv p1s, iv 0, iv (p1s &&& (7 : Int32)), rv w2, .unset, .unset] [(.int (p1s &&& (7 : Int32)))]) _
      rw [hc2]
      show SF p e below T1 (mkF m 17 #[iv p0s, iv p1s, iv 0, iv 5, rv w2, .unset, .unset] [(.int 5)]) _
      refine st2 _ ?_
      show SF p e below T2 (mkF m 20 #[iv p0s, iv p1s, iv 0, iv 5, rv w2, .unset, .unset] [(.ref w8)]) _
      refine XS.astore X2.here hx rfl (hb hby at_20) rfl rfl (l' := #[iv p0s, iv p1s, iv 0, iv 5, rv w2, rv w8, .unset]) rfl ?_
      exact k
    · obtain ⟨_, _, ⟨T2, L2, k2x, n2⟩, -, X2, ⟨Lc2, hQ2, l2, y2, z2⟩, st2⟩ := Jvm.LawKit.callS X1 hx (y := (⟨zs7, "of", zs1⟩ : MethodName)) hown (mvT hZ (tw hw 0 rfl)) (mvT hZ (tw hw 1 rfl)) (mvT hZ (tw hw 2 rfl)) (mvT hZ (tw hw 3 rfl)) (by decide) (backOf (W := 0) (rm1_18 l Z a0 hw [] w1 kw1 w2 w6 w5 w3 w4 w8 w7 w9 h0 n0 Z0 Sg4 O0 V_w1) hZ (tw hw 3 rfl) (tw hw 2 rfl) (by decide) (by decide)) (g := (mkF m 17 #[iv p0s, iv p1s, iv 0, iv 6, rv w2, .unset, .unset] [(.int 6)])) rfl (by rw [hml]; rfl) (argsL := [(.int 6)]) (rest := []) (lenOf pd_0 rfl) rfl (Nat.le_of_eq rfl) (hb hby at_17) (fun _ _ => ⟨rfl, e1, (by decide : 0 + 0 ≤ _), (by decide : 0 + 0 ≤ _)⟩)
      dsimp only [Pt.U, Pt.locs, Pt.cells, Pt.slots] at X2 l2 y2 z2 st2 hQ2
      subst l2 y2 z2
      obtain ⟨rfl, N2q, e2⟩ := hQ2
      have N2 := Fr.app N1 N2q
      refine Fine.pre (fun t k => pre0 _ (pre1 _ (pre2 _ (?_)))) (pc_3 (dv3 := (6 : Int32)) (dv5 := w7) X2 hx hZ hw hby hml hown hre hlk e2 N2 Z0 O0 Sg0 Sg1 rGF nzGC E_w2 Sg7 Sg9 Sg11 Sg16 F_w2_bits F_w4_bits F_w5_bits F_w6_bits (by decide) (Fld.ne F_w2_bits F_w7_bits (by decide)))
      show SF p e below T1 (mkF m 17 #[iv p0s, iv p1s, iv 0, iv (p1s &&& (7 : Int32)), rv w2, .unset, .unset] [(.int (p1s &&& (7 : Int32)))]) _
      rw [hc2]
      show SF p e below T1 (mkF m 17 #[iv p0s, iv p1s, iv 0, iv 6, rv w2, .unset, .unset] [(.int 6)]) _
      refine st2 _ ?_
      show SF p e below T2 (mkF m 20 #[iv p0s, iv p1s, iv 0, iv 6, rv w2, .unset, .unset] [(.ref w7)]) _
      refine XS.astore X2.here hx rfl (hb hby at_20) rfl rfl (l' := #[iv p0s, iv p1s, iv 0, iv 6, rv w2, rv w7, .unset]) rfl ?_
      exact k
    · obtain ⟨_, _, ⟨T2, L2, k2x, n2⟩, -, X2, ⟨Lc2, hQ2, l2, y2, z2⟩, st2⟩ := Jvm.LawKit.callS X1 hx (y := (⟨zs7, "of", zs1⟩ : MethodName)) hown (mvT hZ (tw hw 0 rfl)) (mvT hZ (tw hw 1 rfl)) (mvT hZ (tw hw 2 rfl)) (mvT hZ (tw hw 3 rfl)) (by decide) (backOf (W := 0) (rm1_19 l Z a0 hw [] w1 kw1 w2 w6 w5 w3 w4 w8 w7 w9 h0 n0 Z0 Sg4 O0 V_w1) hZ (tw hw 3 rfl) (tw hw 2 rfl) (by decide) (by decide)) (g := (mkF m 17 #[iv p0s, iv p1s, iv 0, iv 7, rv w2, .unset, .unset] [(.int 7)])) rfl (by rw [hml]; rfl) (argsL := [(.int 7)]) (rest := []) (lenOf pd_0 rfl) rfl (Nat.le_of_eq rfl) (hb hby at_17) (fun _ _ => ⟨rfl, e1, (by decide : 0 + 0 ≤ _), (by decide : 0 + 0 ≤ _)⟩)
      dsimp only [Pt.U, Pt.locs, Pt.cells, Pt.slots] at X2 l2 y2 z2 st2 hQ2
      subst l2 y2 z2
      obtain ⟨rfl, N2q, e2⟩ := hQ2
      have N2 := Fr.app N1 N2q
      refine Fine.pre (fun t k => pre0 _ (pre1 _ (pre2 _ (?_)))) (pc_3 (dv3 := (7 : Int32)) (dv5 := w9) X2 hx hZ hw hby hml hown hre hlk e2 N2 Z0 O0 Sg0 Sg1 rGF nzGC E_w2 Sg7 Sg9 Sg11 Sg16 F_w2_bits F_w4_bits F_w5_bits F_w6_bits (by decide) (Fld.ne F_w2_bits F_w9_bits (by decide)))
      show SF p e below T1 (mkF m 17 #[iv p0s, iv p1s, iv 0, iv (p1s &&& (7 : Int32)), rv w2, .unset, .unset] [(.int (p1s &&& (7 : Int32)))]) _
      rw [hc2]
      show SF p e below T1 (mkF m 17 #[iv p0s, iv p1s, iv 0, iv 7, rv w2, .unset, .unset] [(.int 7)]) _
      refine st2 _ ?_
      show SF p e below T2 (mkF m 20 #[iv p0s, iv p1s, iv 0, iv 7, rv w2, .unset, .unset] [(.ref w9)]) _
      refine XS.astore X2.here hx rfl (hb hby at_20) rfl rfl (l' := #[iv p0s, iv p1s, iv 0, iv 7, rv w2, rv w9, .unset]) rfl ?_
      exact k
  · obtain ⟨_, _, ⟨T1, L1, k1x, n1⟩, -, X1, ⟨Lc1, hQ1, l1, y1, z1⟩, st1⟩ := Jvm.LawKit.callS X0 hx (y := (⟨zs7, "of", zs1⟩ : MethodName)) hown (mvT hZ (tw hw 0 rfl)) (mvT hZ (tw hw 1 rfl)) (mvT hZ (tw hw 2 rfl)) (mvT hZ (tw hw 3 rfl)) (by decide) (backOf (W := 0) (rm1_13 l Z a0 hw [] w1 kw1 w2 w6 w5 w3 w4 w8 w7 w9 h0 n0 Z0 Sg4 O0 V_w1) hZ (tw hw 3 rfl) (tw hw 2 rfl) (by decide) (by decide)) (g := (mkF m 11 #[iv p0s, iv p1s, iv 1, iv (p1s &&& (7 : Int32)), .unset, .unset, .unset] [(.int 1)])) rfl (by rw [hml]; rfl) (argsL := [(.int 1)]) (rest := []) (lenOf pd_0 rfl) rfl (Nat.le_of_eq rfl) (hb hby at_11) (fun _ _ => ⟨rfl, e0, (by decide : 0 + 0 ≤ _), (by decide : 0 + 0 ≤ _)⟩)
    dsimp only [Pt.U, Pt.locs, Pt.cells, Pt.slots] at X1 l1 y1 z1 st1 hQ1
    subst l1 y1 z1
    obtain ⟨rfl, N1q, e1⟩ := hQ1
    have N1 := Fr.app N0 N1q
    have pre2 : ∀ t, SF p e below T1 (mkF m 17 #[iv p0s, iv p1s, iv 1, iv (p1s &&& (7 : Int32)), rv w6, .unset, .unset] [(.int (p1s &&& (7 : Int32)))]) t → SF p e below s₁ (mkF m 4 #[iv p0s, iv p1s, .unset, .unset, .unset, .unset, .unset] [(.int (p0s &&& (7 : Int32)))]) t := fun t k => by
      show SF p e below s₁ (mkF m 4 #[iv p0s, iv p1s, .unset, .unset, .unset, .unset, .unset] [(.int (p0s &&& (7 : Int32)))]) _
      rw [hc1]
      show SF p e below s₁ (mkF m 4 #[iv p0s, iv p1s, .unset, .unset, .unset, .unset, .unset] [(.int 1)]) _
      refine XS.istoreN X0.here hx rfl (hb hby at_4) rfl (l' := #[iv p0s, iv p1s, iv 1, .unset, .unset, .unset, .unset]) rfl ?_
      refine XS.iloadN X0.here hx rfl (hb hby at_5) rfl ?_
      show SF p e below s₁ (mkF m 6 #[iv p0s, iv p1s, iv 1, .unset, .unset, .unset, .unset] [(.int p1s)]) _
      refine XS.bipush X0.here hx rfl (hb hby at_6) ?_
      show SF p e below s₁ (mkF m 8 #[iv p0s, iv p1s, iv 1, .unset, .unset, .unset, .unset] [(.int 7), (.int p1s)]) _
      refine XS.iand X0.here hx rfl (hb hby at_8) rfl ?_
      show SF p e below s₁ (mkF m 9 #[iv p0s, iv p1s, iv 1, .unset, .unset, .unset, .unset] [(.int (p1s &&& (7 : Int32)))]) _
      refine XS.istoreN X0.here hx rfl (hb hby at_9) rfl (l' := #[iv p0s, iv p1s, iv 1, iv (p1s &&& (7 : Int32)), .unset, .unset, .unset]) rfl ?_
      refine XS.iloadN X0.here hx rfl (hb hby at_10) rfl ?_
      show SF p e below s₁ (mkF m 11 #[iv p0s, iv p1s, iv 1, iv (p1s &&& (7 : Int32)), .unset, .unset, .unset] [(.int 1)]) _
      refine st1 _ ?_
      show SF p e below T1 (mkF m 14 #[iv p0s, iv p1s, iv 1, iv (p1s &&& (7 : Int32)), .unset, .unset, .unset] [(.ref w6)]) _
      refine XS.astore X1.here hx rfl (hb hby at_14) rfl rfl (l' := #[iv p0s, iv p1s, iv 1, iv (p1s &&& (7 : Int32)), rv w6, .unset, .unset]) rfl ?_
      refine XS.iloadN X1.here hx rfl (hb hby at_16) rfl ?_
      exact k
    rcases own_and7 p1s with hc2 | hc2 | hc2 | hc2 | hc2 | hc2 | hc2 | hc2
    · obtain ⟨_, _, ⟨T2, L2, k2x, n2⟩, -, X2, ⟨Lc2, hQ2, l2, y2, z2⟩, st2⟩ := Jvm.LawKit.callS X1 hx (y := (⟨zs7, "of", zs1⟩ : MethodName)) hown (mvT hZ (tw hw 0 rfl)) (mvT hZ (tw hw 1 rfl)) (mvT hZ (tw hw 2 rfl)) (mvT hZ (tw hw 3 rfl)) (by decide) (backOf (W := 0) (rm1_1 l Z a0 hw [] w1 kw1 w2 w6 w5 w3 w4 w8 w7 w9 h0 n0 Z0 Sg4 O0 V_w1) hZ (tw hw 3 rfl) (tw hw 2 rfl) (by decide) (by decide)) (g := (mkF m 17 #[iv p0s, iv p1s, iv 1, iv 0, rv w6, .unset, .unset] [(.int 0)])) rfl (by rw [hml]; rfl) (argsL := [(.int 0)]) (rest := []) (lenOf pd_0 rfl) rfl (Nat.le_of_eq rfl) (hb hby at_17) (fun _ _ => ⟨rfl, e1, (by decide : 0 + 0 ≤ _), (by decide : 0 + 0 ≤ _)⟩)
      dsimp only [Pt.U, Pt.locs, Pt.cells, Pt.slots] at X2 l2 y2 z2 st2 hQ2
      subst l2 y2 z2
      obtain ⟨rfl, N2q, e2⟩ := hQ2
      have N2 := Fr.app N1 N2q
      refine Fine.pre (fun t k => pre0 _ (pre1 _ (pre2 _ (?_)))) (pc_4 (dv3 := (0 : Int32)) (dv5 := w2) X2 hx hZ hw hby hml hown hre hlk e2 N2 Z0 O0 Sg0 Sg1 rGF nzGC Sg7 Sg9 Sg11 E_w6 F_w4_bits F_w5_bits F_w6_bits (by decide) (Fld.ne F_w6_bits F_w2_bits (by decide)))
      show SF p e below T1 (mkF m 17 #[iv p0s, iv p1s, iv 1, iv (p1s &&& (7 : Int32)), rv w6, .unset, .unset] [(.int (p1s &&& (7 : Int32)))]) _
      rw [hc2]
      show SF p e below T1 (mkF m 17 #[iv p0s, iv p1s, iv 1, iv 0, rv w6, .unset, .unset] [(.int 0)]) _
      refine st2 _ ?_
      show SF p e below T2 (mkF m 20 #[iv p0s, iv p1s, iv 1, iv 0, rv w6, .unset, .unset] [(.ref w2)]) _
      refine XS.astore X2.here hx rfl (hb hby at_20) rfl rfl (l' := #[iv p0s, iv p1s, iv 1, iv 0, rv w6, rv w2, .unset]) rfl ?_
      exact k
    · obtain ⟨_, _, ⟨T2, L2, k2x, n2⟩, -, X2, ⟨Lc2, hQ2, l2, y2, z2⟩, st2⟩ := Jvm.LawKit.callS X1 hx (y := (⟨zs7, "of", zs1⟩ : MethodName)) hown (mvT hZ (tw hw 0 rfl)) (mvT hZ (tw hw 1 rfl)) (mvT hZ (tw hw 2 rfl)) (mvT hZ (tw hw 3 rfl)) (by decide) (backOf (W := 0) (rm1_13 l Z a0 hw [] w1 kw1 w2 w6 w5 w3 w4 w8 w7 w9 h0 n0 Z0 Sg4 O0 V_w1) hZ (tw hw 3 rfl) (tw hw 2 rfl) (by decide) (by decide)) (g := (mkF m 17 #[iv p0s, iv p1s, iv 1, iv 1, rv w6, .unset, .unset] [(.int 1)])) rfl (by rw [hml]; rfl) (argsL := [(.int 1)]) (rest := []) (lenOf pd_0 rfl) rfl (Nat.le_of_eq rfl) (hb hby at_17) (fun _ _ => ⟨rfl, e1, (by decide : 0 + 0 ≤ _), (by decide : 0 + 0 ≤ _)⟩)
      dsimp only [Pt.U, Pt.locs, Pt.cells, Pt.slots] at X2 l2 y2 z2 st2 hQ2
      subst l2 y2 z2
      obtain ⟨rfl, N2q, e2⟩ := hQ2
      have N2 := Fr.app N1 N2q
      refine Fine.pre (fun t k => pre0 _ (pre1 _ (pre2 _ (?_)))) (pc_6 X2 hx hZ hw hby hml hown hre hlk e2 N2 Z0 O0 Sg0 Sg1 rGF nzGC Sg7 Sg9 Sg11 E_w6 F_w4_bits F_w5_bits F_w6_bits )
      show SF p e below T1 (mkF m 17 #[iv p0s, iv p1s, iv 1, iv (p1s &&& (7 : Int32)), rv w6, .unset, .unset] [(.int (p1s &&& (7 : Int32)))]) _
      rw [hc2]
      show SF p e below T1 (mkF m 17 #[iv p0s, iv p1s, iv 1, iv 1, rv w6, .unset, .unset] [(.int 1)]) _
      refine st2 _ ?_
      show SF p e below T2 (mkF m 20 #[iv p0s, iv p1s, iv 1, iv 1, rv w6, .unset, .unset] [(.ref w6)]) _
      refine XS.astore X2.here hx rfl (hb hby at_20) rfl rfl (l' := #[iv p0s, iv p1s, iv 1, iv 1, rv w6, rv w6, .unset]) rfl ?_
      exact k
    · obtain ⟨_, _, ⟨T2, L2, k2x, n2⟩, -, X2, ⟨Lc2, hQ2, l2, y2, z2⟩, st2⟩ := Jvm.LawKit.callS X1 hx (y := (⟨zs7, "of", zs1⟩ : MethodName)) hown (mvT hZ (tw hw 0 rfl)) (mvT hZ (tw hw 1 rfl)) (mvT hZ (tw hw 2 rfl)) (mvT hZ (tw hw 3 rfl)) (by decide) (backOf (W := 0) (rm1_14 l Z a0 hw [] w1 kw1 w2 w6 w5 w3 w4 w8 w7 w9 h0 n0 Z0 Sg4 O0 V_w1) hZ (tw hw 3 rfl) (tw hw 2 rfl) (by decide) (by decide)) (g := (mkF m 17 #[iv p0s, iv p1s, iv 1, iv 2, rv w6, .unset, .unset] [(.int 2)])) rfl (by rw [hml]; rfl) (argsL := [(.int 2)]) (rest := []) (lenOf pd_0 rfl) rfl (Nat.le_of_eq rfl) (hb hby at_17) (fun _ _ => ⟨rfl, e1, (by decide : 0 + 0 ≤ _), (by decide : 0 + 0 ≤ _)⟩)
      dsimp only [Pt.U, Pt.locs, Pt.cells, Pt.slots] at X2 l2 y2 z2 st2 hQ2
      subst l2 y2 z2
      obtain ⟨rfl, N2q, e2⟩ := hQ2
      have N2 := Fr.app N1 N2q
      refine Fine.pre (fun t k => pre0 _ (pre1 _ (pre2 _ (?_)))) (pc_4 (dv3 := (2 : Int32)) (dv5 := w5) X2 hx hZ hw hby hml hown hre hlk e2 N2 Z0 O0 Sg0 Sg1 rGF nzGC Sg7 Sg9 Sg11 E_w6 F_w4_bits F_w5_bits F_w6_bits (by decide) (Fld.ne F_w6_bits F_w5_bits (by decide)))
      show SF p e below T1 (mkF m 17 #[iv p0s, iv p1s, iv 1, iv (p1s &&& (7 : Int32)), rv w6, .unset, .unset] [(.int (p1s &&& (7 : Int32)))]) _
      rw [hc2]
      show SF p e below T1 (mkF m 17 #[iv p0s, iv p1s, iv 1, iv 2, rv w6, .unset, .unset] [(.int 2)]) _
      refine st2 _ ?_
      show SF p e below T2 (mkF m 20 #[iv p0s, iv p1s, iv 1, iv 2, rv w6, .unset, .unset] [(.ref w5)]) _
      refine XS.astore X2.here hx rfl (hb hby at_20) rfl rfl (l' := #[iv p0s, iv p1s, iv 1, iv 2, rv w6, rv w5, .unset]) rfl ?_
      exact k
    · obtain ⟨_, _, ⟨T2, L2, k2x, n2⟩, -, X2, ⟨Lc2, hQ2, l2, y2, z2⟩, st2⟩ := Jvm.LawKit.callS X1 hx (y := (⟨zs7, "of", zs1⟩ : MethodName)) hown (mvT hZ (tw hw 0 rfl)) (mvT hZ (tw hw 1 rfl)) (mvT hZ (tw hw 2 rfl)) (mvT hZ (tw hw 3 rfl)) (by decide) (backOf (W := 0) (rm1_15 l Z a0 hw [] w1 kw1 w2 w6 w5 w3 w4 w8 w7 w9 h0 n0 Z0 Sg4 O0 V_w1) hZ (tw hw 3 rfl) (tw hw 2 rfl) (by decide) (by decide)) (g := (mkF m 17 #[iv p0s, iv p1s, iv 1, iv 3, rv w6, .unset, .unset] [(.int 3)])) rfl (by rw [hml]; rfl) (argsL := [(.int 3)]) (rest := []) (lenOf pd_0 rfl) rfl (Nat.le_of_eq rfl) (hb hby at_17) (fun _ _ => ⟨rfl, e1, (by decide : 0 + 0 ≤ _), (by decide : 0 + 0 ≤ _)⟩)
      dsimp only [Pt.U, Pt.locs, Pt.cells, Pt.slots] at X2 l2 y2 z2 st2 hQ2
      subst l2 y2 z2
      obtain ⟨rfl, N2q, e2⟩ := hQ2
      have N2 := Fr.app N1 N2q
      refine Fine.pre (fun t k => pre0 _ (pre1 _ (pre2 _ (?_)))) (pc_4 (dv3 := (3 : Int32)) (dv5 := w3) X2 hx hZ hw hby hml hown hre hlk e2 N2 Z0 O0 Sg0 Sg1 rGF nzGC Sg7 Sg9 Sg11 E_w6 F_w4_bits F_w5_bits F_w6_bits (by decide) (Fld.ne F_w6_bits F_w3_bits (by decide)))
      show SF p e below T1 (mkF m 17 #[iv p0s, iv p1s, iv 1, iv (p1s &&& (7 : Int32)), rv w6, .unset, .unset] [(.int (p1s &&& (7 : Int32)))]) _
      rw [hc2]
      show SF p e below T1 (mkF m 17 #[iv p0s, iv p1s, iv 1, iv 3, rv w6, .unset, .unset] [(.int 3)]) _
      refine st2 _ ?_
      show SF p e below T2 (mkF m 20 #[iv p0s, iv p1s, iv 1, iv 3, rv w6, .unset, .unset] [(.ref w3)]) _
      refine XS.astore X2.here hx rfl (hb hby at_20) rfl rfl (l' := #[iv p0s, iv p1s, iv 1, iv 3, rv w6, rv w3, .unset]) rfl ?_
      exact k
    · obtain ⟨_, _, ⟨T2, L2, k2x, n2⟩, -, X2, ⟨Lc2, hQ2, l2, y2, z2⟩, st2⟩ := Jvm.LawKit.callS X1 hx (y := (⟨zs7, "of", zs1⟩ : MethodName)) hown (mvT hZ (tw hw 0 rfl)) (mvT hZ (tw hw 1 rfl)) (mvT hZ (tw hw 2 rfl)) (mvT hZ (tw hw 3 rfl)) (by decide) (backOf (W := 0) (rm1_16 l Z a0 hw [] w1 kw1 w2 w6 w5 w3 w4 w8 w7 w9 h0 n0 Z0 Sg4 O0 V_w1) hZ (tw hw 3 rfl) (tw hw 2 rfl) (by decide) (by decide)) (g := (mkF m 17 #[iv p0s, iv p1s, iv 1, iv 4, rv w6, .unset, .unset] [(.int 4)])) rfl (by rw [hml]; rfl) (argsL := [(.int 4)]) (rest := []) (lenOf pd_0 rfl) rfl (Nat.le_of_eq rfl) (hb hby at_17) (fun _ _ => ⟨rfl, e1, (by decide : 0 + 0 ≤ _), (by decide : 0 + 0 ≤ _)⟩)
      dsimp only [Pt.U, Pt.locs, Pt.cells, Pt.slots] at X2 l2 y2 z2 st2 hQ2
      subst l2 y2 z2
      obtain ⟨rfl, N2q, e2⟩ := hQ2
      have N2 := Fr.app N1 N2q
      refine Fine.pre (fun t k => pre0 _ (pre1 _ (pre2 _ (?_)))) (pc_4 (dv3 := (4 : Int32)) (dv5 := w4) X2 hx hZ hw hby hml hown hre hlk e2 N2 Z0 O0 Sg0 Sg1 rGF nzGC Sg7 Sg9 Sg11 E_w6 F_w4_bits F_w5_bits F_w6_bits (by decide) (Fld.ne F_w6_bits F_w4_bits (by decide)))
      show SF p e below T1 (mkF m 17 #[iv p0s, iv p1s, iv 1, iv (p1s &&& (7 : Int32)), rv w6, .unset, .unset] [(.int (p1s &&& (7 : Int32)))]) _
      rw [hc2]
      show SF p e below T1 (mkF m 17 #[iv p0s, iv p1s, iv 1, iv 4, rv w6, .unset, .unset] [(.int 4)]) _
      refine st2 _ ?_
      show SF p e below T2 (mkF m 20 #[iv p0s, iv p1s, iv 1, iv 4, rv w6, .unset, .unset] [(.ref w4)]) _
      refine XS.astore X2.here hx rfl (hb hby at_20) rfl rfl (l' := #[iv p0s, iv p1s, iv 1, iv 4, rv w6, rv w4, .unset]) rfl ?_
      exact k
    · obtain ⟨_, _, ⟨T2, L2, k2x, n2⟩, -, X2, ⟨Lc2, hQ2, l2, y2, z2⟩, st2⟩ := Jvm.LawKit.callS X1 hx (y := (⟨zs7, "of", zs1⟩ : MethodName)) hown (mvT hZ (tw hw 0 rfl)) (mvT hZ (tw hw 1 rfl)) (mvT hZ (tw hw 2 rfl)) (mvT hZ (tw hw 3 rfl)) (by decide) (backOf (W := 0) (rm1_17 l Z a0 hw [] w1 kw1 w2 w6 w5 w3 w4 w8 w7 w9 h0 n0 Z0 Sg4 O0 V_w1) hZ (tw hw 3 rfl) (tw hw 2 rfl) (by decide) (by decide)) (g := (mkF m 17 #[iv p0s, iv p1s, iv 1, iv 5, rv w6, .unset, .unset] [(.int 5)])) rfl (by rw [hml]; rfl) (argsL := [(.int 5)]) (rest := []) (lenOf pd_0 rfl) rfl (Nat.le_of_eq rfl) (hb hby at_17) (fun _ _ => ⟨rfl, e1, (by decide : 0 + 0 ≤ _), (by decide : 0 + 0 ≤ _)⟩)
      dsimp only [Pt.U, Pt.locs, Pt.cells, Pt.slots] at X2 l2 y2 z2 st2 hQ2
      subst l2 y2 z2
      obtain ⟨rfl, N2q, e2⟩ := hQ2
      have N2 := Fr.app N1 N2q
      refine Fine.pre (fun t k => pre0 _ (pre1 _ (pre2 _ (?_)))) (pc_4 (dv3 := (5 : Int32)) (dv5 := w8) X2 hx hZ hw hby hml hown hre hlk e2 N2 Z0 O0 Sg0 Sg1 rGF nzGC Sg7 Sg9 Sg11 E_w6 F_w4_bits F_w5_bits F_w6_bits (by decide) (Fld.ne F_w6_bits F_w8_bits (by decide)))
      show SF p e below T1 (mkF m 17 #[iv p0s, iv p1s, iv 1, iv (p1s &&& (7 : Int32)), rv w6, .unset, .unset] [(.int (p1s &&& (7 : Int32)))]) _
      rw [hc2]
      show SF p e below T1 (mkF m 17 #[iv p0s, iv p1s, iv 1, iv 5, rv w6, .unset, .unset] [(.int 5)]) _
      refine st2 _ ?_
      show SF p e below T2 (mkF m 20 #[iv p0s, iv p1s, iv 1, iv 5, rv w6, .unset, .unset] [(.ref w8)]) _
      refine XS.astore X2.here hx rfl (hb hby at_20) rfl rfl (l' := #[iv p0s, iv p1s, iv 1, iv 5, rv w6, rv w8, .unset]) rfl ?_
      exact k
    · obtain ⟨_, _, ⟨T2, L2, k2x, n2⟩, -, X2, ⟨Lc2, hQ2, l2, y2, z2⟩, st2⟩ := Jvm.LawKit.callS X1 hx (y := (⟨zs7, "of", zs1⟩ : MethodName)) hown (mvT hZ (tw hw 0 rfl)) (mvT hZ (tw hw 1 rfl)) (mvT hZ (tw hw 2 rfl)) (mvT hZ (tw hw 3 rfl)) (by decide) (backOf (W := 0) (rm1_18 l Z a0 hw [] w1 kw1 w2 w6 w5 w3 w4 w8 w7 w9 h0 n0 Z0 Sg4 O0 V_w1) hZ (tw hw 3 rfl) (tw hw 2 rfl) (by decide) (by decide)) (g := (mkF m 17 #[iv p0s, iv p1s, iv 1, iv 6, rv w6, .unset, .unset] [(.int 6)])) rfl (by rw [hml]; rfl) (argsL := [(.int 6)]) (rest := []) (lenOf pd_0 rfl) rfl (Nat.le_of_eq rfl) (hb hby at_17) (fun _ _ => ⟨rfl, e1, (by decide : 0 + 0 ≤ _), (by decide : 0 + 0 ≤ _)⟩)
      dsimp only [Pt.U, Pt.locs, Pt.cells, Pt.slots] at X2 l2 y2 z2 st2 hQ2
      subst l2 y2 z2
      obtain ⟨rfl, N2q, e2⟩ := hQ2
      have N2 := Fr.app N1 N2q
      refine Fine.pre (fun t k => pre0 _ (pre1 _ (pre2 _ (?_)))) (pc_4 (dv3 := (6 : Int32)) (dv5 := w7) X2 hx hZ hw hby hml hown hre hlk e2 N2 Z0 O0 Sg0 Sg1 rGF nzGC Sg7 Sg9 Sg11 E_w6 F_w4_bits F_w5_bits F_w6_bits (by decide) (Fld.ne F_w6_bits F_w7_bits (by decide)))
      show SF p e below T1 (mkF m 17 #[iv p0s, iv p1s, iv 1, iv (p1s &&& (7 : Int32)), rv w6, .unset, .unset] [(.int (p1s &&& (7 : Int32)))]) _
      rw [hc2]
      show SF p e below T1 (mkF m 17 #[iv p0s, iv p1s, iv 1, iv 6, rv w6, .unset, .unset] [(.int 6)]) _
      refine st2 _ ?_
      show SF p e below T2 (mkF m 20 #[iv p0s, iv p1s, iv 1, iv 6, rv w6, .unset, .unset] [(.ref w7)]) _
      refine XS.astore X2.here hx rfl (hb hby at_20) rfl rfl (l' := #[iv p0s, iv p1s, iv 1, iv 6, rv w6, rv w7, .unset]) rfl ?_
      exact k
    · obtain ⟨_, _, ⟨T2, L2, k2x, n2⟩, -, X2, ⟨Lc2, hQ2, l2, y2, z2⟩, st2⟩ := Jvm.LawKit.callS X1 hx (y := (⟨zs7, "of", zs1⟩ : MethodName)) hown (mvT hZ (tw hw 0 rfl)) (mvT hZ (tw hw 1 rfl)) (mvT hZ (tw hw 2 rfl)) (mvT hZ (tw hw 3 rfl)) (by decide) (backOf (W := 0) (rm1_19 l Z a0 hw [] w1 kw1 w2 w6 w5 w3 w4 w8 w7 w9 h0 n0 Z0 Sg4 O0 V_w1) hZ (tw hw 3 rfl) (tw hw 2 rfl) (by decide) (by decide)) (g := (mkF m 17 #[iv p0s, iv p1s, iv 1, iv 7, rv w6, .unset, .unset] [(.int 7)])) rfl (by rw [hml]; rfl) (argsL := [(.int 7)]) (rest := []) (lenOf pd_0 rfl) rfl (Nat.le_of_eq rfl) (hb hby at_17) (fun _ _ => ⟨rfl, e1, (by decide : 0 + 0 ≤ _), (by decide : 0 + 0 ≤ _)⟩)
      dsimp only [Pt.U, Pt.locs, Pt.cells, Pt.slots] at X2 l2 y2 z2 st2 hQ2
      subst l2 y2 z2
      obtain ⟨rfl, N2q, e2⟩ := hQ2
      have N2 := Fr.app N1 N2q
      refine Fine.pre (fun t k => pre0 _ (pre1 _ (pre2 _ (?_)))) (pc_4 (dv3 := (7 : Int32)) (dv5 := w9) X2 hx hZ hw hby hml hown hre hlk e2 N2 Z0 O0 Sg0 Sg1 rGF nzGC Sg7 Sg9 Sg11 E_w6 F_w4_bits F_w5_bits F_w6_bits (by decide) (Fld.ne F_w6_bits F_w9_bits (by decide)))
      show SF p e below T1 (mkF m 17 #[iv p0s, iv p1s, iv 1, iv (p1s &&& (7 : Int32)), rv w6, .unset, .unset] [(.int (p1s &&& (7 : Int32)))]) _
      rw [hc2]
      show SF p e below T1 (mkF m 17 #[iv p0s, iv p1s, iv 1, iv 7, rv w6, .unset, .unset] [(.int 7)]) _
      refine st2 _ ?_
      show SF p e below T2 (mkF m 20 #[iv p0s, iv p1s, iv 1, iv 7, rv w6, .unset, .unset] [(.ref w9)]) _
      refine XS.astore X2.here hx rfl (hb hby at_20) rfl rfl (l' := #[iv p0s, iv p1s, iv 1, iv 7, rv w6, rv w9, .unset]) rfl ?_
      exact k
  · obtain ⟨_, _, ⟨T1, L1, k1x, n1⟩, -, X1, ⟨Lc1, hQ1, l1, y1, z1⟩, st1⟩ := Jvm.LawKit.callS X0 hx (y := (⟨zs7, "of", zs1⟩ : MethodName)) hown (mvT hZ (tw hw 0 rfl)) (mvT hZ (tw hw 1 rfl)) (mvT hZ (tw hw 2 rfl)) (mvT hZ (tw hw 3 rfl)) (by decide) (backOf (W := 0) (rm1_14 l Z a0 hw [] w1 kw1 w2 w6 w5 w3 w4 w8 w7 w9 h0 n0 Z0 Sg4 O0 V_w1) hZ (tw hw 3 rfl) (tw hw 2 rfl) (by decide) (by decide)) (g := (mkF m 11 #[iv p0s, iv p1s, iv 2, iv (p1s &&& (7 : Int32)), .unset, .unset, .unset] [(.int 2)])) rfl (by rw [hml]; rfl) (argsL := [(.int 2)]) (rest := []) (lenOf pd_0 rfl) rfl (Nat.le_of_eq rfl) (hb hby at_11) (fun _ _ => ⟨rfl, e0, (by decide : 0 + 0 ≤ _), (by decide : 0 + 0 ≤ _)⟩)
    dsimp only [Pt.U, Pt.locs, Pt.cells, Pt.slots] at X1 l1 y1 z1 st1 hQ1
    subst l1 y1 z1
    obtain ⟨rfl, N1q, e1⟩ := hQ1
    have N1 := Fr.app N0 N1q
    have pre2 : ∀ t, SF p e below T1 (mkF m 17 #[iv p0s, iv p1s, iv 2, iv (p1s &&& (7 : Int32)), rv w5, .unset, .unset] [(.int (p1s &&& (7 : Int32)))]) t → SF p e below s₁ (mkF m 4 #[iv p0s, iv p1s, .unset, .unset, .unset, .unset, .unset] [(.int (p0s &&& (7 : Int32)))]) t := fun t k => by
      show SF p e below s₁ (mkF m 4 #[iv p0s, iv p1s, .unset, .unset, .unset, .unset, .unset] [(.int (p0s &&& (7 : Int32)))]) _
      rw [hc1]
      show SF p e below s₁ (mkF m 4 #[iv p0s, iv p1s, .unset, .unset, .unset, .unset, .unset] [(.int 2)]) _
      refine XS.istoreN X0.here hx rfl (hb hby at_4) rfl (l' := #[iv p0s, iv p1s, iv 2, .unset, .unset, .unset, .unset]) rfl ?_
      refine XS.iloadN X0.here hx rfl (hb hby at_5) rfl ?_
      show SF p e below s₁ (mkF m 6 #[iv p0s, iv p1s, iv 2, .unset, .unset, .unset, .unset] [(.int p1s)]) _
      refine XS.bipush X0.here hx rfl (hb hby at_6) ?_
      show SF p e below s₁ (mkF m 8 #[iv p0s, iv p1s, iv 2, .unset, .unset, .unset, .unset] [(.int 7), (.int p1s)]) _
      refine XS.iand X0.here hx rfl (hb hby at_8) rfl ?_
      show SF p e below s₁ (mkF m 9 #[iv p0s, iv p1s, iv 2, .unset, .unset, .unset, .unset] [(.int (p1s &&& (7 : Int32)))]) _
      refine XS.istoreN X0.here hx rfl (hb hby at_9) rfl (l' := #[iv p0s, iv p1s, iv 2, iv (p1s &&& (7 : Int32)), .unset, .unset, .unset]) rfl ?_
      refine XS.iloadN X0.here hx rfl (hb hby at_10) rfl ?_
      show SF p e below s₁ (mkF m 11 #[iv p0s, iv p1s, iv 2, iv (p1s &&& (7 : Int32)), .unset, .unset, .unset] [(.int 2)]) _
      refine st1 _ ?_
      show SF p e below T1 (mkF m 14 #[iv p0s, iv p1s, iv 2, iv (p1s &&& (7 : Int32)), .unset, .unset, .unset] [(.ref w5)]) _
      refine XS.astore X1.here hx rfl (hb hby at_14) rfl rfl (l' := #[iv p0s, iv p1s, iv 2, iv (p1s &&& (7 : Int32)), rv w5, .unset, .unset]) rfl ?_
      refine XS.iloadN X1.here hx rfl (hb hby at_16) rfl ?_
      exact k
    rcases own_and7 p1s with hc2 | hc2 | hc2 | hc2 | hc2 | hc2 | hc2 | hc2
    · obtain ⟨_, _, ⟨T2, L2, k2x, n2⟩, -, X2, ⟨Lc2, hQ2, l2, y2, z2⟩, st2⟩ := Jvm.LawKit.callS X1 hx (y := (⟨zs7, "of", zs1⟩ : MethodName)) hown (mvT hZ (tw hw 0 rfl)) (mvT hZ (tw hw 1 rfl)) (mvT hZ (tw hw 2 rfl)) (mvT hZ (tw hw 3 rfl)) (by decide) (backOf (W := 0) (rm1_1 l Z a0 hw [] w1 kw1 w2 w6 w5 w3 w4 w8 w7 w9 h0 n0 Z0 Sg4 O0 V_w1) hZ (tw hw 3 rfl) (tw hw 2 rfl) (by decide) (by decide)) (g := (mkF m 17 #[iv p0s, iv p1s, iv 2, iv 0, rv w5, .unset, .unset] [(.int 0)])) rfl (by rw [hml]; rfl) (argsL := [(.int 0)]) (rest := []) (lenOf pd_0 rfl) rfl (Nat.le_of_eq rfl) (hb hby at_17) (fun _ _ => ⟨rfl, e1, (by decide : 0 + 0 ≤ _), (by decide : 0 + 0 ≤ _)⟩)
      dsimp only [Pt.U, Pt.locs, Pt.cells, Pt.slots] at X2 l2 y2 z2 st2 hQ2
      subst l2 y2 z2
      obtain ⟨rfl, N2q, e2⟩ := hQ2
      have N2 := Fr.app N1 N2q
      refine Fine.pre (fun t k => pre0 _ (pre1 _ (pre2 _ (?_)))) (pc_7 (dv3 := (0 : Int32)) (dv5 := w2) X2 hx hZ hw hby hml hown hre hlk e2 N2 Z0 O0 Sg0 Sg1 rGF nzGC Sg7 Sg9 E_w5 Sg11 F_w4_bits F_w5_bits F_w6_bits (by decide) (Fld.ne F_w5_bits F_w2_bits (by decide)))
      show SF p e below T1 (mkF m 17 #[iv p0s, iv p1s, iv 2, iv (p1s &&& (7 : Int32)), rv w5, .unset, .unset] [(.int (p1s &&& (7 : Int32)))]) _
      rw [hc2]
      show SF p e below T1 (mkF m 17 #[iv p0s, iv p1s, iv 2, iv 0, rv w5, .unset, .unset] [(.int 0)]) _
      refine st2 _ ?_
      show SF p e below T2 (mkF m 20 #[iv p0s, iv p1s, iv 2, iv 0, rv w5, .unset, .unset] [(.ref w2)]) _
      refine XS.astore X2.here hx rfl (hb hby at_20) rfl rfl (l' := #[iv p0s, iv p1s, iv 2, iv 0, rv w5, rv w2, .unset]) rfl ?_
      exact k
    · obtain ⟨_, _, ⟨T2, L2, k2x, n2⟩, -, X2, ⟨Lc2, hQ2, l2, y2, z2⟩, st2⟩ := Jvm.LawKit.callS X1 hx (y := (⟨zs7, "of", zs1⟩ : MethodName)) hown (mvT hZ (tw hw 0 rfl)) (mvT hZ (tw hw 1 rfl)) (mvT hZ (tw hw 2 rfl)) (mvT hZ (tw hw 3 rfl)) (by decide) (backOf (W := 0) (rm1_13 l Z a0 hw [] w1 kw1 w2 w6 w5 w3 w4 w8 w7 w9 h0 n0 Z0 Sg4 O0 V_w1) hZ (tw hw 3 rfl) (tw hw 2 rfl) (by decide) (by decide)) (g := (mkF m 17 #[iv p0s, iv p1s, iv 2, iv 1, rv w5, .unset, .unset] [(.int 1)])) rfl (by rw [hml]; rfl) (argsL := [(.int 1)]) (rest := []) (lenOf pd_0 rfl) rfl (Nat.le_of_eq rfl) (hb hby at_17) (fun _ _ => ⟨rfl, e1, (by decide : 0 + 0 ≤ _), (by decide : 0 + 0 ≤ _)⟩)
      dsimp only [Pt.U, Pt.locs, Pt.cells, Pt.slots] at X2 l2 y2 z2 st2 hQ2
      subst l2 y2 z2
      obtain ⟨rfl, N2q, e2⟩ := hQ2
      have N2 := Fr.app N1 N2q
      refine Fine.pre (fun t k => pre0 _ (pre1 _ (pre2 _ (?_)))) (pc_7 (dv3 := (1 : Int32)) (dv5 := w6) X2 hx hZ hw hby hml hown hre hlk e2 N2 Z0 O0 Sg0 Sg1 rGF nzGC Sg7 Sg9 E_w5 Sg11 F_w4_bits F_w5_bits F_w6_bits (by decide) (Fld.ne F_w5_bits F_w6_bits (by decide)))
      show SF p e below T1 (mkF m 17 #[iv p0s, iv p1s, iv 2, iv (p1s &&& (7 : Int32)), rv w5, .unset, .unset] [(.int (p1s &&& (7 : Int32)))]) _
      rw [hc2]
      show SF p e below T1 (mkF m 17 #[iv p0s, iv p1s, iv 2, iv 1, rv w5, .unset, .unset] [(.int 1)]) _
      refine st2 _ ?_
      show SF p e below T2 (mkF m 20 #[iv p0s, iv p1s, iv 2, iv 1, rv w5, .unset, .unset] [(.ref w6)]) _
      refine XS.astore X2.here hx rfl (hb hby at_20) rfl rfl (l' := #[iv p0s, iv p1s, iv 2, iv 1, rv w5, rv w6, .unset]) rfl ?_
      exact k
    · obtain ⟨_, _, ⟨T2, L2, k2x, n2⟩, -, X2, ⟨Lc2, hQ2, l2, y2, z2⟩, st2⟩ := Jvm.LawKit.callS X1 hx (y := (⟨zs7, "of", zs1⟩ : MethodName)) hown (mvT hZ (tw hw 0 rfl)) (mvT hZ (tw hw 1 rfl)) (mvT hZ (tw hw 2 rfl)) (mvT hZ (tw hw 3 rfl)) (by decide) (backOf (W := 0) (rm1_14 l Z a0 hw [] w1 kw1 w2 w6 w5 w3 w4 w8 w7 w9 h0 n0 Z0 Sg4 O0 V_w1) hZ (tw hw 3 rfl) (tw hw 2 rfl) (by decide) (by decide)) (g := (mkF m 17 #[iv p0s, iv p1s, iv 2, iv 2, rv w5, .unset, .unset] [(.int 2)])) rfl (by rw [hml]; rfl) (argsL := [(.int 2)]) (rest := []) (lenOf pd_0 rfl) rfl (Nat.le_of_eq rfl) (hb hby at_17) (fun _ _ => ⟨rfl, e1, (by decide : 0 + 0 ≤ _), (by decide : 0 + 0 ≤ _)⟩)
      dsimp only [Pt.U, Pt.locs, Pt.cells, Pt.slots] at X2 l2 y2 z2 st2 hQ2
      subst l2 y2 z2
      obtain ⟨rfl, N2q, e2⟩ := hQ2
      have N2 := Fr.app N1 N2q
      refine Fine.pre (fun t k => pre0 _ (pre1 _ (pre2 _ (?_)))) (pc_9 X2 hx hZ hw hby hml hown hre hlk e2 N2 Z0 O0 Sg0 Sg1 rGF nzGC Sg7 Sg9 E_w5 Sg11 F_w4_bits F_w5_bits F_w6_bits )
      show SF p e below T1 (mkF m 17 #[iv p0s, iv p1s, iv 2, iv (p1s &&& (7 : Int32)), rv w5, .unset, .unset] [(.int (p1s &&& (7 : Int32)))]) _
      rw [hc2]
      show SF p e below T1 (mkF m 17 #[iv p0s, iv p1s, iv 2, iv 2, rv w5, .unset, .unset] [(.int 2)]) _
      refine st2 _ ?_
      show SF p e below T2 (mkF m 20 #[iv p0s, iv p1s, iv 2, iv 2, rv w5, .unset, .unset] [(.ref w5)]) _
      refine XS.astore X2.here hx rfl (hb hby at_20) rfl rfl (l' := #[iv p0s, iv p1s, iv 2, iv 2, rv w5, rv w5, .unset]) rfl ?_
      exact k
    · obtain ⟨_, _, ⟨T2, L2, k2x, n2⟩, -, X2, ⟨Lc2, hQ2, l2, y2, z2⟩, st2⟩ := Jvm.LawKit.callS X1 hx (y := (⟨zs7, "of", zs1⟩ : MethodName)) hown (mvT hZ (tw hw 0 rfl)) (mvT hZ (tw hw 1 rfl)) (mvT hZ (tw hw 2 rfl)) (mvT hZ (tw hw 3 rfl)) (by decide) (backOf (W := 0) (rm1_15 l Z a0 hw [] w1 kw1 w2 w6 w5 w3 w4 w8 w7 w9 h0 n0 Z0 Sg4 O0 V_w1) hZ (tw hw 3 rfl) (tw hw 2 rfl) (by decide) (by decide)) (g := (mkF m 17 #[iv p0s, iv p1s, iv 2, iv 3, rv w5, .unset, .unset] [(.int 3)])) rfl (by rw [hml]; rfl) (argsL := [(.int 3)]) (rest := []) (lenOf pd_0 rfl) rfl (Nat.le_of_eq rfl) (hb hby at_17) (fun _ _ => ⟨rfl, e1, (by decide : 0 + 0 ≤ _), (by decide : 0 + 0 ≤ _)⟩)
      dsimp only [Pt.U, Pt.locs, Pt.cells, Pt.slots] at X2 l2 y2 z2 st2 hQ2
      subst l2 y2 z2
      obtain ⟨rfl, N2q, e2⟩ := hQ2
      have N2 := Fr.app N1 N2q
      refine Fine.pre (fun t k => pre0 _ (pre1 _ (pre2 _ (?_)))) (pc_7 (dv3 := (3 : Int32)) (dv5 := w3) X2 hx hZ hw hby hml hown hre hlk e2 N2 Z0 O0 Sg0 Sg1 rGF nzGC Sg7 Sg9 E_w5 Sg11 F_w4_bits F_w5_bits F_w6_bits (by decide) (Fld.ne F_w5_bits F_w3_bits (by decide)))
      show SF p e below T1 (mkF m 17 #[iv p0s, iv p1s, iv 2, iv (p1s &&& (7 : Int32)), rv w5, .unset, .unset] [(.int (p1s &&& (7 : Int32)))]) _
      rw [hc2]
      show SF p e below T1 (mkF m 17 #[iv p0s, iv p1s, iv 2, iv 3, rv w5, .unset, .unset] [(.int 3)]) _
      refine st2 _ ?_
      show SF p e below T2 (mkF m 20 #[iv p0s, iv p1s, iv 2, iv 3, rv w5, .unset, .unset] [(.ref w3)]) _
      refine XS.astore X2.here hx rfl (hb hby at_20) rfl rfl (l' := #[iv p0s, iv p1s, iv 2, iv 3, rv w5, rv w3, .unset]) rfl ?_
      exact k
    · obtain ⟨_, _, ⟨T2, L2, k2x, n2⟩, -, X2, ⟨Lc2, hQ2, l2, y2, z2⟩, st2⟩ := Jvm.LawKit.callS X1 hx (y := (⟨zs7, "of", zs1⟩ : MethodName)) hown (mvT hZ (tw hw 0 rfl)) (mvT hZ (tw hw 1 rfl)) (mvT hZ (tw hw 2 rfl)) (mvT hZ (tw hw 3 rfl)) (by decide) (backOf (W := 0) (rm1_16 l Z a0 hw [] w1 kw1 w2 w6 w5 w3 w4 w8 w7 w9 h0 n0 Z0 Sg4 O0 V_w1) hZ (tw hw 3 rfl) (tw hw 2 rfl) (by decide) (by decide)) (g := (mkF m 17 #[iv p0s, iv p1s, iv 2, iv 4, rv w5, .unset, .unset] [(.int 4)])) rfl (by rw [hml]; rfl) (argsL := [(.int 4)]) (rest := []) (lenOf pd_0 rfl) rfl (Nat.le_of_eq rfl) (hb hby at_17) (fun _ _ => ⟨rfl, e1, (by decide : 0 + 0 ≤ _), (by decide : 0 + 0 ≤ _)⟩)
      dsimp only [Pt.U, Pt.locs, Pt.cells, Pt.slots] at X2 l2 y2 z2 st2 hQ2
      subst l2 y2 z2
      obtain ⟨rfl, N2q, e2⟩ := hQ2
      have N2 := Fr.app N1 N2q
      refine Fine.pre (fun t k => pre0 _ (pre1 _ (pre2 _ (?_)))) (pc_7 (dv3 := (4 : Int32)) (dv5 := w4) X2 hx hZ hw hby hml hown hre hlk e2 N2 Z0 O0 Sg0 Sg1 rGF nzGC Sg7 Sg9 E_w5 Sg11 F_w4_bits F_w5_bits F_w6_bits (by decide) (Fld.ne F_w5_bits F_w4_bits (by decide)))
      show SF p e below T1 (mkF m 17 #[iv p0s, iv p1s, iv 2, iv (p1s &&& (7 : Int32)), rv w5, .unset, .unset] [(.int (p1s &&& (7 : Int32)))]) _
      rw [hc2]
      show SF p e below T1 (mkF m 17 #[iv p0s, iv p1s, iv 2, iv 4, rv w5, .unset, .unset] [(.int 4)]) _
      refine st2 _ ?_
      show SF p e below T2 (mkF m 20 #[iv p0s, iv p1s, iv 2, iv 4, rv w5, .unset, .unset] [(.ref w4)]) _
      refine XS.astore X2.here hx rfl (hb hby at_20) rfl rfl (l' := #[iv p0s, iv p1s, iv 2, iv 4, rv w5, rv w4, .unset]) rfl ?_
      exact k
    · obtain ⟨_, _, ⟨T2, L2, k2x, n2⟩, -, X2, ⟨Lc2, hQ2, l2, y2, z2⟩, st2⟩ := Jvm.LawKit.callS X1 hx (y := (⟨zs7, "of", zs1⟩ : MethodName)) hown (mvT hZ (tw hw 0 rfl)) (mvT hZ (tw hw 1 rfl)) (mvT hZ (tw hw 2 rfl)) (mvT hZ (tw hw 3 rfl)) (by decide) (backOf (W := 0) (rm1_17 l Z a0 hw [] w1 kw1 w2 w6 w5 w3 w4 w8 w7 w9 h0 n0 Z0 Sg4 O0 V_w1) hZ (tw hw 3 rfl) (tw hw 2 rfl) (by decide) (by decide)) (g := (mkF m 17 #[iv p0s, iv p1s, iv 2, iv 5, rv w5, .unset, .unset] [(.int 5)])) rfl (by rw [hml]; rfl) (argsL := [(.int 5)]) (rest := []) (lenOf pd_0 rfl) rfl (Nat.le_of_eq rfl) (hb hby at_17) (fun _ _ => ⟨rfl, e1, (by decide : 0 + 0 ≤ _), (by decide : 0 + 0 ≤ _)⟩)
      dsimp only [Pt.U, Pt.locs, Pt.cells, Pt.slots] at X2 l2 y2 z2 st2 hQ2
      subst l2 y2 z2
      obtain ⟨rfl, N2q, e2⟩ := hQ2
      have N2 := Fr.app N1 N2q
      refine Fine.pre (fun t k => pre0 _ (pre1 _ (pre2 _ (?_)))) (pc_7 (dv3 := (5 : Int32)) (dv5 := w8) X2 hx hZ hw hby hml hown hre hlk e2 N2 Z0 O0 Sg0 Sg1 rGF nzGC Sg7 Sg9 E_w5 Sg11 F_w4_bits F_w5_bits F_w6_bits (by decide) (Fld.ne F_w5_bits F_w8_bits (by decide)))
      show SF p e below T1 (mkF m 17 #[iv p0s, iv p1s, iv 2, iv (p1s &&& (7 : Int32)), rv w5, .unset, .unset] [(.int (p1s &&& (7 : Int32)))]) _
      rw [hc2]
      show SF p e below T1 (mkF m 17 #[iv p0s, iv p1s, iv 2, iv 5, rv w5, .unset, .unset] [(.int 5)]) _
      refine st2 _ ?_
      show SF p e below T2 (mkF m 20 #[iv p0s, iv p1s, iv 2, iv 5, rv w5, .unset, .unset] [(.ref w8)]) _
      refine XS.astore X2.here hx rfl (hb hby at_20) rfl rfl (l' := #[iv p0s, iv p1s, iv 2, iv 5, rv w5, rv w8, .unset]) rfl ?_
      exact k
    · obtain ⟨_, _, ⟨T2, L2, k2x, n2⟩, -, X2, ⟨Lc2, hQ2, l2, y2, z2⟩, st2⟩ := Jvm.LawKit.callS X1 hx (y := (⟨zs7, "of", zs1⟩ : MethodName)) hown (mvT hZ (tw hw 0 rfl)) (mvT hZ (tw hw 1 rfl)) (mvT hZ (tw hw 2 rfl)) (mvT hZ (tw hw 3 rfl)) (by decide) (backOf (W := 0) (rm1_18 l Z a0 hw [] w1 kw1 w2 w6 w5 w3 w4 w8 w7 w9 h0 n0 Z0 Sg4 O0 V_w1) hZ (tw hw 3 rfl) (tw hw 2 rfl) (by decide) (by decide)) (g := (mkF m 17 #[iv p0s, iv p1s, iv 2, iv 6, rv w5, .unset, .unset] [(.int 6)])) rfl (by rw [hml]; rfl) (argsL := [(.int 6)]) (rest := []) (lenOf pd_0 rfl) rfl (Nat.le_of_eq rfl) (hb hby at_17) (fun _ _ => ⟨rfl, e1, (by decide : 0 + 0 ≤ _), (by decide : 0 + 0 ≤ _)⟩)
      dsimp only [Pt.U, Pt.locs, Pt.cells, Pt.slots] at X2 l2 y2 z2 st2 hQ2
      subst l2 y2 z2
      obtain ⟨rfl, N2q, e2⟩ := hQ2
      have N2 := Fr.app N1 N2q
      refine Fine.pre (fun t k => pre0 _ (pre1 _ (pre2 _ (?_)))) (pc_7 (dv3 := (6 : Int32)) (dv5 := w7) X2 hx hZ hw hby hml hown hre hlk e2 N2 Z0 O0 Sg0 Sg1 rGF nzGC Sg7 Sg9 E_w5 Sg11 F_w4_bits F_w5_bits F_w6_bits (by decide) (Fld.ne F_w5_bits F_w7_bits (by decide)))
      show SF p e below T1 (mkF m 17 #[iv p0s, iv p1s, iv 2, iv (p1s &&& (7 : Int32)), rv w5, .unset, .unset] [(.int (p1s &&& (7 : Int32)))]) _
      rw [hc2]
      show SF p e below T1 (mkF m 17 #[iv p0s, iv p1s, iv 2, iv 6, rv w5, .unset, .unset] [(.int 6)]) _
      refine st2 _ ?_
      show SF p e below T2 (mkF m 20 #[iv p0s, iv p1s, iv 2, iv 6, rv w5, .unset, .unset] [(.ref w7)]) _
      refine XS.astore X2.here hx rfl (hb hby at_20) rfl rfl (l' := #[iv p0s, iv p1s, iv 2, iv 6, rv w5, rv w7, .unset]) rfl ?_
      exact k
    · obtain ⟨_, _, ⟨T2, L2, k2x, n2⟩, -, X2, ⟨Lc2, hQ2, l2, y2, z2⟩, st2⟩ := Jvm.LawKit.callS X1 hx (y := (⟨zs7, "of", zs1⟩ : MethodName)) hown (mvT hZ (tw hw 0 rfl)) (mvT hZ (tw hw 1 rfl)) (mvT hZ (tw hw 2 rfl)) (mvT hZ (tw hw 3 rfl)) (by decide) (backOf (W := 0) (rm1_19 l Z a0 hw [] w1 kw1 w2 w6 w5 w3 w4 w8 w7 w9 h0 n0 Z0 Sg4 O0 V_w1) hZ (tw hw 3 rfl) (tw hw 2 rfl) (by decide) (by decide)) (g := (mkF m 17 #[iv p0s, iv p1s, iv 2, iv 7, rv w5, .unset, .unset] [(.int 7)])) rfl (by rw [hml]; rfl) (argsL := [(.int 7)]) (rest := []) (lenOf pd_0 rfl) rfl (Nat.le_of_eq rfl) (hb hby at_17) (fun _ _ => ⟨rfl, e1, (by decide : 0 + 0 ≤ _), (by decide : 0 + 0 ≤ _)⟩)
      dsimp only [Pt.U, Pt.locs, Pt.cells, Pt.slots] at X2 l2 y2 z2 st2 hQ2
      subst l2 y2 z2
      obtain ⟨rfl, N2q, e2⟩ := hQ2
      have N2 := Fr.app N1 N2q
      refine Fine.pre (fun t k => pre0 _ (pre1 _ (pre2 _ (?_)))) (pc_7 (dv3 := (7 : Int32)) (dv5 := w9) X2 hx hZ hw hby hml hown hre hlk e2 N2 Z0 O0 Sg0 Sg1 rGF nzGC Sg7 Sg9 E_w5 Sg11 F_w4_bits F_w5_bits F_w6_bits (by decide) (Fld.ne F_w5_bits F_w9_bits (by decide)))
      show SF p e below T1 (mkF m 17 #[iv p0s, iv p1s, iv 2, iv (p1s &&& (7 : Int32)), rv w5, .unset, .unset] [(.int (p1s &&& (7 : Int32)))]) _
      rw [hc2]
      show SF p e below T1 (mkF m 17 #[iv p0s, iv p1s, iv 2, iv 7, rv w5, .unset, .unset] [(.int 7)]) _
      refine st2 _ ?_
      show SF p e below T2 (mkF m 20 #[iv p0s, iv p1s, iv 2, iv 7, rv w5, .unset, .unset] [(.ref w9)]) _
      refine XS.astore X2.here hx rfl (hb hby at_20) rfl rfl (l' := #[iv p0s, iv p1s, iv 2, iv 7, rv w5, rv w9, .unset]) rfl ?_
      exact k
  · obtain ⟨_, _, ⟨T1, L1, k1x, n1⟩, -, X1, ⟨Lc1, hQ1, l1, y1, z1⟩, st1⟩ := Jvm.LawKit.callS X0 hx (y := (⟨zs7, "of", zs1⟩ : MethodName)) hown (mvT hZ (tw hw 0 rfl)) (mvT hZ (tw hw 1 rfl)) (mvT hZ (tw hw 2 rfl)) (mvT hZ (tw hw 3 rfl)) (by decide) (backOf (W := 0) (rm1_15 l Z a0 hw [] w1 kw1 w2 w6 w5 w3 w4 w8 w7 w9 h0 n0 Z0 Sg4 O0 V_w1) hZ (tw hw 3 rfl) (tw hw 2 rfl) (by decide) (by decide)) (g := (mkF m 11 #[iv p0s, iv p1s, iv 3, iv (p1s &&& (7 : Int32)), .unset, .unset, .unset] [(.int 3)])) rfl (by rw [hml]; rfl) (argsL := [(.int 3)]) (rest := []) (lenOf pd_0 rfl) rfl (Nat.le_of_eq rfl) (hb hby at_11) (fun _ _ => ⟨rfl, e0, (by decide : 0 + 0 ≤ _), (by decide : 0 + 0 ≤ _)⟩)
    dsimp only [Pt.U, Pt.locs, Pt.cells, Pt.slots] at X1 l1 y1 z1 st1 hQ1
    subst l1 y1 z1
    obtain ⟨rfl, N1q, e1⟩ := hQ1
    have N1 := Fr.app N0 N1q
    have pre2 : ∀ t, SF p e below T1 (mkF m 17 #[iv p0s, iv p1s, iv 3, iv (p1s &&& (7 : Int32)), rv w3, .unset, .unset] [(.int (p1s &&& (7 : Int32)))]) t → SF p e below s₁ (mkF m 4 #[iv p0s, iv p1s, .unset, .unset, .unset, .unset, .unset] [(.int (p0s &&& (7 : Int32)))]) t := fun t k => by
      show SF p e below s₁ (mkF m 4 #[iv p0s, iv p1s, .unset, .unset, .unset, .unset, .unset] [(.int (p0s &&& (7 : Int32)))]) _
      rw [hc1]
      show SF p e below s₁ (mkF m 4 #[iv p0s, iv p1s, .unset, .unset, .unset, .unset, .unset] [(.int 3)]) _
      refine XS.istoreN X0.here hx rfl (hb hby at_4) rfl (l' := #[iv p0s, iv p1s, iv 3, .unset, .unset, .unset, .unset]) rfl ?_
      refine XS.iloadN X0.here hx rfl (hb hby at_5) rfl ?_
      show SF p e below s₁ (mkF m 6 #[iv p0s, iv p1s, iv 3, .unset, .unset, .unset, .unset] [(.int p1s)]) _
      refine XS.bipush X0.here hx rfl (hb hby at_6) ?_
      show SF p e below s₁ (mkF m 8 #[iv p0s, iv p1s, iv 3, .unset, .unset, .unset, .unset] [(.int 7), (.int p1s)]) _
      refine XS.iand X0.here hx rfl (hb hby at_8) rfl ?_
      show SF p e below s₁ (mkF m 9 #[iv p0s, iv p1s, iv 3, .unset, .unset, .unset, .unset] [(.int (p1s &&& (7 : Int32)))]) _
      refine XS.istoreN X0.here hx rfl (hb hby at_9) rfl (l' := #[iv p0s, iv p1s, iv 3, iv (p1s &&& (7 : Int32)), .unset, .unset, .unset]) rfl ?_
      refine XS.iloadN X0.here hx rfl (hb hby at_10) rfl ?_
      show SF p e below s₁ (mkF m 11 #[iv p0s, iv p1s, iv 3, iv (p1s &&& (7 : Int32)), .unset, .unset, .unset] [(.int 3)]) _
      refine st1 _ ?_
      show SF p e below T1 (mkF m 14 #[iv p0s, iv p1s, iv 3, iv (p1s &&& (7 : Int32)), .unset, .unset, .unset] [(.ref w3)]) _
      refine XS.astore X1.here hx rfl (hb hby at_14) rfl rfl (l' := #[iv p0s, iv p1s, iv 3, iv (p1s &&& (7 : Int32)), rv w3, .unset, .unset]) rfl ?_
      refine XS.iloadN X1.here hx rfl (hb hby at_16) rfl ?_
      exact k
    rcases own_and7 p1s with hc2 | hc2 | hc2 | hc2 | hc2 | hc2 | hc2 | hc2
    · obtain ⟨_, _, ⟨T2, L2, k2x, n2⟩, -, X2, ⟨Lc2, hQ2, l2, y2, z2⟩, st2⟩ := Jvm.LawKit.callS X1 hx (y := (⟨zs7, "of", zs1⟩ : MethodName)) hown (mvT hZ (tw hw 0 rfl)) (mvT hZ (tw hw 1 rfl)) (mvT hZ (tw hw 2 rfl)) (mvT hZ (tw hw 3 rfl)) (by decide) (backOf (W := 0) (rm1_1 l Z a0 hw [] w1 kw1 w2 w6 w5 w3 w4 w8 w7 w9 h0 n0 Z0 Sg4 O0 V_w1) hZ (tw hw 3 rfl) (tw hw 2 rfl) (by decide) (by decide)) (g := (mkF m 17 #[iv p0s, iv p1s, iv 3, iv 0, rv w3, .unset, .unset] [(.int 0)])) rfl (by rw [hml]; rfl) (argsL := [(.int 0)]) (rest := []) (lenOf pd_0 rfl) rfl (Nat.le_of_eq rfl) (hb hby at_17) (fun _ _ => ⟨rfl, e1, (by decide : 0 + 0 ≤ _), (by decide : 0 + 0 ≤ _)⟩)
      dsimp only [Pt.U, Pt.locs, Pt.cells, Pt.slots] at X2 l2 y2 z2 st2 hQ2
      subst l2 y2 z2
      obtain ⟨rfl, N2q, e2⟩ := hQ2
      have N2 := Fr.app N1 N2q
      refine Fine.pre (fun t k => pre0 _ (pre1 _ (pre2 _ (?_)))) (pc_10 (dv3 := (0 : Int32)) (dv5 := w2) X2 hx hZ hw hby hml hown hre hlk e2 N2 Z0 O0 Sg0 Sg1 rGF nzGC E_w3 Sg7 Sg9 Sg11 F_w4_bits F_w5_bits F_w6_bits F_w3_bits (by decide) (Fld.ne F_w3_bits F_w2_bits (by decide)))
      show SF p e below T1 (mkF m 17 #[iv p0s, iv p1s, iv 3, iv (p1s &&& (7 : Int32)), rv w3, .unset, .unset] [(.int (p1s &&& (7 : Int32)))]) _
      rw [hc2]
      show SF p e below T1 (mkF m 17 #[iv p0s, iv p1s, iv 3, iv 0, rv w3, .unset, .unset] [(.int 0)]) _
      refine st2 _ ?_
      show SF p e below T2 (mkF m 20 #[iv p0s, iv p1s, iv 3, iv 0, rv w3, .unset, .unset] [(.ref w2)]) _
      refine XS.astore X2.here hx rfl (hb hby at_20) rfl rfl (l' := #[iv p0s, iv p1s, iv 3, iv 0, rv w3, rv w2, .unset]) rfl ?_
      exact k
    · obtain ⟨_, _, ⟨T2, L2, k2x, n2⟩, -, X2, ⟨Lc2, hQ2, l2, y2, z2⟩, st2⟩ := Jvm.LawKit.callS X1 hx (y := (⟨zs7, "of", zs1⟩ : MethodName)) hown (mvT hZ (tw hw 0 rfl)) (mvT hZ (tw hw 1 rfl)) (mvT hZ (tw hw 2 rfl)) (mvT hZ (tw hw 3 rfl)) (by decide) (backOf (W := 0) (rm1_13 l Z a0 hw [] w1 kw1 w2 w6 w5 w3 w4 w8 w7 w9 h0 n0 Z0 Sg4 O0 V_w1) hZ (tw hw 3 rfl) (tw hw 2 rfl) (by decide) (by decide)) (g := (mkF m 17 #[iv p0s, iv p1s, iv 3, iv 1, rv w3, .unset, .unset] [(.int 1)])) rfl (by rw [hml]; rfl) (argsL := [(.int 1)]) (rest := []) (lenOf pd_0 rfl) rfl (Nat.le_of_eq rfl) (hb hby at_17) (fun _ _ => ⟨rfl, e1, (by decide : 0 + 0 ≤ _), (by decide : 0 + 0 ≤ _)⟩)
      dsimp only [Pt.U, Pt.locs, Pt.cells, Pt.slots] at X2 l2 y2 z2 st2 hQ2
      subst l2 y2 z2
      obtain ⟨rfl, N2q, e2⟩ := hQ2
      have N2 := Fr.app N1 N2q
      refine Fine.pre (fun t k => pre0 _ (pre1 _ (pre2 _ (?_)))) (pc_10 (dv3 := (1 : Int32)) (dv5 := w6) X2 hx hZ hw hby hml hown hre hlk e2 N2 Z0 O0 Sg0 Sg1 rGF nzGC E_w3 Sg7 Sg9 Sg11 F_w4_bits F_w5_bits F_w6_bits F_w3_bits (by decide) (Fld.ne F_w3_bits F_w6_bits (by decide)))
      show SF p e below T1 (mkF m 17 #[iv p0s, iv p1s, iv 3, iv (p1s &&& (7 : Int32)), rv w3, .unset, .unset] [(.int (p1s &&& (7 : Int32)))]) _
      rw [hc2]
      show SF p e below T1 (mkF m 17 #[iv p0s, iv p1s, iv 3, iv 1, rv w3, .unset, .unset] [(.int 1)]) _
      refine st2 _ ?_
      show SF p e below T2 (mkF m 20 #[iv p0s, iv p1s, iv 3, iv 1, rv w3, .unset, .unset] [(.ref w6)]) _
      refine XS.astore X2.here hx rfl (hb hby at_20) rfl rfl (l' := #[iv p0s, iv p1s, iv 3, iv 1, rv w3, rv w6, .unset]) rfl ?_
      exact k
    · obtain ⟨_, _, ⟨T2, L2, k2x, n2⟩, -, X2, ⟨Lc2, hQ2, l2, y2, z2⟩, st2⟩ := Jvm.LawKit.callS X1 hx (y := (⟨zs7, "of", zs1⟩ : MethodName)) hown (mvT hZ (tw hw 0 rfl)) (mvT hZ (tw hw 1 rfl)) (mvT hZ (tw hw 2 rfl)) (mvT hZ (tw hw 3 rfl)) (by decide) (backOf (W := 0) (rm1_14 l Z a0 hw [] w1 kw1 w2 w6 w5 w3 w4 w8 w7 w9 h0 n0 Z0 Sg4 O0 V_w1) hZ (tw hw 3 rfl) (tw hw 2 rfl) (by decide) (by decide)) (g := (mkF m 17 #[iv p0s, iv p1s, iv 3, iv 2, rv w3, .unset, .unset] [(.int 2)])) rfl (by rw [hml]; rfl) (argsL := [(.int 2)]) (rest := []) (lenOf pd_0 rfl) rfl (Nat.le_of_eq rfl) (hb hby at_17) (fun _ _ => ⟨rfl, e1, (by decide : 0 + 0 ≤ _), (by decide : 0 + 0 ≤ _)⟩)
      dsimp only [Pt.U, Pt.locs, Pt.cells, Pt.slots] at X2 l2 y2 z2 st2 hQ2
      subst l2 y2 z2
      obtain ⟨rfl, N2q, e2⟩ := hQ2
      have N2 := Fr.app N1 N2q
      refine Fine.pre (fun t k => pre0 _ (pre1 _ (pre2 _ (?_)))) (pc_10 (dv3 := (2 : Int32)) (dv5 := w5) X2 hx hZ hw hby hml hown hre hlk e2 N2 Z0 O0 Sg0 Sg1 rGF nzGC E_w3 Sg7 Sg9 Sg11 F_w4_bits F_w5_bits F_w6_bits F_w3_bits (by decide) (Fld.ne F_w3_bits F_w5_bits (by decide)))
      show SF p e below T1 (mkF m 17 #[iv p0s, iv p1s, iv 3, iv (p1s &&& (7 : Int32)), rv w3, .unset, .unset] [(.int (p1s &&& (7 : Int32)))]) _
      rw [hc2]
      show SF p e below T1 (mkF m 17 #[iv p0s, iv p1s, iv 3, iv 2, rv w3, .unset, .unset] [(.int 2)]) _
      refine st2 _ ?_
      show SF p e below T2 (mkF m 20 #[iv p0s, iv p1s, iv 3, iv 2, rv w3, .unset, .unset] [(.ref w5)]) _
      refine XS.astore X2.here hx rfl (hb hby at_20) rfl rfl (l' := #[iv p0s, iv p1s, iv 3, iv 2, rv w3, rv w5, .unset]) rfl ?_
      exact k
    · obtain ⟨_, _, ⟨T2, L2, k2x, n2⟩, -, X2, ⟨Lc2, hQ2, l2, y2, z2⟩, st2⟩ := Jvm.LawKit.callS X1 hx (y := (⟨zs7, "of", zs1⟩ : MethodName)) hown (mvT hZ (tw hw 0 rfl)) (mvT hZ (tw hw 1 rfl)) (mvT hZ (tw hw 2 rfl)) (mvT hZ (tw hw 3 rfl)) (by decide) (backOf (W := 0) (rm1_15 l Z a0 hw [] w1 kw1 w2 w6 w5 w3 w4 w8 w7 w9 h0 n0 Z0 Sg4 O0 V_w1) hZ (tw hw 3 rfl) (tw hw 2 rfl) (by decide) (by decide)) (g := (mkF m 17 #[iv p0s, iv p1s, iv 3, iv 3, rv w3, .unset, .unset] [(.int 3)])) rfl (by rw [hml]; rfl) (argsL := [(.int 3)]) (rest := []) (lenOf pd_0 rfl) rfl (Nat.le_of_eq rfl) (hb hby at_17) (fun _ _ => ⟨rfl, e1, (by decide : 0 + 0 ≤ _), (by decide : 0 + 0 ≤ _)⟩)
      dsimp only [Pt.U, Pt.locs, Pt.cells, Pt.slots] at X2 l2 y2 z2 st2 hQ2
      subst l2 y2 z2
      obtain ⟨rfl, N2q, e2⟩ := hQ2
      have N2 := Fr.app N1 N2q
      refine Fine.pre (fun t k => pre0 _ (pre1 _ (pre2 _ (?_)))) (pc_12 X2 hx hZ hw hby hml hown hre hlk e2 N2 Z0 O0 Sg0 Sg1 rGF nzGC E_w3 Sg7 Sg9 Sg11 F_w4_bits F_w5_bits F_w6_bits F_w3_bits )
      show SF p e below T1 (mkF m 17 #[iv p0s, iv p1s, iv 3, iv (p1s &&& (7 : Int32)), rv w3, .unset, .unset] [(.int (p1s &&& (7 : Int32)))]) _
      rw [hc2]
      show SF p e below T1 (mkF m 17 #[iv p0s, iv p1s, iv 3, iv 3, rv w3, .unset, .unset] [(.int 3)]) _
      refine st2 _ ?_
      show SF p e below T2 (mkF m 20 #[iv p0s, iv p1s, iv 3, iv 3, rv w3, .unset, .unset] [(.ref w3)]) _
      refine XS.astore X2.here hx rfl (hb hby at_20) rfl rfl (l' := #[iv p0s, iv p1s, iv 3, iv 3, rv w3, rv w3, .unset]) rfl ?_
      exact k
    · obtain ⟨_, _, ⟨T2, L2, k2x, n2⟩, -, X2, ⟨Lc2, hQ2, l2, y2, z2⟩, st2⟩ := Jvm.LawKit.callS X1 hx (y := (⟨zs7, "of", zs1⟩ : MethodName)) hown (mvT hZ (tw hw 0 rfl)) (mvT hZ (tw hw 1 rfl)) (mvT hZ (tw hw 2 rfl)) (mvT hZ (tw hw 3 rfl)) (by decide) (backOf (W := 0) (rm1_16 l Z a0 hw [] w1 kw1 w2 w6 w5 w3 w4 w8 w7 w9 h0 n0 Z0 Sg4 O0 V_w1) hZ (tw hw 3 rfl) (tw hw 2 rfl) (by decide) (by decide)) (g := (mkF m 17 #[iv p0s, iv p1s, iv 3, iv 4, rv w3, .unset, .unset] [(.int 4)])) rfl (by rw [hml]; rfl) (argsL := [(.int 4)]) (rest := []) (lenOf pd_0 rfl) rfl (Nat.le_of_eq rfl) (hb hby at_17) (fun _ _ => ⟨rfl, e1, (by decide : 0 + 0 ≤ _), (by decide : 0 + 0 ≤ _)⟩)
      dsimp only [Pt.U, Pt.locs, Pt.cells, Pt.slots] at X2 l2 y2 z2 st2 hQ2
      subst l2 y2 z2
      obtain ⟨rfl, N2q, e2⟩ := hQ2
      have N2 := Fr.app N1 N2q
      refine Fine.pre (fun t k => pre0 _ (pre1 _ (pre2 _ (?_)))) (pc_10 (dv3 := (4 : Int32)) (dv5 := w4) X2 hx hZ hw hby hml hown hre hlk e2 N2 Z0 O0 Sg0 Sg1 rGF nzGC E_w3 Sg7 Sg9 Sg11 F_w4_bits F_w5_bits F_w6_bits F_w3_bits (by decide) (Fld.ne F_w3_bits F_w4_bits (by decide)))
      show SF p e below T1 (mkF m 17 #[iv p0s, iv p1s, iv 3, iv (p1s &&& (7 : Int32)), rv w3, .unset, .unset] [(.int (p1s &&& (7 : Int32)))]) _
      rw [hc2]
      show SF p e below T1 (mkF m 17 #[iv p0s, iv p1s, iv 3, iv 4, rv w3, .unset, .unset] [(.int 4)]) _
      refine st2 _ ?_
      show SF p e below T2 (mkF m 20 #[iv p0s, iv p1s, iv 3, iv 4, rv w3, .unset, .unset] [(.ref w4)]) _
      refine XS.astore X2.here hx rfl (hb hby at_20) rfl rfl (l' := #[iv p0s, iv p1s, iv 3, iv 4, rv w3, rv w4, .unset]) rfl ?_
      exact k
    · obtain ⟨_, _, ⟨T2, L2, k2x, n2⟩, -, X2, ⟨Lc2, hQ2, l2, y2, z2⟩, st2⟩ := Jvm.LawKit.callS X1 hx (y := (⟨zs7, "of", zs1⟩ : MethodName)) hown (mvT hZ (tw hw 0 rfl)) (mvT hZ (tw hw 1 rfl)) (mvT hZ (tw hw 2 rfl)) (mvT hZ (tw hw 3 rfl)) (by decide) (backOf (W := 0) (rm1_17 l Z a0 hw [] w1 kw1 w2 w6 w5 w3 w4 w8 w7 w9 h0 n0 Z0 Sg4 O0 V_w1) hZ (tw hw 3 rfl) (tw hw 2 rfl) (by decide) (by decide)) (g := (mkF m 17 #[iv p0s, iv p1s, iv 3, iv 5, rv w3, .unset, .unset] [(.int 5)])) rfl (by rw [hml]; rfl) (argsL := [(.int 5)]) (rest := []) (lenOf pd_0 rfl) rfl (Nat.le_of_eq rfl) (hb hby at_17) (fun _ _ => ⟨rfl, e1, (by decide : 0 + 0 ≤ _), (by decide : 0 + 0 ≤ _)⟩)
      dsimp only [Pt.U, Pt.locs, Pt.cells, Pt.slots] at X2 l2 y2 z2 st2 hQ2
      subst l2 y2 z2
      obtain ⟨rfl, N2q, e2⟩ := hQ2
      have N2 := Fr.app N1 N2q
      refine Fine.pre (fun t k => pre0 _ (pre1 _ (pre2 _ (?_)))) (pc_10 (dv3 := (5 : Int32)) (dv5 := w8) X2 hx hZ hw hby hml hown hre hlk e2 N2 Z0 O0 Sg0 Sg1 rGF nzGC E_w3 Sg7 Sg9 Sg11 F_w4_bits F_w5_bits F_w6_bits F_w3_bits (by decide) (Fld.ne F_w3_bits F_w8_bits (by decide)))
      show SF p e below T1 (mkF m 17 #[iv p0s, iv p1s, iv 3, iv (p1s &&& (7 : Int32)), rv w3, .unset, .unset] [(.int (p1s &&& (7 : Int32)))]) _
      rw [hc2]
      show SF p e below T1 (mkF m 17 #[iv p0s, iv p1s, iv 3, iv 5, rv w3, .unset, .unset] [(.int 5)]) _
      refine st2 _ ?_
      show SF p e below T2 (mkF m 20 #[iv p0s, iv p1s, iv 3, iv 5, rv w3, .unset, .unset] [(.ref w8)]) _
      refine XS.astore X2.here hx rfl (hb hby at_20) rfl rfl (l' := #[iv p0s, iv p1s, iv 3, iv 5, rv w3, rv w8, .unset]) rfl ?_
      exact k
    · obtain ⟨_, _, ⟨T2, L2, k2x, n2⟩, -, X2, ⟨Lc2, hQ2, l2, y2, z2⟩, st2⟩ := Jvm.LawKit.callS X1 hx (y := (⟨zs7, "of", zs1⟩ : MethodName)) hown (mvT hZ (tw hw 0 rfl)) (mvT hZ (tw hw 1 rfl)) (mvT hZ (tw hw 2 rfl)) (mvT hZ (tw hw 3 rfl)) (by decide) (backOf (W := 0) (rm1_18 l Z a0 hw [] w1 kw1 w2 w6 w5 w3 w4 w8 w7 w9 h0 n0 Z0 Sg4 O0 V_w1) hZ (tw hw 3 rfl) (tw hw 2 rfl) (by decide) (by decide)) (g := (mkF m 17 #[iv p0s, iv p1s, iv 3, iv 6, rv w3, .unset, .unset] [(.int 6)])) rfl (by rw [hml]; rfl) (argsL := [(.int 6)]) (rest := []) (lenOf pd_0 rfl) rfl (Nat.le_of_eq rfl) (hb hby at_17) (fun _ _ => ⟨rfl, e1, (by decide : 0 + 0 ≤ _), (by decide : 0 + 0 ≤ _)⟩)
      dsimp only [Pt.U, Pt.locs, Pt.cells, Pt.slots] at X2 l2 y2 z2 st2 hQ2
      subst l2 y2 z2
      obtain ⟨rfl, N2q, e2⟩ := hQ2
      have N2 := Fr.app N1 N2q
      refine Fine.pre (fun t k => pre0 _ (pre1 _ (pre2 _ (?_)))) (pc_10 (dv3 := (6 : Int32)) (dv5 := w7) X2 hx hZ hw hby hml hown hre hlk e2 N2 Z0 O0 Sg0 Sg1 rGF nzGC E_w3 Sg7 Sg9 Sg11 F_w4_bits F_w5_bits F_w6_bits F_w3_bits (by decide) (Fld.ne F_w3_bits F_w7_bits (by decide)))
      show SF p e below T1 (mkF m 17 #[iv p0s, iv p1s, iv 3, iv (p1s &&& (7 : Int32)), rv w3, .unset, .unset] [(.int (p1s &&& (7 : Int32)))]) _
      rw [hc2]
      show SF p e below T1 (mkF m 17 #[iv p0s, iv p1s, iv 3, iv 6, rv w3, .unset, .unset] [(.int 6)]) _
      refine st2 _ ?_
      show SF p e below T2 (mkF m 20 #[iv p0s, iv p1s, iv 3, iv 6, rv w3, .unset, .unset] [(.ref w7)]) _
      refine XS.astore X2.here hx rfl (hb hby at_20) rfl rfl (l' := #[iv p0s, iv p1s, iv 3, iv 6, rv w3, rv w7, .unset]) rfl ?_
      exact k
    · obtain ⟨_, _, ⟨T2, L2, k2x, n2⟩, -, X2, ⟨Lc2, hQ2, l2, y2, z2⟩, st2⟩ := Jvm.LawKit.callS X1 hx (y := (⟨zs7, "of", zs1⟩ : MethodName)) hown (mvT hZ (tw hw 0 rfl)) (mvT hZ (tw hw 1 rfl)) (mvT hZ (tw hw 2 rfl)) (mvT hZ (tw hw 3 rfl)) (by decide) (backOf (W := 0) (rm1_19 l Z a0 hw [] w1 kw1 w2 w6 w5 w3 w4 w8 w7 w9 h0 n0 Z0 Sg4 O0 V_w1) hZ (tw hw 3 rfl) (tw hw 2 rfl) (by decide) (by decide)) (g := (mkF m 17 #[iv p0s, iv p1s, iv 3, iv 7, rv w3, .unset, .unset] [(.int 7)])) rfl (by rw [hml]; rfl) (argsL := [(.int 7)]) (rest := []) (lenOf pd_0 rfl) rfl (Nat.le_of_eq rfl) (hb hby at_17) (fun _ _ => ⟨rfl, e1, (by decide : 0 + 0 ≤ _), (by decide : 0 + 0 ≤ _)⟩)
      dsimp only [Pt.U, Pt.locs, Pt.cells, Pt.slots] at X2 l2 y2 z2 st2 hQ2
      subst l2 y2 z2
      obtain ⟨rfl, N2q, e2⟩ := hQ2
      have N2 := Fr.app N1 N2q
      refine Fine.pre (fun t k => pre0 _ (pre1 _ (pre2 _ (?_)))) (pc_10 (dv3 := (7 : Int32)) (dv5 := w9) X2 hx hZ hw hby hml hown hre hlk e2 N2 Z0 O0 Sg0 Sg1 rGF nzGC E_w3 Sg7 Sg9 Sg11 F_w4_bits F_w5_bits F_w6_bits F_w3_bits (by decide) (Fld.ne F_w3_bits F_w9_bits (by decide)))
      show SF p e below T1 (mkF m 17 #[iv p0s, iv p1s, iv 3, iv (p1s &&& (7 : Int32)), rv w3, .unset, .unset] [(.int (p1s &&& (7 : Int32)))]) _
      rw [hc2]
      show SF p e below T1 (mkF m 17 #[iv p0s, iv p1s, iv 3, iv 7, rv w3, .unset, .unset] [(.int 7)]) _
      refine st2 _ ?_
      show SF p e below T2 (mkF m 20 #[iv p0s, iv p1s, iv 3, iv 7, rv w3, .unset, .unset] [(.ref w9)]) _
      refine XS.astore X2.here hx rfl (hb hby at_20) rfl rfl (l' := #[iv p0s, iv p1s, iv 3, iv 7, rv w3, rv w9, .unset]) rfl ?_
      exact k
  · obtain ⟨_, _, ⟨T1, L1, k1x, n1⟩, -, X1, ⟨Lc1, hQ1, l1, y1, z1⟩, st1⟩ := Jvm.LawKit.callS X0 hx (y := (⟨zs7, "of", zs1⟩ : MethodName)) hown (mvT hZ (tw hw 0 rfl)) (mvT hZ (tw hw 1 rfl)) (mvT hZ (tw hw 2 rfl)) (mvT hZ (tw hw 3 rfl)) (by decide) (backOf (W := 0) (rm1_16 l Z a0 hw [] w1 kw1 w2 w6 w5 w3 w4 w8 w7 w9 h0 n0 Z0 Sg4 O0 V_w1) hZ (tw hw 3 rfl) (tw hw 2 rfl) (by decide) (by decide)) (g := (mkF m 11 #[iv p0s, iv p1s, iv 4, iv (p1s &&& (7 : Int32)), .unset, .unset, .unset] [(.int 4)])) rfl (by rw [hml]; rfl) (argsL := [(.int 4)]) (rest := []) (lenOf pd_0 rfl) rfl (Nat.le_of_eq rfl) (hb hby at_11) (fun _ _ => ⟨rfl, e0, (by decide : 0 + 0 ≤ _), (by decide : 0 + 0 ≤ _)⟩)
    dsimp only [Pt.U, Pt.locs, Pt.cells, Pt.slots] at X1 l1 y1 z1 st1 hQ1
    subst l1 y1 z1
    obtain ⟨rfl, N1q, e1⟩ := hQ1
    have N1 := Fr.app N0 N1q
    have pre2 : ∀ t, SF p e below T1 (mkF m 17 #[iv p0s, iv p1s, iv 4, iv (p1s &&& (7 : Int32)), rv w4, .unset, .unset] [(.int (p1s &&& (7 : Int32)))]) t → SF p e below s₁ (mkF m 4 #[iv p0s, iv p1s, .unset, .unset, .unset, .unset, .unset] [(.int (p0s &&& (7 : Int32)))]) t := fun t k => by
      show SF p e below s₁ (mkF m 4 #[iv p0s, iv p1s, .unset, .unset, .unset, .unset, .unset] [(.int (p0s &&& (7 : Int32)))]) _
      rw [hc1]
      show SF p e below s₁ (mkF m 4 #[iv p0s, iv p1s, .unset, .unset, .unset, .unset, .unset] [(.int 4)]) _
      refine XS.istoreN X0.here hx rfl (hb hby at_4) rfl (l' := #[iv p0s, iv p1s, iv 4, .unset, .unset, .unset, .unset]) rfl ?_
      refine XS.iloadN X0.here hx rfl (hb hby at_5) rfl ?_
      show SF p e below s₁ (mkF m 6 #[iv p0s, iv p1s, iv 4, .unset, .unset, .unset, .unset] [(.int p1s)]) _
      refine XS.bipush X0.here hx rfl (hb hby at_6) ?_
      show SF p e below s₁ (mkF m 8 #[iv p0s, iv p1s, iv 4, .unset, .unset, .unset, .unset] [(.int 7), (.int p1s)]) _
      refine XS.iand X0.here hx rfl (hb hby at_8) rfl ?_
      show SF p e below s₁ (mkF m 9 #[iv p0s, iv p1s, iv 4, .unset, .unset, .unset, .unset] [(.int (p1s &&& (7 : Int32)))]) _
      refine XS.istoreN X0.here hx rfl (hb hby at_9) rfl (l' := #[iv p0s, iv p1s, iv 4, iv (p1s &&& (7 : Int32)), .unset, .unset, .unset]) rfl ?_
      refine XS.iloadN X0.here hx rfl (hb hby at_10) rfl ?_
      show SF p e below s₁ (mkF m 11 #[iv p0s, iv p1s, iv 4, iv (p1s &&& (7 : Int32)), .unset, .unset, .unset] [(.int 4)]) _
      refine st1 _ ?_
      show SF p e below T1 (mkF m 14 #[iv p0s, iv p1s, iv 4, iv (p1s &&& (7 : Int32)), .unset, .unset, .unset] [(.ref w4)]) _
      refine XS.astore X1.here hx rfl (hb hby at_14) rfl rfl (l' := #[iv p0s, iv p1s, iv 4, iv (p1s &&& (7 : Int32)), rv w4, .unset, .unset]) rfl ?_
      refine XS.iloadN X1.here hx rfl (hb hby at_16) rfl ?_
      exact k
    rcases own_and7 p1s with hc2 | hc2 | hc2 | hc2 | hc2 | hc2 | hc2 | hc2
    · obtain ⟨_, _, ⟨T2, L2, k2x, n2⟩, -, X2, ⟨Lc2, hQ2, l2, y2, z2⟩, st2⟩ := Jvm.LawKit.callS X1 hx (y := (⟨zs7, "of", zs1⟩ : MethodName)) hown (mvT hZ (tw hw 0 rfl)) (mvT hZ (tw hw 1 rfl)) (mvT hZ (tw hw 2 rfl)) (mvT hZ (tw hw 3 rfl)) (by decide) (backOf (W := 0) (rm1_1 l Z a0 hw [] w1 kw1 w2 w6 w5 w3 w4 w8 w7 w9 h0 n0 Z0 Sg4 O0 V_w1) hZ (tw hw 3 rfl) (tw hw 2 rfl) (by decide) (by decide)) (g := (mkF m 17 #[iv p0s, iv p1s, iv 4, iv 0, rv w4, .unset, .unset] [(.int 0)])) rfl (by rw [hml]; rfl) (argsL := [(.int 0)]) (rest := []) (lenOf pd_0 rfl) rfl (Nat.le_of_eq rfl) (hb hby at_17) (fun _ _ => ⟨rfl, e1, (by decide : 0 + 0 ≤ _), (by decide : 0 + 0 ≤ _)⟩)
      dsimp only [Pt.U, Pt.locs, Pt.cells, Pt.slots] at X2 l2 y2 z2 st2 hQ2
      subst l2 y2 z2
      obtain ⟨rfl, N2q, e2⟩ := hQ2
      have N2 := Fr.app N1 N2q
      refine Fine.pre (fun t k => pre0 _ (pre1 _ (pre2 _ (?_)))) (pc_13 (dv3 := (0 : Int32)) (dv5 := w2) X2 hx hZ hw hby hml hown hre hlk e2 N2 Z0 O0 Sg0 Sg1 rGF nzGC Sg7 E_w4 Sg9 Sg11 F_w4_bits F_w5_bits F_w6_bits (by decide) (Fld.ne F_w4_bits F_w2_bits (by decide)))
      show SF p e below T1 (mkF m 17 #[iv p0s, iv p1s, iv 4, iv (p1s &&& (7 : Int32)), rv w4, .unset, .unset] [(.int (p1s &&& (7 : Int32)))]) _
      rw [hc2]
      show SF p e below T1 (mkF m 17 #[iv p0s, iv p1s, iv 4, iv 0, rv w4, .unset, .unset] [(.int 0)]) _
      refine st2 _ ?_
      show SF p e below T2 (mkF m 20 #[iv p0s, iv p1s, iv 4, iv 0, rv w4, .unset, .unset] [(.ref w2)]) _
      refine XS.astore X2.here hx rfl (hb hby at_20) rfl rfl (l' := #[iv p0s, iv p1s, iv 4, iv 0, rv w4, rv w2, .unset]) rfl ?_
      exact k
    · obtain ⟨_, _, ⟨T2, L2, k2x, n2⟩, -, X2, ⟨Lc2, hQ2, l2, y2, z2⟩, st2⟩ := Jvm.LawKit.callS X1 hx (y := (⟨zs7, "of", zs1⟩ : MethodName)) hown (mvT hZ (tw hw 0 rfl)) (mvT hZ (tw hw 1 rfl)) (mvT hZ (tw hw 2 rfl)) (mvT hZ (tw hw 3 rfl)) (by decide) (backOf (W := 0) (rm1_13 l Z a0 hw [] w1 kw1 w2 w6 w5 w3 w4 w8 w7 w9 h0 n0 Z0 Sg4 O0 V_w1) hZ (tw hw 3 rfl) (tw hw 2 rfl) (by decide) (by decide)) (g := (mkF m 17 #[iv p0s, iv p1s, iv 4, iv 1, rv w4, .unset, .unset] [(.int 1)])) rfl (by rw [hml]; rfl) (argsL := [(.int 1)]) (rest := []) (lenOf pd_0 rfl) rfl (Nat.le_of_eq rfl) (hb hby at_17) (fun _ _ => ⟨rfl, e1, (by decide : 0 + 0 ≤ _), (by decide : 0 + 0 ≤ _)⟩)
      dsimp only [Pt.U, Pt.locs, Pt.cells, Pt.slots] at X2 l2 y2 z2 st2 hQ2
      subst l2 y2 z2
      obtain ⟨rfl, N2q, e2⟩ := hQ2
      have N2 := Fr.app N1 N2q
      refine Fine.pre (fun t k => pre0 _ (pre1 _ (pre2 _ (?_)))) (pc_13 (dv3 := (1 : Int32)) (dv5 := w6) X2 hx hZ hw hby hml hown hre hlk e2 N2 Z0 O0 Sg0 Sg1 rGF nzGC Sg7 E_w4 Sg9 Sg11 F_w4_bits F_w5_bits F_w6_bits (by decide) (Fld.ne F_w4_bits F_w6_bits (by decide)))
      show SF p e below T1 (mkF m 17 #[iv p0s, iv p1s, iv 4, iv (p1s &&& (7 : Int32)), rv w4, .unset, .unset] [(.int (p1s &&& (7 : Int32)))]) _
      rw [hc2]
      show SF p e below T1 (mkF m 17 #[iv p0s, iv p1s, iv 4, iv 1, rv w4, .unset, .unset] [(.int 1)]) _
      refine st2 _ ?_
      show SF p e below T2 (mkF m 20 #[iv p0s, iv p1s, iv 4, iv 1, rv w4, .unset, .unset] [(.ref w6)]) _
      refine XS.astore X2.here hx rfl (hb hby at_20) rfl rfl (l' := #[iv p0s, iv p1s, iv 4, iv 1, rv w4, rv w6, .unset]) rfl ?_
      exact k
    · obtain ⟨_, _, ⟨T2, L2, k2x, n2⟩, -, X2, ⟨Lc2, hQ2, l2, y2, z2⟩, st2⟩ := Jvm.LawKit.callS X1 hx (y := (⟨zs7, "of", zs1⟩ : MethodName)) hown (mvT hZ (tw hw 0 rfl)) (mvT hZ (tw hw 1 rfl)) (mvT hZ (tw hw 2 rfl)) (mvT hZ (tw hw 3 rfl)) (by decide) (backOf (W := 0) (rm1_14 l Z a0 hw [] w1 kw1 w2 w6 w5 w3 w4 w8 w7 w9 h0 n0 Z0 Sg4 O0 V_w1) hZ (tw hw 3 rfl) (tw hw 2 rfl) (by decide) (by decide)) (g := (mkF m 17 #[iv p0s, iv p1s, iv 4, iv 2, rv w4, .unset, .unset] [(.int 2)])) rfl (by rw [hml]; rfl) (argsL := [(.int 2)]) (rest := []) (lenOf pd_0 rfl) rfl (Nat.le_of_eq rfl) (hb hby at_17) (fun _ _ => ⟨rfl, e1, (by decide : 0 + 0 ≤ _), (by decide : 0 + 0 ≤ _)⟩)
      dsimp only [Pt.U, Pt.locs, Pt.cells, Pt.slots] at X2 l2 y2 z2 st2 hQ2
      subst l2 y2 z2
      obtain ⟨rfl, N2q, e2⟩ := hQ2
      have N2 := Fr.app N1 N2q
      refine Fine.pre (fun t k => pre0 _ (pre1 _ (pre2 _ (?_)))) (pc_13 (dv3 := (2 : Int32)) (dv5 := w5) X2 hx hZ hw hby hml hown hre hlk e2 N2 Z0 O0 Sg0 Sg1 rGF nzGC Sg7 E_w4 Sg9 Sg11 F_w4_bits F_w5_bits F_w6_bits (by decide) (Fld.ne F_w4_bits F_w5_bits (by decide)))
      show SF p e below T1 (mkF m 17 #[iv p0s, iv p1s, iv 4, iv (p1s &&& (7 : Int32)), rv w4, .unset, .unset] [(.int (p1s &&& (7 : Int32)))]) _
      rw [hc2]
      show SF p e below T1 (mkF m 17 #[iv p0s, iv p1s, iv 4, iv 2, rv w4, .unset, .unset] [(.int 2)]) _
      refine st2 _ ?_
      show SF p e below T2 (mkF m 20 #[iv p0s, iv p1s, iv 4, iv 2, rv w4, .unset, .unset] [(.ref w5)]) _
      refine XS.astore X2.here hx rfl (hb hby at_20) rfl rfl (l' := #[iv p0s, iv p1s, iv 4, iv 2, rv w4, rv w5, .unset]) rfl ?_
      exact k
    · obtain ⟨_, _, ⟨T2, L2, k2x, n2⟩, -, X2, ⟨Lc2, hQ2, l2, y2, z2⟩, st2⟩ := Jvm.LawKit.callS X1 hx (y := (⟨zs7, "of", zs1⟩ : MethodName)) hown (mvT hZ (tw hw 0 rfl)) (mvT hZ (tw hw 1 rfl)) (mvT hZ (tw hw 2 rfl)) (mvT hZ (tw hw 3 rfl)) (by decide) (backOf (W := 0) (rm1_15 l Z a0 hw [] w1 kw1 w2 w6 w5 w3 w4 w8 w7 w9 h0 n0 Z0 Sg4 O0 V_w1) hZ (tw hw 3 rfl) (tw hw 2 rfl) (by decide) (by decide)) (g := (mkF m 17 #[iv p0s, iv p1s, iv 4, iv 3, rv w4, .unset, .unset] [(.int 3)])) rfl (by rw [hml]; rfl) (argsL := [(.int 3)]) (rest := []) (lenOf pd_0 rfl) rfl (Nat.le_of_eq rfl) (hb hby at_17) (fun _ _ => ⟨rfl, e1, (by decide : 0 + 0 ≤ _), (by decide : 0 + 0 ≤ _)⟩)
      dsimp only [Pt.U, Pt.locs, Pt.cells, Pt.slots] at X2 l2 y2 z2 st2 hQ2
      subst l2 y2 z2
      obtain ⟨rfl, N2q, e2⟩ := hQ2
      have N2 := Fr.app N1 N2q
      refine Fine.pre (fun t k => pre0 _ (pre1 _ (pre2 _ (?_)))) (pc_13 (dv3 := (3 : Int32)) (dv5 := w3) X2 hx hZ hw hby hml hown hre hlk e2 N2 Z0 O0 Sg0 Sg1 rGF nzGC Sg7 E_w4 Sg9 Sg11 F_w4_bits F_w5_bits F_w6_bits (by decide) (Fld.ne F_w4_bits F_w3_bits (by decide)))
      show SF p e below T1 (mkF m 17 #[iv p0s, iv p1s, iv 4, iv (p1s &&& (7 : Int32)), rv w4, .unset, .unset] [(.int (p1s &&& (7 : Int32)))]) _
      rw [hc2]
      show SF p e below T1 (mkF m 17 #[iv p0s, iv p1s, iv 4, iv 3, rv w4, .unset, .unset] [(.int 3)]) _
      refine st2 _ ?_
      show SF p e below T2 (mkF m 20 #[iv p0s, iv p1s, iv 4, iv 3, rv w4, .unset, .unset] [(.ref w3)]) _
      refine XS.astore X2.here hx rfl (hb hby at_20) rfl rfl (l' := #[iv p0s, iv p1s, iv 4, iv 3, rv w4, rv w3, .unset]) rfl ?_
      exact k
    · obtain ⟨_, _, ⟨T2, L2, k2x, n2⟩, -, X2, ⟨Lc2, hQ2, l2, y2, z2⟩, st2⟩ := Jvm.LawKit.callS X1 hx (y := (⟨zs7, "of", zs1⟩ : MethodName)) hown (mvT hZ (tw hw 0 rfl)) (mvT hZ (tw hw 1 rfl)) (mvT hZ (tw hw 2 rfl)) (mvT hZ (tw hw 3 rfl)) (by decide) (backOf (W := 0) (rm1_16 l Z a0 hw [] w1 kw1 w2 w6 w5 w3 w4 w8 w7 w9 h0 n0 Z0 Sg4 O0 V_w1) hZ (tw hw 3 rfl) (tw hw 2 rfl) (by decide) (by decide)) (g := (mkF m 17 #[iv p0s, iv p1s, iv 4, iv 4, rv w4, .unset, .unset] [(.int 4)])) rfl (by rw [hml]; rfl) (argsL := [(.int 4)]) (rest := []) (lenOf pd_0 rfl) rfl (Nat.le_of_eq rfl) (hb hby at_17) (fun _ _ => ⟨rfl, e1, (by decide : 0 + 0 ≤ _), (by decide : 0 + 0 ≤ _)⟩)
      dsimp only [Pt.U, Pt.locs, Pt.cells, Pt.slots] at X2 l2 y2 z2 st2 hQ2
      subst l2 y2 z2
      obtain ⟨rfl, N2q, e2⟩ := hQ2
      have N2 := Fr.app N1 N2q
      refine Fine.pre (fun t k => pre0 _ (pre1 _ (pre2 _ (?_)))) (pc_15 X2 hx hZ hw hby hml hown hre hlk e2 N2 Z0 O0 Sg0 Sg1 rGF nzGC Sg7 E_w4 Sg9 Sg11 F_w4_bits F_w5_bits F_w6_bits )
      show SF p e below T1 (mkF m 17 #[iv p0s, iv p1s, iv 4, iv (p1s &&& (7 : Int32)), rv w4, .unset, .unset] [(.int (p1s &&& (7 : Int32)))]) _
      rw [hc2]
      show SF p e below T1 (mkF m 17 #[iv p0s, iv p1s, iv 4, iv 4, rv w4, .unset, .unset] [(.int 4)]) _
      refine st2 _ ?_
      show SF p e below T2 (mkF m 20 #[iv p0s, iv p1s, iv 4, iv 4, rv w4, .unset, .unset] [(.ref w4)]) _
      refine XS.astore X2.here hx rfl (hb hby at_20) rfl rfl (l' := #[iv p0s, iv p1s, iv 4, iv 4, rv w4, rv w4, .unset]) rfl ?_
      exact k
    · obtain ⟨_, _, ⟨T2, L2, k2x, n2⟩, -, X2, ⟨Lc2, hQ2, l2, y2, z2⟩, st2⟩ := Jvm.LawKit.callS X1 hx (y := (⟨zs7, "of", zs1⟩ : MethodName)) hown (mvT hZ (tw hw 0 rfl)) (mvT hZ (tw hw 1 rfl)) (mvT hZ (tw hw 2 rfl)) (mvT hZ (tw hw 3 rfl)) (by decide) (backOf (W := 0) (rm1_17 l Z a0 hw [] w1 kw1 w2 w6 w5 w3 w4 w8 w7 w9 h0 n0 Z0 Sg4 O0 V_w1) hZ (tw hw 3 rfl) (tw hw 2 rfl) (by decide) (by decide)) (g := (mkF m 17 #[iv p0s, iv p1s, iv 4, iv 5, rv w4, .unset, .unset] [(.int 5)])) rfl (by rw [hml]; rfl) (argsL := [(.int 5)]) (rest := []) (lenOf pd_0 rfl) rfl (Nat.le_of_eq rfl) (hb hby at_17) (fun _ _ => ⟨rfl, e1, (by decide : 0 + 0 ≤ _), (by decide : 0 + 0 ≤ _)⟩)
      dsimp only [Pt.U, Pt.locs, Pt.cells, Pt.slots] at X2 l2 y2 z2 st2 hQ2
      subst l2 y2 z2
      obtain ⟨rfl, N2q, e2⟩ := hQ2
      have N2 := Fr.app N1 N2q
      refine Fine.pre (fun t k => pre0 _ (pre1 _ (pre2 _ (?_)))) (pc_13 (dv3 := (5 : Int32)) (dv5 := w8) X2 hx hZ hw hby hml hown hre hlk e2 N2 Z0 O0 Sg0 Sg1 rGF nzGC Sg7 E_w4 Sg9 Sg11 F_w4_bits F_w5_bits F_w6_bits (by decide) (Fld.ne F_w4_bits F_w8_bits (by decide)))
      show SF p e below T1 (mkF m 17 #[iv p0s, iv p1s, iv 4, iv (p1s &&& (7 : Int32)), rv w4, .unset, .unset] [(.int (p1s &&& (7 : Int32)))]) _
      rw [hc2]
      show SF p e below T1 (mkF m 17 #[iv p0s, iv p1s, iv 4, iv 5, rv w4, .unset, .unset] [(.int 5)]) _
      refine st2 _ ?_
      show SF p e below T2 (mkF m 20 #[iv p0s, iv p1s, iv 4, iv 5, rv w4, .unset, .unset] [(.ref w8)]) _
      refine XS.astore X2.here hx rfl (hb hby at_20) rfl rfl (l' := #[iv p0s, iv p1s, iv 4, iv 5, rv w4, rv w8, .unset]) rfl ?_
      exact k
    · obtain ⟨_, _, ⟨T2, L2, k2x, n2⟩, -, X2, ⟨Lc2, hQ2, l2, y2, z2⟩, st2⟩ := Jvm.LawKit.callS X1 hx (y := (⟨zs7, "of", zs1⟩ : MethodName)) hown (mvT hZ (tw hw 0 rfl)) (mvT hZ (tw hw 1 rfl)) (mvT hZ (tw hw 2 rfl)) (mvT hZ (tw hw 3 rfl)) (by decide) (backOf (W := 0) (rm1_18 l Z a0 hw [] w1 kw1 w2 w6 w5 w3 w4 w8 w7 w9 h0 n0 Z0 Sg4 O0 V_w1) hZ (tw hw 3 rfl) (tw hw 2 rfl) (by decide) (by decide)) (g := (mkF m 17 #[iv p0s, iv p1s, iv 4, iv 6, rv w4, .unset, .unset] [(.int 6)])) rfl (by rw [hml]; rfl) (argsL := [(.int 6)]) (rest := []) (lenOf pd_0 rfl) rfl (Nat.le_of_eq rfl) (hb hby at_17) (fun _ _ => ⟨rfl, e1, (by decide : 0 + 0 ≤ _), (by decide : 0 + 0 ≤ _)⟩)
      dsimp only [Pt.U, Pt.locs, Pt.cells, Pt.slots] at X2 l2 y2 z2 st2 hQ2
      subst l2 y2 z2
      obtain ⟨rfl, N2q, e2⟩ := hQ2
      have N2 := Fr.app N1 N2q
      refine Fine.pre (fun t k => pre0 _ (pre1 _ (pre2 _ (?_)))) (pc_13 (dv3 := (6 : Int32)) (dv5 := w7) X2 hx hZ hw hby hml hown hre hlk e2 N2 Z0 O0 Sg0 Sg1 rGF nzGC Sg7 E_w4 Sg9 Sg11 F_w4_bits F_w5_bits F_w6_bits (by decide) (Fld.ne F_w4_bits F_w7_bits (by decide)))
      show SF p e below T1 (mkF m 17 #[iv p0s, iv p1s, iv 4, iv (p1s &&& (7 : Int32)), rv w4, .unset, .unset] [(.int (p1s &&& (7 : Int32)))]) _
      rw [hc2]
      show SF p e below T1 (mkF m 17 #[iv p0s, iv p1s, iv 4, iv 6, rv w4, .unset, .unset] [(.int 6)]) _
      refine st2 _ ?_
      show SF p e below T2 (mkF m 20 #[iv p0s, iv p1s, iv 4, iv 6, rv w4, .unset, .unset] [(.ref w7)]) _
      refine XS.astore X2.here hx rfl (hb hby at_20) rfl rfl (l' := #[iv p0s, iv p1s, iv 4, iv 6, rv w4, rv w7, .unset]) rfl ?_
      exact k
    · obtain ⟨_, _, ⟨T2, L2, k2x, n2⟩, -, X2, ⟨Lc2, hQ2, l2, y2, z2⟩, st2⟩ := Jvm.LawKit.callS X1 hx (y := (⟨zs7, "of", zs1⟩ : MethodName)) hown (mvT hZ (tw hw 0 rfl)) (mvT hZ (tw hw 1 rfl)) (mvT hZ (tw hw 2 rfl)) (mvT hZ (tw hw 3 rfl)) (by decide) (backOf (W := 0) (rm1_19 l Z a0 hw [] w1 kw1 w2 w6 w5 w3 w4 w8 w7 w9 h0 n0 Z0 Sg4 O0 V_w1) hZ (tw hw 3 rfl) (tw hw 2 rfl) (by decide) (by decide)) (g := (mkF m 17 #[iv p0s, iv p1s, iv 4, iv 7, rv w4, .unset, .unset] [(.int 7)])) rfl (by rw [hml]; rfl) (argsL := [(.int 7)]) (rest := []) (lenOf pd_0 rfl) rfl (Nat.le_of_eq rfl) (hb hby at_17) (fun _ _ => ⟨rfl, e1, (by decide : 0 + 0 ≤ _), (by decide : 0 + 0 ≤ _)⟩)
      dsimp only [Pt.U, Pt.locs, Pt.cells, Pt.slots] at X2 l2 y2 z2 st2 hQ2
      subst l2 y2 z2
      obtain ⟨rfl, N2q, e2⟩ := hQ2
      have N2 := Fr.app N1 N2q
      refine Fine.pre (fun t k => pre0 _ (pre1 _ (pre2 _ (?_)))) (pc_13 (dv3 := (7 : Int32)) (dv5 := w9) X2 hx hZ hw hby hml hown hre hlk e2 N2 Z0 O0 Sg0 Sg1 rGF nzGC Sg7 E_w4 Sg9 Sg11 F_w4_bits F_w5_bits F_w6_bits (by decide) (Fld.ne F_w4_bits F_w9_bits (by decide)))
      show SF p e below T1 (mkF m 17 #[iv p0s, iv p1s, iv 4, iv (p1s &&& (7 : Int32)), rv w4, .unset, .unset] [(.int (p1s &&& (7 : Int32)))]) _
      rw [hc2]
      show SF p e below T1 (mkF m 17 #[iv p0s, iv p1s, iv 4, iv 7, rv w4, .unset, .unset] [(.int 7)]) _
      refine st2 _ ?_
      show SF p e below T2 (mkF m 20 #[iv p0s, iv p1s, iv 4, iv 7, rv w4, .unset, .unset] [(.ref w9)]) _
      refine XS.astore X2.here hx rfl (hb hby at_20) rfl rfl (l' := #[iv p0s, iv p1s, iv 4, iv 7, rv w4, rv w9, .unset]) rfl ?_
      exact k
  · obtain ⟨_, _, ⟨T1, L1, k1x, n1⟩, -, X1, ⟨Lc1, hQ1, l1, y1, z1⟩, st1⟩ := Jvm.LawKit.callS X0 hx (y := (⟨zs7, "of", zs1⟩ : MethodName)) hown (mvT hZ (tw hw 0 rfl)) (mvT hZ (tw hw 1 rfl)) (mvT hZ (tw hw 2 rfl)) (mvT hZ (tw hw 3 rfl)) (by decide) (backOf (W := 0) (rm1_17 l Z a0 hw [] w1 kw1 w2 w6 w5 w3 w4 w8 w7 w9 h0 n0 Z0 Sg4 O0 V_w1) hZ (tw hw 3 rfl) (tw hw 2 rfl) (by decide) (by decide)) (g := (mkF m 11 #[iv p0s, iv p1s, iv 5, iv (p1s &&& (7 : Int32)), .unset, .unset, .unset] [(.int 5)])) rfl (by rw [hml]; rfl) (argsL := [(.int 5)]) (rest := []) (lenOf pd_0 rfl) rfl (Nat.le_of_eq rfl) (hb hby at_11) (fun _ _ => ⟨rfl, e0, (by decide : 0 + 0 ≤ _), (by decide : 0 + 0 ≤ _)⟩)
    dsimp only [Pt.U, Pt.locs, Pt.cells, Pt.slots] at X1 l1 y1 z1 st1 hQ1
    subst l1 y1 z1
    obtain ⟨rfl, N1q, e1⟩ := hQ1
    have N1 := Fr.app N0 N1q
    have pre2 : ∀ t, SF p e below T1 (mkF m 17 #[iv p0s, iv p1s, iv 5, iv (p1s &&& (7 : Int32)), rv w8, .unset, .unset] [(.int (p1s &&& (7 : Int32)))]) t → SF p e below s₁ (mkF m 4 #[iv p0s, iv p1s, .unset, .unset, .unset, .unset, .unset] [(.int (p0s &&& (7 : Int32)))]) t := fun t k => by
      show SF p e below s₁ (mkF m 4 #[iv p0s, iv p1s, .unset, .unset, .unset, .unset, .unset] [(.int (p0s &&& (7 : Int32)))]) _
      rw [hc1]
      show SF p e below s₁ (mkF m 4 #[iv p0s, iv p1s, .unset, .unset, .unset, .unset, .unset] [(.int 5)]) _
      refine XS.istoreN X0.here hx rfl (hb hby at_4) rfl (l' := #[iv p0s, iv p1s, iv 5, .unset, .unset, .unset, .unset]) rfl ?_
      refine XS.iloadN X0.here hx rfl (hb hby at_5) rfl ?_
      show SF p e below s₁ (mkF m 6 #[iv p0s, iv p1s, iv 5, .unset, .unset, .unset, .unset] [(.int p1s)]) _
      refine XS.bipush X0.here hx rfl (hb hby at_6) ?_
      show SF p e below s₁ (mkF m 8 #[iv p0s, iv p1s, iv 5, .unset, .unset, .unset, .unset] [(.int 7), (.int p1s)]) _
      refine XS.iand X0.here hx rfl (hb hby at_8) rfl ?_
      show SF p e below s₁ (mkF m 9 #[iv p0s, iv p1s, iv 5, .unset, .unset, .unset, .unset] [(.int (p1s &&& (7 : Int32)))]) _
      refine XS.istoreN X0.here hx rfl (hb hby at_9) rfl (l' := #[iv p0s, iv p1s, iv 5, iv (p1s &&& (7 : Int32)), .unset, .unset, .unset]) rfl ?_
      refine XS.iloadN X0.here hx rfl (hb hby at_10) rfl ?_
      show SF p e below s₁ (mkF m 11 #[iv p0s, iv p1s, iv 5, iv (p1s &&& (7 : Int32)), .unset, .unset, .unset] [(.int 5)]) _
      refine st1 _ ?_
      show SF p e below T1 (mkF m 14 #[iv p0s, iv p1s, iv 5, iv (p1s &&& (7 : Int32)), .unset, .unset, .unset] [(.ref w8)]) _
      refine XS.astore X1.here hx rfl (hb hby at_14) rfl rfl (l' := #[iv p0s, iv p1s, iv 5, iv (p1s &&& (7 : Int32)), rv w8, .unset, .unset]) rfl ?_
      refine XS.iloadN X1.here hx rfl (hb hby at_16) rfl ?_
      exact k
    rcases own_and7 p1s with hc2 | hc2 | hc2 | hc2 | hc2 | hc2 | hc2 | hc2
    · obtain ⟨_, _, ⟨T2, L2, k2x, n2⟩, -, X2, ⟨Lc2, hQ2, l2, y2, z2⟩, st2⟩ := Jvm.LawKit.callS X1 hx (y := (⟨zs7, "of", zs1⟩ : MethodName)) hown (mvT hZ (tw hw 0 rfl)) (mvT hZ (tw hw 1 rfl)) (mvT hZ (tw hw 2 rfl)) (mvT hZ (tw hw 3 rfl)) (by decide) (backOf (W := 0) (rm1_1 l Z a0 hw [] w1 kw1 w2 w6 w5 w3 w4 w8 w7 w9 h0 n0 Z0 Sg4 O0 V_w1) hZ (tw hw 3 rfl) (tw hw 2 rfl) (by decide) (by decide)) (g := (mkF m 17 #[iv p0s, iv p1s, iv 5, iv 0, rv w8, .unset, .unset] [(.int 0)])) rfl (by rw [hml]; rfl) (argsL := [(.int 0)]) (rest := []) (lenOf pd_0 rfl) rfl (Nat.le_of_eq rfl) (hb hby at_17) (fun _ _ => ⟨rfl, e1, (by decide : 0 + 0 ≤ _), (by decide : 0 + 0 ≤ _)⟩)
      dsimp only [Pt.U, Pt.locs, Pt.cells, Pt.slots] at X2 l2 y2 z2 st2 hQ2
      subst l2 y2 z2
      obtain ⟨rfl, N2q, e2⟩ := hQ2
      have N2 := Fr.app N1 N2q
      refine Fine.pre (fun t k => pre0 _ (pre1 _ (pre2 _ (?_)))) (pc_16 (dv3 := (0 : Int32)) (dv5 := w2) X2 hx hZ hw hby hml hown hre hlk e2 N2 Z0 O0 Sg0 Sg1 rGF nzGC Sg7 Sg9 Sg11 E_w8 F_w4_bits F_w5_bits F_w6_bits F_w8_bits (by decide) (Fld.ne F_w8_bits F_w2_bits (by decide)))
      show SF p e below T1 (mkF m 17 #[iv p0s, iv p1s, iv 5, iv (p1s &&& (7 : Int32)), rv w8, .unset, .unset] [(.int (p1s &&& (7 : Int32)))]) _
      rw [hc2]
      show SF p e below T1 (mkF m 17 #[iv p0s, iv p1s, iv 5, iv 0, rv w8, .unset, .unset] [(.int 0)]) _
      refine st2 _ ?_
      show SF p e below T2 (mkF m 20 #[iv p0s, iv p1s, iv 5, iv 0, rv w8, .unset, .unset] [(.ref w2)]) _
      refine XS.astore X2.here hx rfl (hb hby at_20) rfl rfl (l' := #[iv p0s, iv p1s, iv 5, iv 0, rv w8, rv w2, .unset]) rfl ?_
      exact k
    · obtain ⟨_, _, ⟨T2, L2, k2x, n2⟩, -, X2, ⟨Lc2, hQ2, l2, y2, z2⟩, st2⟩ := Jvm.LawKit.callS X1 hx (y := (⟨zs7, "of", zs1⟩ : MethodName)) hown (mvT hZ (tw hw 0 rfl)) (mvT hZ (tw hw 1 rfl)) (mvT hZ (tw hw 2 rfl)) (mvT hZ (tw hw 3 rfl)) (by decide) (backOf (W := 0) (rm1_13 l Z a0 hw [] w1 kw1 w2 w6 w5 w3 w4 w8 w7 w9 h0 n0 Z0 Sg4 O0 V_w1) hZ (tw hw 3 rfl) (tw hw 2 rfl) (by decide) (by decide)) (g := (mkF m 17 #[iv p0s, iv p1s, iv 5, iv 1, rv w8, .unset, .unset] [(.int 1)])) rfl (by rw [hml]; rfl) (argsL := [(.int 1)]) (rest := []) (lenOf pd_0 rfl) rfl (Nat.le_of_eq rfl) (hb hby at_17) (fun _ _ => ⟨rfl, e1, (by decide : 0 + 0 ≤ _), (by decide : 0 + 0 ≤ _)⟩)
      dsimp only [Pt.U, Pt.locs, Pt.cells, Pt.slots] at X2 l2 y2 z2 st2 hQ2
      subst l2 y2 z2
      obtain ⟨rfl, N2q, e2⟩ := hQ2
      have N2 := Fr.app N1 N2q
      refine Fine.pre (fun t k => pre0 _ (pre1 _ (pre2 _ (?_)))) (pc_16 (dv3 := (1 : Int32)) (dv5 := w6) X2 hx hZ hw hby hml hown hre hlk e2 N2 Z0 O0 Sg0 Sg1 rGF nzGC Sg7 Sg9 Sg11 E_w8 F_w4_bits F_w5_bits F_w6_bits F_w8_bits (by decide) (Fld.ne F_w8_bits F_w6_bits (by decide)))
      show SF p e below T1 (mkF m 17 #[iv p0s, iv p1s, iv 5, iv (p1s &&& (7 : Int32)), rv w8, .unset, .unset] [(.int (p1s &&& (7 : Int32)))]) _
      rw [hc2]
      show SF p e below T1 (mkF m 17 #[iv p0s, iv p1s, iv 5, iv 1, rv w8, .unset, .unset] [(.int 1)]) _
      refine st2 _ ?_
      show SF p e below T2 (mkF m 20 #[iv p0s, iv p1s, iv 5, iv 1, rv w8, .unset, .unset] [(.ref w6)]) _
      refine XS.astore X2.here hx rfl (hb hby at_20) rfl rfl (l' := #[iv p0s, iv p1s, iv 5, iv 1, rv w8, rv w6, .unset]) rfl ?_
      exact k
    · obtain ⟨_, _, ⟨T2, L2, k2x, n2⟩, -, X2, ⟨Lc2, hQ2, l2, y2, z2⟩, st2⟩ := Jvm.LawKit.callS X1 hx (y := (⟨zs7, "of", zs1⟩ : MethodName)) hown (mvT hZ (tw hw 0 rfl)) (mvT hZ (tw hw 1 rfl)) (mvT hZ (tw hw 2 rfl)) (mvT hZ (tw hw 3 rfl)) (by decide) (backOf (W := 0) (rm1_14 l Z a0 hw [] w1 kw1 w2 w6 w5 w3 w4 w8 w7 w9 h0 n0 Z0 Sg4 O0 V_w1) hZ (tw hw 3 rfl) (tw hw 2 rfl) (by decide) (by decide)) (g := (mkF m 17 #[iv p0s, iv p1s, iv 5, iv 2, rv w8, .unset, .unset] [(.int 2)])) rfl (by rw [hml]; rfl) (argsL := [(.int 2)]) (rest := []) (lenOf pd_0 rfl) rfl (Nat.le_of_eq rfl) (hb hby at_17) (fun _ _ => ⟨rfl, e1, (by decide : 0 + 0 ≤ _), (by decide : 0 + 0 ≤ _)⟩)
      dsimp only [Pt.U, Pt.locs, Pt.cells, Pt.slots] at X2 l2 y2 z2 st2 hQ2
      subst l2 y2 z2
      obtain ⟨rfl, N2q, e2⟩ := hQ2
      have N2 := Fr.app N1 N2q
      refine Fine.pre (fun t k => pre0 _ (pre1 _ (pre2 _ (?_)))) (pc_16 (dv3 := (2 : Int32)) (dv5 := w5) X2 hx hZ hw hby hml hown hre hlk e2 N2 Z0 O0 Sg0 Sg1 rGF nzGC Sg7 Sg9 Sg11 E_w8 F_w4_bits F_w5_bits F_w6_bits F_w8_bits (by decide) (Fld.ne F_w8_bits F_w5_bits (by decide)))
      show SF p e below T1 (mkF m 17 #[iv p0s, iv p1s, iv 5, iv (p1s &&& (7 : Int32)), rv w8, .unset, .unset] [(.int (p1s &&& (7 : Int32)))]) _
      rw [hc2]
      show SF p e below T1 (mkF m 17 #[iv p0s, iv p1s, iv 5, iv 2, rv w8, .unset, .unset] [(.int 2)]) _
      refine st2 _ ?_
      show SF p e below T2 (mkF m 20 #[iv p0s, iv p1s, iv 5, iv 2, rv w8, .unset, .unset] [(.ref w5)]) _
      refine XS.astore X2.here hx rfl (hb hby at_20) rfl rfl (l' := #[iv p0s, iv p1s, iv 5, iv 2, rv w8, rv w5, .unset]) rfl ?_
      exact k
    · obtain ⟨_, _, ⟨T2, L2, k2x, n2⟩, -, X2, ⟨Lc2, hQ2, l2, y2, z2⟩, st2⟩ := Jvm.LawKit.callS X1 hx (y := (⟨zs7, "of", zs1⟩ : MethodName)) hown (mvT hZ (tw hw 0 rfl)) (mvT hZ (tw hw 1 rfl)) (mvT hZ (tw hw 2 rfl)) (mvT hZ (tw hw 3 rfl)) (by decide) (backOf (W := 0) (rm1_15 l Z a0 hw [] w1 kw1 w2 w6 w5 w3 w4 w8 w7 w9 h0 n0 Z0 Sg4 O0 V_w1) hZ (tw hw 3 rfl) (tw hw 2 rfl) (by decide) (by decide)) (g := (mkF m 17 #[iv p0s, iv p1s, iv 5, iv 3, rv w8, .unset, .unset] [(.int 3)])) rfl (by rw [hml]; rfl) (argsL := [(.int 3)]) (rest := []) (lenOf pd_0 rfl) rfl (Nat.le_of_eq rfl) (hb hby at_17) (fun _ _ => ⟨rfl, e1, (by decide : 0 + 0 ≤ _), (by decide : 0 + 0 ≤ _)⟩)
      dsimp only [Pt.U, Pt.locs, Pt.cells, Pt.slots] at X2 l2 y2 z2 st2 hQ2
      subst l2 y2 z2
      obtain ⟨rfl, N2q, e2⟩ := hQ2
      have N2 := Fr.app N1 N2q
      refine Fine.pre (fun t k => pre0 _ (pre1 _ (pre2 _ (?_)))) (pc_16 (dv3 := (3 : Int32)) (dv5 := w3) X2 hx hZ hw hby hml hown hre hlk e2 N2 Z0 O0 Sg0 Sg1 rGF nzGC Sg7 Sg9 Sg11 E_w8 F_w4_bits F_w5_bits F_w6_bits F_w8_bits (by decide) (Fld.ne F_w8_bits F_w3_bits (by decide)))
      show SF p e below T1 (mkF m 17 #[iv p0s, iv p1s, iv 5, iv (p1s &&& (7 : Int32)), rv w8, .unset, .unset] [(.int (p1s &&& (7 : Int32)))]) _
      rw [hc2]
      show SF p e below T1 (mkF m 17 #[iv p0s, iv p1s, iv 5, iv 3, rv w8, .unset, .unset] [(.int 3)]) _
      refine st2 _ ?_
      show SF p e below T2 (mkF m 20 #[iv p0s, iv p1s, iv 5, iv 3, rv w8, .unset, .unset] [(.ref w3)]) _
      refine XS.astore X2.here hx rfl (hb hby at_20) rfl rfl (l' := #[iv p0s, iv p1s, iv 5, iv 3, rv w8, rv w3, .unset]) rfl ?_
      exact k
    · obtain ⟨_, _, ⟨T2, L2, k2x, n2⟩, -, X2, ⟨Lc2, hQ2, l2, y2, z2⟩, st2⟩ := Jvm.LawKit.callS X1 hx (y := (⟨zs7, "of", zs1⟩ : MethodName)) hown (mvT hZ (tw hw 0 rfl)) (mvT hZ (tw hw 1 rfl)) (mvT hZ (tw hw 2 rfl)) (mvT hZ (tw hw 3 rfl)) (by decide) (backOf (W := 0) (rm1_16 l Z a0 hw [] w1 kw1 w2 w6 w5 w3 w4 w8 w7 w9 h0 n0 Z0 Sg4 O0 V_w1) hZ (tw hw 3 rfl) (tw hw 2 rfl) (by decide) (by decide)) (g := (mkF m 17 #[iv p0s, iv p1s, iv 5, iv 4, rv w8, .unset, .unset] [(.int 4)])) rfl (by rw [hml]; rfl) (argsL := [(.int 4)]) (rest := []) (lenOf pd_0 rfl) rfl (Nat.le_of_eq rfl) (hb hby at_17) (fun _ _ => ⟨rfl, e1, (by decide : 0 + 0 ≤ _), (by decide : 0 + 0 ≤ _)⟩)
      dsimp only [Pt.U, Pt.locs, Pt.cells, Pt.slots] at X2 l2 y2 z2 st2 hQ2
      subst l2 y2 z2
      obtain ⟨rfl, N2q, e2⟩ := hQ2
      have N2 := Fr.app N1 N2q
      refine Fine.pre (fun t k => pre0 _ (pre1 _ (pre2 _ (?_)))) (pc_16 (dv3 := (4 : Int32)) (dv5 := w4) X2 hx hZ hw hby hml hown hre hlk e2 N2 Z0 O0 Sg0 Sg1 rGF nzGC Sg7 Sg9 Sg11 E_w8 F_w4_bits F_w5_bits F_w6_bits F_w8_bits (by decide) (Fld.ne F_w8_bits F_w4_bits (by decide)))
      show SF p e below T1 (mkF m 17 #[iv p0s, iv p1s, iv 5, iv (p1s &&& (7 : Int32)), rv w8, .unset, .unset] [(.int (p1s &&& (7 : Int32)))]) _
      rw [hc2]
      show SF p e below T1 (mkF m 17 #[iv p0s, iv p1s, iv 5, iv 4, rv w8, .unset, .unset] [(.int 4)]) _
      refine st2 _ ?_
      show SF p e below T2 (mkF m 20 #[iv p0s, iv p1s, iv 5, iv 4, rv w8, .unset, .unset] [(.ref w4)]) _
      refine XS.astore X2.here hx rfl (hb hby at_20) rfl rfl (l' := #[iv p0s, iv p1s, iv 5, iv 4, rv w8, rv w4, .unset]) rfl ?_
      exact k
    · obtain ⟨_, _, ⟨T2, L2, k2x, n2⟩, -, X2, ⟨Lc2, hQ2, l2, y2, z2⟩, st2⟩ := Jvm.LawKit.callS X1 hx (y := (⟨zs7, "of", zs1⟩ : MethodName)) hown (mvT hZ (tw hw 0 rfl)) (mvT hZ (tw hw 1 rfl)) (mvT hZ (tw hw 2 rfl)) (mvT hZ (tw hw 3 rfl)) (by decide) (backOf (W := 0) (rm1_17 l Z a0 hw [] w1 kw1 w2 w6 w5 w3 w4 w8 w7 w9 h0 n0 Z0 Sg4 O0 V_w1) hZ (tw hw 3 rfl) (tw hw 2 rfl) (by decide) (by decide)) (g := (mkF m 17 #[iv p0s, iv p1s, iv 5, iv 5, rv w8, .unset, .unset] [(.int 5)])) rfl (by rw [hml]; rfl) (argsL := [(.int 5)]) (rest := []) (lenOf pd_0 rfl) rfl (Nat.le_of_eq rfl) (hb hby at_17) (fun _ _ => ⟨rfl, e1, (by decide : 0 + 0 ≤ _), (by decide : 0 + 0 ≤ _)⟩)
      dsimp only [Pt.U, Pt.locs, Pt.cells, Pt.slots] at X2 l2 y2 z2 st2 hQ2
      subst l2 y2 z2
      obtain ⟨rfl, N2q, e2⟩ := hQ2
      have N2 := Fr.app N1 N2q
      refine Fine.pre (fun t k => pre0 _ (pre1 _ (pre2 _ (?_)))) (pc_18 X2 hx hZ hw hby hml hown hre hlk e2 N2 Z0 O0 Sg0 Sg1 rGF nzGC Sg7 Sg9 Sg11 E_w8 F_w4_bits F_w5_bits F_w6_bits F_w8_bits )
      show SF p e below T1 (mkF m 17 #[iv p0s, iv p1s, iv 5, iv (p1s &&& (7 : Int32)), rv w8, .unset, .unset] [(.int (p1s &&& (7 : Int32)))]) _
      rw [hc2]
      show SF p e below T1 (mkF m 17 #[iv p0s, iv p1s, iv 5, iv 5, rv w8, .unset, .unset] [(.int 5)]) _
      refine st2 _ ?_
      show SF p e below T2 (mkF m 20 #[iv p0s, iv p1s, iv 5, iv 5, rv w8, .unset, .unset] [(.ref w8)]) _
      refine XS.astore X2.here hx rfl (hb hby at_20) rfl rfl (l' := #[iv p0s, iv p1s, iv 5, iv 5, rv w8, rv w8, .unset]) rfl ?_
      exact k
    · obtain ⟨_, _, ⟨T2, L2, k2x, n2⟩, -, X2, ⟨Lc2, hQ2, l2, y2, z2⟩, st2⟩ := Jvm.LawKit.callS X1 hx (y := (⟨zs7, "of", zs1⟩ : MethodName)) hown (mvT hZ (tw hw 0 rfl)) (mvT hZ (tw hw 1 rfl)) (mvT hZ (tw hw 2 rfl)) (mvT hZ (tw hw 3 rfl)) (by decide) (backOf (W := 0) (rm1_18 l Z a0 hw [] w1 kw1 w2 w6 w5 w3 w4 w8 w7 w9 h0 n0 Z0 Sg4 O0 V_w1) hZ (tw hw 3 rfl) (tw hw 2 rfl) (by decide) (by decide)) (g := (mkF m 17 #[iv p0s, iv p1s, iv 5, iv 6, rv w8, .unset, .unset] [(.int 6)])) rfl (by rw [hml]; rfl) (argsL := [(.int 6)]) (rest := []) (lenOf pd_0 rfl) rfl (Nat.le_of_eq rfl) (hb hby at_17) (fun _ _ => ⟨rfl, e1, (by decide : 0 + 0 ≤ _), (by decide : 0 + 0 ≤ _)⟩)
      dsimp only [Pt.U, Pt.locs, Pt.cells, Pt.slots] at X2 l2 y2 z2 st2 hQ2
      subst l2 y2 z2
      obtain ⟨rfl, N2q, e2⟩ := hQ2
      have N2 := Fr.app N1 N2q
      refine Fine.pre (fun t k => pre0 _ (pre1 _ (pre2 _ (?_)))) (pc_16 (dv3 := (6 : Int32)) (dv5 := w7) X2 hx hZ hw hby hml hown hre hlk e2 N2 Z0 O0 Sg0 Sg1 rGF nzGC Sg7 Sg9 Sg11 E_w8 F_w4_bits F_w5_bits F_w6_bits F_w8_bits (by decide) (Fld.ne F_w8_bits F_w7_bits (by decide)))
      show SF p e below T1 (mkF m 17 #[iv p0s, iv p1s, iv 5, iv (p1s &&& (7 : Int32)), rv w8, .unset, .unset] [(.int (p1s &&& (7 : Int32)))]) _
      rw [hc2]
      show SF p e below T1 (mkF m 17 #[iv p0s, iv p1s, iv 5, iv 6, rv w8, .unset, .unset] [(.int 6)]) _
      refine st2 _ ?_
      show SF p e below T2 (mkF m 20 #[iv p0s, iv p1s, iv 5, iv 6, rv w8, .unset, .unset] [(.ref w7)]) _
      refine XS.astore X2.here hx rfl (hb hby at_20) rfl rfl (l' := #[iv p0s, iv p1s, iv 5, iv 6, rv w8, rv w7, .unset]) rfl ?_
      exact k
    · obtain ⟨_, _, ⟨T2, L2, k2x, n2⟩, -, X2, ⟨Lc2, hQ2, l2, y2, z2⟩, st2⟩ := Jvm.LawKit.callS X1 hx (y := (⟨zs7, "of", zs1⟩ : MethodName)) hown (mvT hZ (tw hw 0 rfl)) (mvT hZ (tw hw 1 rfl)) (mvT hZ (tw hw 2 rfl)) (mvT hZ (tw hw 3 rfl)) (by decide) (backOf (W := 0) (rm1_19 l Z a0 hw [] w1 kw1 w2 w6 w5 w3 w4 w8 w7 w9 h0 n0 Z0 Sg4 O0 V_w1) hZ (tw hw 3 rfl) (tw hw 2 rfl) (by decide) (by decide)) (g := (mkF m 17 #[iv p0s, iv p1s, iv 5, iv 7, rv w8, .unset, .unset] [(.int 7)])) rfl (by rw [hml]; rfl) (argsL := [(.int 7)]) (rest := []) (lenOf pd_0 rfl) rfl (Nat.le_of_eq rfl) (hb hby at_17) (fun _ _ => ⟨rfl, e1, (by decide : 0 + 0 ≤ _), (by decide : 0 + 0 ≤ _)⟩)
      dsimp only [Pt.U, Pt.locs, Pt.cells, Pt.slots] at X2 l2 y2 z2 st2 hQ2
      subst l2 y2 z2
      obtain ⟨rfl, N2q, e2⟩ := hQ2
      have N2 := Fr.app N1 N2q
      refine Fine.pre (fun t k => pre0 _ (pre1 _ (pre2 _ (?_)))) (pc_16 (dv3 := (7 : Int32)) (dv5 := w9) X2 hx hZ hw hby hml hown hre hlk e2 N2 Z0 O0 Sg0 Sg1 rGF nzGC Sg7 Sg9 Sg11 E_w8 F_w4_bits F_w5_bits F_w6_bits F_w8_bits (by decide) (Fld.ne F_w8_bits F_w9_bits (by decide)))
      show SF p e below T1 (mkF m 17 #[iv p0s, iv p1s, iv 5, iv (p1s &&& (7 : Int32)), rv w8, .unset, .unset] [(.int (p1s &&& (7 : Int32)))]) _
      rw [hc2]
      show SF p e below T1 (mkF m 17 #[iv p0s, iv p1s, iv 5, iv 7, rv w8, .unset, .unset] [(.int 7)]) _
      refine st2 _ ?_
      show SF p e below T2 (mkF m 20 #[iv p0s, iv p1s, iv 5, iv 7, rv w8, .unset, .unset] [(.ref w9)]) _
      refine XS.astore X2.here hx rfl (hb hby at_20) rfl rfl (l' := #[iv p0s, iv p1s, iv 5, iv 7, rv w8, rv w9, .unset]) rfl ?_
      exact k
  · obtain ⟨_, _, ⟨T1, L1, k1x, n1⟩, -, X1, ⟨Lc1, hQ1, l1, y1, z1⟩, st1⟩ := Jvm.LawKit.callS X0 hx (y := (⟨zs7, "of", zs1⟩ : MethodName)) hown (mvT hZ (tw hw 0 rfl)) (mvT hZ (tw hw 1 rfl)) (mvT hZ (tw hw 2 rfl)) (mvT hZ (tw hw 3 rfl)) (by decide) (backOf (W := 0) (rm1_18 l Z a0 hw [] w1 kw1 w2 w6 w5 w3 w4 w8 w7 w9 h0 n0 Z0 Sg4 O0 V_w1) hZ (tw hw 3 rfl) (tw hw 2 rfl) (by decide) (by decide)) (g := (mkF m 11 #[iv p0s, iv p1s, iv 6, iv (p1s &&& (7 : Int32)), .unset, .unset, .unset] [(.int 6)])) rfl (by rw [hml]; rfl) (argsL := [(.int 6)]) (rest := []) (lenOf pd_0 rfl) rfl (Nat.le_of_eq rfl) (hb hby at_11) (fun _ _ => ⟨rfl, e0, (by decide : 0 + 0 ≤ _), (by decide : 0 + 0 ≤ _)⟩)
    dsimp only [Pt.U, Pt.locs, Pt.cells, Pt.slots] at X1 l1 y1 z1 st1 hQ1
    subst l1 y1 z1
    obtain ⟨rfl, N1q, e1⟩ := hQ1
    have N1 := Fr.app N0 N1q
    have pre2 : ∀ t, SF p e below T1 (mkF m 17 #[iv p0s, iv p1s, iv 6, iv (p1s &&& (7 : Int32)), rv w7, .unset, .unset] [(.int (p1s &&& (7 : Int32)))]) t → SF p e below s₁ (mkF m 4 #[iv p0s, iv p1s, .unset, .unset, .unset, .unset, .unset] [(.int (p0s &&& (7 : Int32)))]) t := fun t k => by
      show SF p e below s₁ (mkF m 4 #[iv p0s, iv p1s, .unset, .unset, .unset, .unset, .unset] [(.int (p0s &&& (7 : Int32)))]) _
      rw [hc1]
      show SF p e below s₁ (mkF m 4 #[iv p0s, iv p1s, .unset, .unset, .unset, .unset, .unset] [(.int 6)]) _
      refine XS.istoreN X0.here hx rfl (hb hby at_4) rfl (l' := #[iv p0s, iv p1s, iv 6, .unset, .unset, .unset, .unset]) rfl ?_
      refine XS.iloadN X0.here hx rfl (hb hby at_5) rfl ?_
      show SF p e below s₁ (mkF m 6 #[iv p0s, iv p1s, iv 6, .unset, .unset, .unset, .unset] [(.int p1s)]) _
      refine XS.bipush X0.here hx rfl (hb hby at_6) ?_
      show SF p e below s₁ (mkF m 8 #[iv p0s, iv p1s, iv 6, .unset, .unset, .unset, .unset] [(.int 7), (.int p1s)]) _
      refine XS.iand X0.here hx rfl (hb hby at_8) rfl ?_
      show SF p e below s₁ (mkF m 9 #[iv p0s, iv p1s, iv 6, .unset, .unset, .unset, .unset] [(.int (p1s &&& (7 : Int32)))]) _
      refine XS.istoreN X0.here hx rfl (hb hby at_9) rfl (l' := #[iv p0s, iv p1s, iv 6, iv (p1s &&& (7 : Int32)), .unset, .unset, .unset]) rfl ?_
      refine XS.iloadN X0.here hx rfl (hb hby at_10) rfl ?_
      show SF p e below s₁ (mkF m 11 #[iv p0s, iv p1s, iv 6, iv (p1s &&& (7 : Int32)), .unset, .unset, .unset] [(.int 6)]) _
      refine st1 _ ?_
      show SF p e below T1 (mkF m 14 #[iv p0s, iv p1s, iv 6, iv (p1s &&& (7 : Int32)), .unset, .unset, .unset] [(.ref w7)]) _
      refine XS.astore X1.here hx rfl (hb hby at_14) rfl rfl (l' := #[iv p0s, iv p1s, iv 6, iv (p1s &&& (7 : Int32)), rv w7, .unset, .unset]) rfl ?_
      refine XS.iloadN X1.here hx rfl (hb hby at_16) rfl ?_
      exact k
    rcases own_and7 p1s with hc2 | hc2 | hc2 | hc2 | hc2 | hc2 | hc2 | hc2
    · obtain ⟨_, _, ⟨T2, L2, k2x, n2⟩, -, X2, ⟨Lc2, hQ2, l2, y2, z2⟩, st2⟩ := Jvm.LawKit.callS X1 hx (y := (⟨zs7, "of", zs1⟩ : MethodName)) hown (mvT hZ (tw hw 0 rfl)) (mvT hZ (tw hw 1 rfl)) (mvT hZ (tw hw 2 rfl)) (mvT hZ (tw hw 3 rfl)) (by decide) (backOf (W := 0) (rm1_1 l Z a0 hw [] w1 kw1 w2 w6 w5 w3 w4 w8 w7 w9 h0 n0 Z0 Sg4 O0 V_w1) hZ (tw hw 3 rfl) (tw hw 2 rfl) (by decide) (by decide)) (g := (mkF m 17 #[iv p0s, iv p1s, iv 6, iv 0, rv w7, .unset, .unset] [(.int 0)])) rfl (by rw [hml]; rfl) (argsL := [(.int 0)]) (rest := []) (lenOf pd_0 rfl) rfl (Nat.le_of_eq rfl) (hb hby at_17) (fun _ _ => ⟨rfl, e1, (by decide : 0 + 0 ≤ _), (by decide : 0 + 0 ≤ _)⟩)
      dsimp only [Pt.U, Pt.locs, Pt.cells, Pt.slots] at X2 l2 y2 z2 st2 hQ2
      subst l2 y2 z2
      obtain ⟨rfl, N2q, e2⟩ := hQ2
      have N2 := Fr.app N1 N2q
      refine Fine.pre (fun t k => pre0 _ (pre1 _ (pre2 _ (?_)))) (pc_19 (dv3 := (0 : Int32)) (dv5 := w2) X2 hx hZ hw hby hml hown hre hlk e2 N2 Z0 O0 Sg0 Sg1 rGF nzGC Sg7 Sg9 Sg11 E_w7 F_w4_bits F_w5_bits F_w6_bits F_w7_bits (by decide) (Fld.ne F_w7_bits F_w2_bits (by decide)))
      show SF p e below T1 (mkF m 17 #[iv p0s, iv p1s, iv 6, iv (p1s &&& (7 : Int32)), rv w7, .unset, .unset] [(.int (p1s &&& (7 : Int32)))]) _
      rw [hc2]
      show SF p e below T1 (mkF m 17 #[iv p0s, iv p1s, iv 6, iv 0, rv w7, .unset, .unset] [(.int 0)]) _
      refine st2 _ ?_
      show SF p e below T2 (mkF m 20 #[iv p0s, iv p1s, iv 6, iv 0, rv w7, .unset, .unset] [(.ref w2)]) _
      refine XS.astore X2.here hx rfl (hb hby at_20) rfl rfl (l' := #[iv p0s, iv p1s, iv 6, iv 0, rv w7, rv w2, .unset]) rfl ?_
      exact k
    · obtain ⟨_, _, ⟨T2, L2, k2x, n2⟩, -, X2, ⟨Lc2, hQ2, l2, y2, z2⟩, st2⟩ := Jvm.LawKit.callS X1 hx (y := (⟨zs7, "of", zs1⟩ : MethodName)) hown (mvT hZ (tw hw 0 rfl)) (mvT hZ (tw hw 1 rfl)) (mvT hZ (tw hw 2 rfl)) (mvT hZ (tw hw 3 rfl)) (by decide) (backOf (W := 0) (rm1_13 l Z a0 hw [] w1 kw1 w2 w6 w5 w3 w4 w8 w7 w9 h0 n0 Z0 Sg4 O0 V_w1) hZ (tw hw 3 rfl) (tw hw 2 rfl) (by decide) (by decide)) (g := (mkF m 17 #[iv p0s, iv p1s, iv 6, iv 1, rv w7, .unset, .unset] [(.int 1)])) rfl (by rw [hml]; rfl) (argsL := [(.int 1)]) (rest := []) (lenOf pd_0 rfl) rfl (Nat.le_of_eq rfl) (hb hby at_17) (fun _ _ => ⟨rfl, e1, (by decide : 0 + 0 ≤ _), (by decide : 0 + 0 ≤ _)⟩)
      dsimp only [Pt.U, Pt.locs, Pt.cells, Pt.slots] at X2 l2 y2 z2 st2 hQ2
      subst l2 y2 z2
      obtain ⟨rfl, N2q, e2⟩ := hQ2
      have N2 := Fr.app N1 N2q
      refine Fine.pre (fun t k => pre0 _ (pre1 _ (pre2 _ (?_)))) (pc_19 (dv3 := (1 : Int32)) (dv5 := w6) X2 hx hZ hw hby hml hown hre hlk e2 N2 Z0 O0 Sg0 Sg1 rGF nzGC Sg7 Sg9 Sg11 E_w7 F_w4_bits F_w5_bits F_w6_bits F_w7_bits (by decide) (Fld.ne F_w7_bits F_w6_bits (by decide)))
      show SF p e below T1 (mkF m 17 #[iv p0s, iv p1s, iv 6, iv (p1s &&& (7 : Int32)), rv w7, .unset, .unset] [(.int (p1s &&& (7 : Int32)))]) _
      rw [hc2]
      show SF p e below T1 (mkF m 17 #[iv p0s, iv p1s, iv 6, iv 1, rv w7, .unset, .unset] [(.int 1)]) _
      refine st2 _ ?_
      show SF p e below T2 (mkF m 20 #[iv p0s, iv p1s, iv 6, iv 1, rv w7, .unset, .unset] [(.ref w6)]) _
      refine XS.astore X2.here hx rfl (hb hby at_20) rfl rfl (l' := #[iv p0s, iv p1s, iv 6, iv 1, rv w7, rv w6, .unset]) rfl ?_
      exact k
    · obtain ⟨_, _, ⟨T2, L2, k2x, n2⟩, -, X2, ⟨Lc2, hQ2, l2, y2, z2⟩, st2⟩ := Jvm.LawKit.callS X1 hx (y := (⟨zs7, "of", zs1⟩ : MethodName)) hown (mvT hZ (tw hw 0 rfl)) (mvT hZ (tw hw 1 rfl)) (mvT hZ (tw hw 2 rfl)) (mvT hZ (tw hw 3 rfl)) (by decide) (backOf (W := 0) (rm1_14 l Z a0 hw [] w1 kw1 w2 w6 w5 w3 w4 w8 w7 w9 h0 n0 Z0 Sg4 O0 V_w1) hZ (tw hw 3 rfl) (tw hw 2 rfl) (by decide) (by decide)) (g := (mkF m 17 #[iv p0s, iv p1s, iv 6, iv 2, rv w7, .unset, .unset] [(.int 2)])) rfl (by rw [hml]; rfl) (argsL := [(.int 2)]) (rest := []) (lenOf pd_0 rfl) rfl (Nat.le_of_eq rfl) (hb hby at_17) (fun _ _ => ⟨rfl, e1, (by decide : 0 + 0 ≤ _), (by decide : 0 + 0 ≤ _)⟩)
      dsimp only [Pt.U, Pt.locs, Pt.cells, Pt.slots] at X2 l2 y2 z2 st2 hQ2
      subst l2 y2 z2
      obtain ⟨rfl, N2q, e2⟩ := hQ2
      have N2 := Fr.app N1 N2q
      refine Fine.pre (fun t k => pre0 _ (pre1 _ (pre2 _ (?_)))) (pc_19 (dv3 := (2 : Int32)) (dv5 := w5) X2 hx hZ hw hby hml hown hre hlk e2 N2 Z0 O0 Sg0 Sg1 rGF nzGC Sg7 Sg9 Sg11 E_w7 F_w4_bits F_w5_bits F_w6_bits F_w7_bits (by decide) (Fld.ne F_w7_bits F_w5_bits (by decide)))
      show SF p e below T1 (mkF m 17 #[iv p0s, iv p1s, iv 6, iv (p1s &&& (7 : Int32)), rv w7, .unset, .unset] [(.int (p1s &&& (7 : Int32)))]) _
      rw [hc2]
      show SF p e below T1 (mkF m 17 #[iv p0s, iv p1s, iv 6, iv 2, rv w7, .unset, .unset] [(.int 2)]) _
      refine st2 _ ?_
      show SF p e below T2 (mkF m 20 #[iv p0s, iv p1s, iv 6, iv 2, rv w7, .unset, .unset] [(.ref w5)]) _
      refine XS.astore X2.here hx rfl (hb hby at_20) rfl rfl (l' := #[iv p0s, iv p1s, iv 6, iv 2, rv w7, rv w5, .unset]) rfl ?_
      exact k
    · obtain ⟨_, _, ⟨T2, L2, k2x, n2⟩, -, X2, ⟨Lc2, hQ2, l2, y2, z2⟩, st2⟩ := Jvm.LawKit.callS X1 hx (y := (⟨zs7, "of", zs1⟩ : MethodName)) hown (mvT hZ (tw hw 0 rfl)) (mvT hZ (tw hw 1 rfl)) (mvT hZ (tw hw 2 rfl)) (mvT hZ (tw hw 3 rfl)) (by decide) (backOf (W := 0) (rm1_15 l Z a0 hw [] w1 kw1 w2 w6 w5 w3 w4 w8 w7 w9 h0 n0 Z0 Sg4 O0 V_w1) hZ (tw hw 3 rfl) (tw hw 2 rfl) (by decide) (by decide)) (g := (mkF m 17 #[iv p0s, iv p1s, iv 6, iv 3, rv w7, .unset, .unset] [(.int 3)])) rfl (by rw [hml]; rfl) (argsL := [(.int 3)]) (rest := []) (lenOf pd_0 rfl) rfl (Nat.le_of_eq rfl) (hb hby at_17) (fun _ _ => ⟨rfl, e1, (by decide : 0 + 0 ≤ _), (by decide : 0 + 0 ≤ _)⟩)
      dsimp only [Pt.U, Pt.locs, Pt.cells, Pt.slots] at X2 l2 y2 z2 st2 hQ2
      subst l2 y2 z2
      obtain ⟨rfl, N2q, e2⟩ := hQ2
      have N2 := Fr.app N1 N2q
      refine Fine.pre (fun t k => pre0 _ (pre1 _ (pre2 _ (?_)))) (pc_19 (dv3 := (3 : Int32)) (dv5 := w3) X2 hx hZ hw hby hml hown hre hlk e2 N2 Z0 O0 Sg0 Sg1 rGF nzGC Sg7 Sg9 Sg11 E_w7 F_w4_bits F_w5_bits F_w6_bits F_w7_bits (by decide) (Fld.ne F_w7_bits F_w3_bits (by decide)))
      show SF p e below T1 (mkF m 17 #[iv p0s, iv p1s, iv 6, iv (p1s &&& (7 : Int32)), rv w7, .unset, .unset] [(.int (p1s &&& (7 : Int32)))]) _
      rw [hc2]
      show SF p e below T1 (mkF m 17 #[iv p0s, iv p1s, iv 6, iv 3, rv w7, .unset, .unset] [(.int 3)]) _
      refine st2 _ ?_
      show SF p e below T2 (mkF m 20 #[iv p0s, iv p1s, iv 6, iv 3, rv w7, .unset, .unset] [(.ref w3)]) _
      refine XS.astore X2.here hx rfl (hb hby at_20) rfl rfl (l' := #[iv p0s, iv p1s, iv 6, iv 3, rv w7, rv w3, .unset]) rfl ?_
      exact k
    · obtain ⟨_, _, ⟨T2, L2, k2x, n2⟩, -, X2, ⟨Lc2, hQ2, l2, y2, z2⟩, st2⟩ := Jvm.LawKit.callS X1 hx (y := (⟨zs7, "of", zs1⟩ : MethodName)) hown (mvT hZ (tw hw 0 rfl)) (mvT hZ (tw hw 1 rfl)) (mvT hZ (tw hw 2 rfl)) (mvT hZ (tw hw 3 rfl)) (by decide) (backOf (W := 0) (rm1_16 l Z a0 hw [] w1 kw1 w2 w6 w5 w3 w4 w8 w7 w9 h0 n0 Z0 Sg4 O0 V_w1) hZ (tw hw 3 rfl) (tw hw 2 rfl) (by decide) (by decide)) (g := (mkF m 17 #[iv p0s, iv p1s, iv 6, iv 4, rv w7, .unset, .unset] [(.int 4)])) rfl (by rw [hml]; rfl) (argsL := [(.int 4)]) (rest := []) (lenOf pd_0 rfl) rfl (Nat.le_of_eq rfl) (hb hby at_17) (fun _ _ => ⟨rfl, e1, (by decide : 0 + 0 ≤ _), (by decide : 0 + 0 ≤ _)⟩)
      dsimp only [Pt.U, Pt.locs, Pt.cells, Pt.slots] at X2 l2 y2 z2 st2 hQ2
      subst l2 y2 z2
      obtain ⟨rfl, N2q, e2⟩ := hQ2
      have N2 := Fr.app N1 N2q
      refine Fine.pre (fun t k => pre0 _ (pre1 _ (pre2 _ (?_)))) (pc_19 (dv3 := (4 : Int32)) (dv5 := w4) X2 hx hZ hw hby hml hown hre hlk e2 N2 Z0 O0 Sg0 Sg1 rGF nzGC Sg7 Sg9 Sg11 E_w7 F_w4_bits F_w5_bits F_w6_bits F_w7_bits (by decide) (Fld.ne F_w7_bits F_w4_bits (by decide)))
      show SF p e below T1 (mkF m 17 #[iv p0s, iv p1s, iv 6, iv (p1s &&& (7 : Int32)), rv w7, .unset, .unset] [(.int (p1s &&& (7 : Int32)))]) _
      rw [hc2]
      show SF p e below T1 (mkF m 17 #[iv p0s, iv p1s, iv 6, iv 4, rv w7, .unset, .unset] [(.int 4)]) _
      refine st2 _ ?_
      show SF p e below T2 (mkF m 20 #[iv p0s, iv p1s, iv 6, iv 4, rv w7, .unset, .unset] [(.ref w4)]) _
      refine XS.astore X2.here hx rfl (hb hby at_20) rfl rfl (l' := #[iv p0s, iv p1s, iv 6, iv 4, rv w7, rv w4, .unset]) rfl ?_
      exact k
    · obtain ⟨_, _, ⟨T2, L2, k2x, n2⟩, -, X2, ⟨Lc2, hQ2, l2, y2, z2⟩, st2⟩ := Jvm.LawKit.callS X1 hx (y := (⟨zs7, "of", zs1⟩ : MethodName)) hown (mvT hZ (tw hw 0 rfl)) (mvT hZ (tw hw 1 rfl)) (mvT hZ (tw hw 2 rfl)) (mvT hZ (tw hw 3 rfl)) (by decide) (backOf (W := 0) (rm1_17 l Z a0 hw [] w1 kw1 w2 w6 w5 w3 w4 w8 w7 w9 h0 n0 Z0 Sg4 O0 V_w1) hZ (tw hw 3 rfl) (tw hw 2 rfl) (by decide) (by decide)) (g := (mkF m 17 #[iv p0s, iv p1s, iv 6, iv 5, rv w7, .unset, .unset] [(.int 5)])) rfl (by rw [hml]; rfl) (argsL := [(.int 5)]) (rest := []) (lenOf pd_0 rfl) rfl (Nat.le_of_eq rfl) (hb hby at_17) (fun _ _ => ⟨rfl, e1, (by decide : 0 + 0 ≤ _), (by decide : 0 + 0 ≤ _)⟩)
      dsimp only [Pt.U, Pt.locs, Pt.cells, Pt.slots] at X2 l2 y2 z2 st2 hQ2
      subst l2 y2 z2
      obtain ⟨rfl, N2q, e2⟩ := hQ2
      have N2 := Fr.app N1 N2q
      refine Fine.pre (fun t k => pre0 _ (pre1 _ (pre2 _ (?_)))) (pc_19 (dv3 := (5 : Int32)) (dv5 := w8) X2 hx hZ hw hby hml hown hre hlk e2 N2 Z0 O0 Sg0 Sg1 rGF nzGC Sg7 Sg9 Sg11 E_w7 F_w4_bits F_w5_bits F_w6_bits F_w7_bits (by decide) (Fld.ne F_w7_bits F_w8_bits (by decide)))
      show SF p e below T1 (mkF m 17 #[iv p0s, iv p1s, iv 6, iv (p1s &&& (7 : Int32)), rv w7, .unset, .unset] [(.int (p1s &&& (7 : Int32)))]) _
      rw [hc2]
      show SF p e below T1 (mkF m 17 #[iv p0s, iv p1s, iv 6, iv 5, rv w7, .unset, .unset] [(.int 5)]) _
      refine st2 _ ?_
      show SF p e below T2 (mkF m 20 #[iv p0s, iv p1s, iv 6, iv 5, rv w7, .unset, .unset] [(.ref w8)]) _
      refine XS.astore X2.here hx rfl (hb hby at_20) rfl rfl (l' := #[iv p0s, iv p1s, iv 6, iv 5, rv w7, rv w8, .unset]) rfl ?_
      exact k
    · obtain ⟨_, _, ⟨T2, L2, k2x, n2⟩, -, X2, ⟨Lc2, hQ2, l2, y2, z2⟩, st2⟩ := Jvm.LawKit.callS X1 hx (y := (⟨zs7, "of", zs1⟩ : MethodName)) hown (mvT hZ (tw hw 0 rfl)) (mvT hZ (tw hw 1 rfl)) (mvT hZ (tw hw 2 rfl)) (mvT hZ (tw hw 3 rfl)) (by decide) (backOf (W := 0) (rm1_18 l Z a0 hw [] w1 kw1 w2 w6 w5 w3 w4 w8 w7 w9 h0 n0 Z0 Sg4 O0 V_w1) hZ (tw hw 3 rfl) (tw hw 2 rfl) (by decide) (by decide)) (g := (mkF m 17 #[iv p0s, iv p1s, iv 6, iv 6, rv w7, .unset, .unset] [(.int 6)])) rfl (by rw [hml]; rfl) (argsL := [(.int 6)]) (rest := []) (lenOf pd_0 rfl) rfl (Nat.le_of_eq rfl) (hb hby at_17) (fun _ _ => ⟨rfl, e1, (by decide : 0 + 0 ≤ _), (by decide : 0 + 0 ≤ _)⟩)
      dsimp only [Pt.U, Pt.locs, Pt.cells, Pt.slots] at X2 l2 y2 z2 st2 hQ2
      subst l2 y2 z2
      obtain ⟨rfl, N2q, e2⟩ := hQ2
      have N2 := Fr.app N1 N2q
      refine Fine.pre (fun t k => pre0 _ (pre1 _ (pre2 _ (?_)))) (pc_21 X2 hx hZ hw hby hml hown hre hlk e2 N2 Z0 O0 Sg0 Sg1 rGF nzGC Sg7 Sg9 Sg11 E_w7 F_w4_bits F_w5_bits F_w6_bits F_w7_bits )
      show SF p e below T1 (mkF m 17 #[iv p0s, iv p1s, iv 6, iv (p1s &&& (7 : Int32)), rv w7, .unset, .unset] [(.int (p1s &&& (7 : Int32)))]) _
      rw [hc2]
      show SF p e below T1 (mkF m 17 #[iv p0s, iv p1s, iv 6, iv 6, rv w7, .unset, .unset] [(.int 6)]) _
      refine st2 _ ?_
      show SF p e below T2 (mkF m 20 #[iv p0s, iv p1s, iv 6, iv 6, rv w7, .unset, .unset] [(.ref w7)]) _
      refine XS.astore X2.here hx rfl (hb hby at_20) rfl rfl (l' := #[iv p0s, iv p1s, iv 6, iv 6, rv w7, rv w7, .unset]) rfl ?_
      exact k
    · obtain ⟨_, _, ⟨T2, L2, k2x, n2⟩, -, X2, ⟨Lc2, hQ2, l2, y2, z2⟩, st2⟩ := Jvm.LawKit.callS X1 hx (y := (⟨zs7, "of", zs1⟩ : MethodName)) hown (mvT hZ (tw hw 0 rfl)) (mvT hZ (tw hw 1 rfl)) (mvT hZ (tw hw 2 rfl)) (mvT hZ (tw hw 3 rfl)) (by decide) (backOf (W := 0) (rm1_19 l Z a0 hw [] w1 kw1 w2 w6 w5 w3 w4 w8 w7 w9 h0 n0 Z0 Sg4 O0 V_w1) hZ (tw hw 3 rfl) (tw hw 2 rfl) (by decide) (by decide)) (g := (mkF m 17 #[iv p0s, iv p1s, iv 6, iv 7, rv w7, .unset, .unset] [(.int 7)])) rfl (by rw [hml]; rfl) (argsL := [(.int 7)]) (rest := []) (lenOf pd_0 rfl) rfl (Nat.le_of_eq rfl) (hb hby at_17) (fun _ _ => ⟨rfl, e1, (by decide : 0 + 0 ≤ _), (by decide : 0 + 0 ≤ _)⟩)
      dsimp only [Pt.U, Pt.locs, Pt.cells, Pt.slots] at X2 l2 y2 z2 st2 hQ2
      subst l2 y2 z2
      obtain ⟨rfl, N2q, e2⟩ := hQ2
      have N2 := Fr.app N1 N2q
      refine Fine.pre (fun t k => pre0 _ (pre1 _ (pre2 _ (?_)))) (pc_19 (dv3 := (7 : Int32)) (dv5 := w9) X2 hx hZ hw hby hml hown hre hlk e2 N2 Z0 O0 Sg0 Sg1 rGF nzGC Sg7 Sg9 Sg11 E_w7 F_w4_bits F_w5_bits F_w6_bits F_w7_bits (by decide) (Fld.ne F_w7_bits F_w9_bits (by decide)))
      show SF p e below T1 (mkF m 17 #[iv p0s, iv p1s, iv 6, iv (p1s &&& (7 : Int32)), rv w7, .unset, .unset] [(.int (p1s &&& (7 : Int32)))]) _
      rw [hc2]
      show SF p e below T1 (mkF m 17 #[iv p0s, iv p1s, iv 6, iv 7, rv w7, .unset, .unset] [(.int 7)]) _
      refine st2 _ ?_
      show SF p e below T2 (mkF m 20 #[iv p0s, iv p1s, iv 6, iv 7, rv w7, .unset, .unset] [(.ref w9)]) _
      refine XS.astore X2.here hx rfl (hb hby at_20) rfl rfl (l' := #[iv p0s, iv p1s, iv 6, iv 7, rv w7, rv w9, .unset]) rfl ?_
      exact k
  · obtain ⟨_, _, ⟨T1, L1, k1x, n1⟩, -, X1, ⟨Lc1, hQ1, l1, y1, z1⟩, st1⟩ := Jvm.LawKit.callS X0 hx (y := (⟨zs7, "of", zs1⟩ : MethodName)) hown (mvT hZ (tw hw 0 rfl)) (mvT hZ (tw hw 1 rfl)) (mvT hZ (tw hw 2 rfl)) (mvT hZ (tw hw 3 rfl)) (by decide) (backOf (W := 0) (rm1_19 l Z a0 hw [] w1 kw1 w2 w6 w5 w3 w4 w8 w7 w9 h0 n0 Z0 Sg4 O0 V_w1) hZ (tw hw 3 rfl) (tw hw 2 rfl) (by decide) (by decide)) (g := (mkF m 11 #[iv p0s, iv p1s, iv 7, iv (p1s &&& (7 : Int32)), .unset, .unset, .unset] [(.int 7)])) rfl (by rw [hml]; rfl) (argsL := [(.int 7)]) (rest := []) (lenOf pd_0 rfl) rfl (Nat.le_of_eq rfl) (hb hby at_11) (fun _ _ => ⟨rfl, e0, (by decide : 0 + 0 ≤ _), (by decide : 0 + 0 ≤ _)⟩)
    dsimp only [Pt.U, Pt.locs, Pt.cells, Pt.slots] at X1 l1 y1 z1 st1 hQ1
    subst l1 y1 z1
    obtain ⟨rfl, N1q, e1⟩ := hQ1
    have N1 := Fr.app N0 N1q
    have pre2 : ∀ t, SF p e below T1 (mkF m 17 #[iv p0s, iv p1s, iv 7, iv (p1s &&& (7 : Int32)), rv w9, .unset, .unset] [(.int (p1s &&& (7 : Int32)))]) t → SF p e below s₁ (mkF m 4 #[iv p0s, iv p1s, .unset, .unset, .unset, .unset, .unset] [(.int (p0s &&& (7 : Int32)))]) t := fun t k => by
      show SF p e below s₁ (mkF m 4 #[iv p0s, iv p1s, .unset, .unset, .unset, .unset, .unset] [(.int (p0s &&& (7 : Int32)))]) _
      rw [hc1]
      show SF p e below s₁ (mkF m 4 #[iv p0s, iv p1s, .unset, .unset, .unset, .unset, .unset] [(.int 7)]) _
      refine XS.istoreN X0.here hx rfl (hb hby at_4) rfl (l' := #[iv p0s, iv p1s, iv 7, .unset, .unset, .unset, .unset]) rfl ?_
      refine XS.iloadN X0.here hx rfl (hb hby at_5) rfl ?_
      show SF p e below s₁ (mkF m 6 #[iv p0s, iv p1s, iv 7, .unset, .unset, .unset, .unset] [(.int p1s)]) _
      refine XS.bipush X0.here hx rfl (hb hby at_6) ?_
      show SF p e below s₁ (mkF m 8 #[iv p0s, iv p1s, iv 7, .unset, .unset, .unset, .unset] [(.int 7), (.int p1s)]) _
      refine XS.iand X0.here hx rfl (hb hby at_8) rfl ?_
      show SF p e below s₁ (mkF m 9 #[iv p0s, iv p1s, iv 7, .unset, .unset, .unset, .unset] [(.int (p1s &&& (7 : Int32)))]) _
      refine XS.istoreN X0.here hx rfl (hb hby at_9) rfl (l' := #[iv p0s, iv p1s, iv 7, iv (p1s &&& (7 : Int32)), .unset, .unset, .unset]) rfl ?_
      refine XS.iloadN X0.here hx rfl (hb hby at_10) rfl ?_
      show SF p e below s₁ (mkF m 11 #[iv p0s, iv p1s, iv 7, iv (p1s &&& (7 : Int32)), .unset, .unset, .unset] [(.int 7)]) _
      refine st1 _ ?_
      show SF p e below T1 (mkF m 14 #[iv p0s, iv p1s, iv 7, iv (p1s &&& (7 : Int32)), .unset, .unset, .unset] [(.ref w9)]) _
      refine XS.astore X1.here hx rfl (hb hby at_14) rfl rfl (l' := #[iv p0s, iv p1s, iv 7, iv (p1s &&& (7 : Int32)), rv w9, .unset, .unset]) rfl ?_
      refine XS.iloadN X1.here hx rfl (hb hby at_16) rfl ?_
      exact k
    rcases own_and7 p1s with hc2 | hc2 | hc2 | hc2 | hc2 | hc2 | hc2 | hc2
    · obtain ⟨_, _, ⟨T2, L2, k2x, n2⟩, -, X2, ⟨Lc2, hQ2, l2, y2, z2⟩, st2⟩ := Jvm.LawKit.callS X1 hx (y := (⟨zs7, "of", zs1⟩ : MethodName)) hown (mvT hZ (tw hw 0 rfl)) (mvT hZ (tw hw 1 rfl)) (mvT hZ (tw hw 2 rfl)) (mvT hZ (tw hw 3 rfl)) (by decide) (backOf (W := 0) (rm1_1 l Z a0 hw [] w1 kw1 w2 w6 w5 w3 w4 w8 w7 w9 h0 n0 Z0 Sg4 O0 V_w1) hZ (tw hw 3 rfl) (tw hw 2 rfl) (by decide) (by decide)) (g := (mkF m 17 #[iv p0s, iv p1s, iv 7, iv 0, rv w9, .unset, .unset] [(.int 0)])) rfl (by rw [hml]; rfl) (argsL := [(.int 0)]) (rest := []) (lenOf pd_0 rfl) rfl (Nat.le_of_eq rfl) (hb hby at_17) (fun _ _ => ⟨rfl, e1, (by decide : 0 + 0 ≤ _), (by decide : 0 + 0 ≤ _)⟩)
      dsimp only [Pt.U, Pt.locs, Pt.cells, Pt.slots] at X2 l2 y2 z2 st2 hQ2
      subst l2 y2 z2
      obtain ⟨rfl, N2q, e2⟩ := hQ2
      have N2 := Fr.app N1 N2q
      refine Fine.pre (fun t k => pre0 _ (pre1 _ (pre2 _ (?_)))) (pc_22 (dv3 := (0 : Int32)) (dv5 := w2) X2 hx hZ hw hby hml hown hre hlk e2 N2 Z0 O0 Sg0 Sg1 rGF nzGC Sg7 Sg9 Sg11 E_w9 F_w4_bits F_w5_bits F_w6_bits F_w9_bits (by decide) (Fld.ne F_w9_bits F_w2_bits (by decide)))
      show SF p e below T1 (mkF m 17 #[iv p0s, iv p1s, iv 7, iv (p1s &&& (7 : Int32)), rv w9, .unset, .unset] [(.int (p1s &&& (7 : Int32)))]) _
      rw [hc2]
      show SF p e below T1 (mkF m 17 #[iv p0s, iv p1s, iv 7, iv 0, rv w9, .unset, .unset] [(.int 0)]) _
      refine st2 _ ?_
      show SF p e below T2 (mkF m 20 #[iv p0s, iv p1s, iv 7, iv 0, rv w9, .unset, .unset] [(.ref w2)]) _
      refine XS.astore X2.here hx rfl (hb hby at_20) rfl rfl (l' := #[iv p0s, iv p1s, iv 7, iv 0, rv w9, rv w2, .unset]) rfl ?_
      exact k
    · obtain ⟨_, _, ⟨T2, L2, k2x, n2⟩, -, X2, ⟨Lc2, hQ2, l2, y2, z2⟩, st2⟩ := Jvm.LawKit.callS X1 hx (y := (⟨zs7, "of", zs1⟩ : MethodName)) hown (mvT hZ (tw hw 0 rfl)) (mvT hZ (tw hw 1 rfl)) (mvT hZ (tw hw 2 rfl)) (mvT hZ (tw hw 3 rfl)) (by decide) (backOf (W := 0) (rm1_13 l Z a0 hw [] w1 kw1 w2 w6 w5 w3 w4 w8 w7 w9 h0 n0 Z0 Sg4 O0 V_w1) hZ (tw hw 3 rfl) (tw hw 2 rfl) (by decide) (by decide)) (g := (mkF m 17 #[iv p0s, iv p1s, iv 7, iv 1, rv w9, .unset, .unset] [(.int 1)])) rfl (by rw [hml]; rfl) (argsL := [(.int 1)]) (rest := []) (lenOf pd_0 rfl) rfl (Nat.le_of_eq rfl) (hb hby at_17) (fun _ _ => ⟨rfl, e1, (by decide : 0 + 0 ≤ _), (by decide : 0 + 0 ≤ _)⟩)
      dsimp only [Pt.U, Pt.locs, Pt.cells, Pt.slots] at X2 l2 y2 z2 st2 hQ2
      subst l2 y2 z2
      obtain ⟨rfl, N2q, e2⟩ := hQ2
      have N2 := Fr.app N1 N2q
      refine Fine.pre (fun t k => pre0 _ (pre1 _ (pre2 _ (?_)))) (pc_22 (dv3 := (1 : Int32)) (dv5 := w6) X2 hx hZ hw hby hml hown hre hlk e2 N2 Z0 O0 Sg0 Sg1 rGF nzGC Sg7 Sg9 Sg11 E_w9 F_w4_bits F_w5_bits F_w6_bits F_w9_bits (by decide) (Fld.ne F_w9_bits F_w6_bits (by decide)))
      show SF p e below T1 (mkF m 17 #[iv p0s, iv p1s, iv 7, iv (p1s &&& (7 : Int32)), rv w9, .unset, .unset] [(.int (p1s &&& (7 : Int32)))]) _
      rw [hc2]
      show SF p e below T1 (mkF m 17 #[iv p0s, iv p1s, iv 7, iv 1, rv w9, .unset, .unset] [(.int 1)]) _
      refine st2 _ ?_
      show SF p e below T2 (mkF m 20 #[iv p0s, iv p1s, iv 7, iv 1, rv w9, .unset, .unset] [(.ref w6)]) _
      refine XS.astore X2.here hx rfl (hb hby at_20) rfl rfl (l' := #[iv p0s, iv p1s, iv 7, iv 1, rv w9, rv w6, .unset]) rfl ?_
      exact k
    · obtain ⟨_, _, ⟨T2, L2, k2x, n2⟩, -, X2, ⟨Lc2, hQ2, l2, y2, z2⟩, st2⟩ := Jvm.LawKit.callS X1 hx (y := (⟨zs7, "of", zs1⟩ : MethodName)) hown (mvT hZ (tw hw 0 rfl)) (mvT hZ (tw hw 1 rfl)) (mvT hZ (tw hw 2 rfl)) (mvT hZ (tw hw 3 rfl)) (by decide) (backOf (W := 0) (rm1_14 l Z a0 hw [] w1 kw1 w2 w6 w5 w3 w4 w8 w7 w9 h0 n0 Z0 Sg4 O0 V_w1) hZ (tw hw 3 rfl) (tw hw 2 rfl) (by decide) (by decide)) (g := (mkF m 17 #[iv p0s, iv p1s, iv 7, iv 2, rv w9, .unset, .unset] [(.int 2)])) rfl (by rw [hml]; rfl) (argsL := [(.int 2)]) (rest := []) (lenOf pd_0 rfl) rfl (Nat.le_of_eq rfl) (hb hby at_17) (fun _ _ => ⟨rfl, e1, (by decide : 0 + 0 ≤ _), (by decide : 0 + 0 ≤ _)⟩)
      dsimp only [Pt.U, Pt.locs, Pt.cells, Pt.slots] at X2 l2 y2 z2 st2 hQ2
      subst l2 y2 z2
      obtain ⟨rfl, N2q, e2⟩ := hQ2
      have N2 := Fr.app N1 N2q
      refine Fine.pre (fun t k => pre0 _ (pre1 _ (pre2 _ (?_)))) (pc_22 (dv3 := (2 : Int32)) (dv5 := w5) X2 hx hZ hw hby hml hown hre hlk e2 N2 Z0 O0 Sg0 Sg1 rGF nzGC Sg7 Sg9 Sg11 E_w9 F_w4_bits F_w5_bits F_w6_bits F_w9_bits (by decide) (Fld.ne F_w9_bits F_w5_bits (by decide)))
      show SF p e below T1 (mkF m 17 #[iv p0s, iv p1s, iv 7, iv (p1s &&& (7 : Int32)), rv w9, .unset, .unset] [(.int (p1s &&& (7 : Int32)))]) _
      rw [hc2]
      show SF p e below T1 (mkF m 17 #[iv p0s, iv p1s, iv 7, iv 2, rv w9, .unset, .unset] [(.int 2)]) _
      refine st2 _ ?_
      show SF p e below T2 (mkF m 20 #[iv p0s, iv p1s, iv 7, iv 2, rv w9, .unset, .unset] [(.ref w5)]) _
      refine XS.astore X2.here hx rfl (hb hby at_20) rfl rfl (l' := #[iv p0s, iv p1s, iv 7, iv 2, rv w9, rv w5, .unset]) rfl ?_
      exact k
    · obtain ⟨_, _, ⟨T2, L2, k2x, n2⟩, -, X2, ⟨Lc2, hQ2, l2, y2, z2⟩, st2⟩ := Jvm.LawKit.callS X1 hx (y := (⟨zs7, "of", zs1⟩ : MethodName)) hown (mvT hZ (tw hw 0 rfl)) (mvT hZ (tw hw 1 rfl)) (mvT hZ (tw hw 2 rfl)) (mvT hZ (tw hw 3 rfl)) (by decide) (backOf (W := 0) (rm1_15 l Z a0 hw [] w1 kw1 w2 w6 w5 w3 w4 w8 w7 w9 h0 n0 Z0 Sg4 O0 V_w1) hZ (tw hw 3 rfl) (tw hw 2 rfl) (by decide) (by decide)) (g := (mkF m 17 #[iv p0s, iv p1s, iv 7, iv 3, rv w9, .unset, .unset] [(.int 3)])) rfl (by rw [hml]; rfl) (argsL := [(.int 3)]) (rest := []) (lenOf pd_0 rfl) rfl (Nat.le_of_eq rfl) (hb hby at_17) (fun _ _ => ⟨rfl, e1, (by decide : 0 + 0 ≤ _), (by decide : 0 + 0 ≤ _)⟩)
      dsimp only [Pt.U, Pt.locs, Pt.cells, Pt.slots] at X2 l2 y2 z2 st2 hQ2
      subst l2 y2 z2
      obtain ⟨rfl, N2q, e2⟩ := hQ2
      have N2 := Fr.app N1 N2q
      refine Fine.pre (fun t k => pre0 _ (pre1 _ (pre2 _ (?_)))) (pc_22 (dv3 := (3 : Int32)) (dv5 := w3) X2 hx hZ hw hby hml hown hre hlk e2 N2 Z0 O0 Sg0 Sg1 rGF nzGC Sg7 Sg9 Sg11 E_w9 F_w4_bits F_w5_bits F_w6_bits F_w9_bits (by decide) (Fld.ne F_w9_bits F_w3_bits (by decide)))
      show SF p e below T1 (mkF m 17 #[iv p0s, iv p1s, iv 7, iv (p1s &&& (7 : Int32)), rv w9, .unset, .unset] [(.int (p1s &&& (7 : Int32)))]) _
      rw [hc2]
      show SF p e below T1 (mkF m 17 #[iv p0s, iv p1s, iv 7, iv 3, rv w9, .unset, .unset] [(.int 3)]) _
      refine st2 _ ?_
      show SF p e below T2 (mkF m 20 #[iv p0s, iv p1s, iv 7, iv 3, rv w9, .unset, .unset] [(.ref w3)]) _
      refine XS.astore X2.here hx rfl (hb hby at_20) rfl rfl (l' := #[iv p0s, iv p1s, iv 7, iv 3, rv w9, rv w3, .unset]) rfl ?_
      exact k
    · obtain ⟨_, _, ⟨T2, L2, k2x, n2⟩, -, X2, ⟨Lc2, hQ2, l2, y2, z2⟩, st2⟩ := Jvm.LawKit.callS X1 hx (y := (⟨zs7, "of", zs1⟩ : MethodName)) hown (mvT hZ (tw hw 0 rfl)) (mvT hZ (tw hw 1 rfl)) (mvT hZ (tw hw 2 rfl)) (mvT hZ (tw hw 3 rfl)) (by decide) (backOf (W := 0) (rm1_16 l Z a0 hw [] w1 kw1 w2 w6 w5 w3 w4 w8 w7 w9 h0 n0 Z0 Sg4 O0 V_w1) hZ (tw hw 3 rfl) (tw hw 2 rfl) (by decide) (by decide)) (g := (mkF m 17 #[iv p0s, iv p1s, iv 7, iv 4, rv w9, .unset, .unset] [(.int 4)])) rfl (by rw [hml]; rfl) (argsL := [(.int 4)]) (rest := []) (lenOf pd_0 rfl) rfl (Nat.le_of_eq rfl) (hb hby at_17) (fun _ _ => ⟨rfl, e1, (by decide : 0 + 0 ≤ _), (by decide : 0 + 0 ≤ _)⟩)
      dsimp only [Pt.U, Pt.locs, Pt.cells, Pt.slots] at X2 l2 y2 z2 st2 hQ2
      subst l2 y2 z2
      obtain ⟨rfl, N2q, e2⟩ := hQ2
      have N2 := Fr.app N1 N2q
      refine Fine.pre (fun t k => pre0 _ (pre1 _ (pre2 _ (?_)))) (pc_22 (dv3 := (4 : Int32)) (dv5 := w4) X2 hx hZ hw hby hml hown hre hlk e2 N2 Z0 O0 Sg0 Sg1 rGF nzGC Sg7 Sg9 Sg11 E_w9 F_w4_bits F_w5_bits F_w6_bits F_w9_bits (by decide) (Fld.ne F_w9_bits F_w4_bits (by decide)))
      show SF p e below T1 (mkF m 17 #[iv p0s, iv p1s, iv 7, iv (p1s &&& (7 : Int32)), rv w9, .unset, .unset] [(.int (p1s &&& (7 : Int32)))]) _
      rw [hc2]
      show SF p e below T1 (mkF m 17 #[iv p0s, iv p1s, iv 7, iv 4, rv w9, .unset, .unset] [(.int 4)]) _
      refine st2 _ ?_
      show SF p e below T2 (mkF m 20 #[iv p0s, iv p1s, iv 7, iv 4, rv w9, .unset, .unset] [(.ref w4)]) _
      refine XS.astore X2.here hx rfl (hb hby at_20) rfl rfl (l' := #[iv p0s, iv p1s, iv 7, iv 4, rv w9, rv w4, .unset]) rfl ?_
      exact k
    · obtain ⟨_, _, ⟨T2, L2, k2x, n2⟩, -, X2, ⟨Lc2, hQ2, l2, y2, z2⟩, st2⟩ := Jvm.LawKit.callS X1 hx (y := (⟨zs7, "of", zs1⟩ : MethodName)) hown (mvT hZ (tw hw 0 rfl)) (mvT hZ (tw hw 1 rfl)) (mvT hZ (tw hw 2 rfl)) (mvT hZ (tw hw 3 rfl)) (by decide) (backOf (W := 0) (rm1_17 l Z a0 hw [] w1 kw1 w2 w6 w5 w3 w4 w8 w7 w9 h0 n0 Z0 Sg4 O0 V_w1) hZ (tw hw 3 rfl) (tw hw 2 rfl) (by decide) (by decide)) (g := (mkF m 17 #[iv p0s, iv p1s, iv 7, iv 5, rv w9, .unset, .unset] [(.int 5)])) rfl (by rw [hml]; rfl) (argsL := [(.int 5)]) (rest := []) (lenOf pd_0 rfl) rfl (Nat.le_of_eq rfl) (hb hby at_17) (fun _ _ => ⟨rfl, e1, (by decide : 0 + 0 ≤ _), (by decide : 0 + 0 ≤ _)⟩)
      dsimp only [Pt.U, Pt.locs, Pt.cells, Pt.slots] at X2 l2 y2 z2 st2 hQ2
      subst l2 y2 z2
      obtain ⟨rfl, N2q, e2⟩ := hQ2
      have N2 := Fr.app N1 N2q
      refine Fine.pre (fun t k => pre0 _ (pre1 _ (pre2 _ (?_)))) (pc_22 (dv3 := (5 : Int32)) (dv5 := w8) X2 hx hZ hw hby hml hown hre hlk e2 N2 Z0 O0 Sg0 Sg1 rGF nzGC Sg7 Sg9 Sg11 E_w9 F_w4_bits F_w5_bits F_w6_bits F_w9_bits (by decide) (Fld.ne F_w9_bits F_w8_bits (by decide)))
      show SF p e below T1 (mkF m 17 #[iv p0s, iv p1s, iv 7, iv (p1s &&& (7 : Int32)), rv w9, .unset, .unset] [(.int (p1s &&& (7 : Int32)))]) _
      rw [hc2]
      show SF p e below T1 (mkF m 17 #[iv p0s, iv p1s, iv 7, iv 5, rv w9, .unset, .unset] [(.int 5)]) _
      refine st2 _ ?_
      show SF p e below T2 (mkF m 20 #[iv p0s, iv p1s, iv 7, iv 5, rv w9, .unset, .unset] [(.ref w8)]) _
      refine XS.astore X2.here hx rfl (hb hby at_20) rfl rfl (l' := #[iv p0s, iv p1s, iv 7, iv 5, rv w9, rv w8, .unset]) rfl ?_
      exact k
    · obtain ⟨_, _, ⟨T2, L2, k2x, n2⟩, -, X2, ⟨Lc2, hQ2, l2, y2, z2⟩, st2⟩ := Jvm.LawKit.callS X1 hx (y := (⟨zs7, "of", zs1⟩ : MethodName)) hown (mvT hZ (tw hw 0 rfl)) (mvT hZ (tw hw 1 rfl)) (mvT hZ (tw hw 2 rfl)) (mvT hZ (tw hw 3 rfl)) (by decide) (backOf (W := 0) (rm1_18 l Z a0 hw [] w1 kw1 w2 w6 w5 w3 w4 w8 w7 w9 h0 n0 Z0 Sg4 O0 V_w1) hZ (tw hw 3 rfl) (tw hw 2 rfl) (by decide) (by decide)) (g := (mkF m 17 #[iv p0s, iv p1s, iv 7, iv 6, rv w9, .unset, .unset] [(.int 6)])) rfl (by rw [hml]; rfl) (argsL := [(.int 6)]) (rest := []) (lenOf pd_0 rfl) rfl (Nat.le_of_eq rfl) (hb hby at_17) (fun _ _ => ⟨rfl, e1, (by decide : 0 + 0 ≤ _), (by decide : 0 + 0 ≤ _)⟩)
      dsimp only [Pt.U, Pt.locs, Pt.cells, Pt.slots] at X2 l2 y2 z2 st2 hQ2
      subst l2 y2 z2
      obtain ⟨rfl, N2q, e2⟩ := hQ2
      have N2 := Fr.app N1 N2q
      refine Fine.pre (fun t k => pre0 _ (pre1 _ (pre2 _ (?_)))) (pc_22 (dv3 := (6 : Int32)) (dv5 := w7) X2 hx hZ hw hby hml hown hre hlk e2 N2 Z0 O0 Sg0 Sg1 rGF nzGC Sg7 Sg9 Sg11 E_w9 F_w4_bits F_w5_bits F_w6_bits F_w9_bits (by decide) (Fld.ne F_w9_bits F_w7_bits (by decide)))
      show SF p e below T1 (mkF m 17 #[iv p0s, iv p1s, iv 7, iv (p1s &&& (7 : Int32)), rv w9, .unset, .unset] [(.int (p1s &&& (7 : Int32)))]) _
      rw [hc2]
      show SF p e below T1 (mkF m 17 #[iv p0s, iv p1s, iv 7, iv 6, rv w9, .unset, .unset] [(.int 6)]) _
      refine st2 _ ?_
      show SF p e below T2 (mkF m 20 #[iv p0s, iv p1s, iv 7, iv 6, rv w9, .unset, .unset] [(.ref w7)]) _
      refine XS.astore X2.here hx rfl (hb hby at_20) rfl rfl (l' := #[iv p0s, iv p1s, iv 7, iv 6, rv w9, rv w7, .unset]) rfl ?_
      exact k
    · obtain ⟨_, _, ⟨T2, L2, k2x, n2⟩, -, X2, ⟨Lc2, hQ2, l2, y2, z2⟩, st2⟩ := Jvm.LawKit.callS X1 hx (y := (⟨zs7, "of", zs1⟩ : MethodName)) hown (mvT hZ (tw hw 0 rfl)) (mvT hZ (tw hw 1 rfl)) (mvT hZ (tw hw 2 rfl)) (mvT hZ (tw hw 3 rfl)) (by decide) (backOf (W := 0) (rm1_19 l Z a0 hw [] w1 kw1 w2 w6 w5 w3 w4 w8 w7 w9 h0 n0 Z0 Sg4 O0 V_w1) hZ (tw hw 3 rfl) (tw hw 2 rfl) (by decide) (by decide)) (g := (mkF m 17 #[iv p0s, iv p1s, iv 7, iv 7, rv w9, .unset, .unset] [(.int 7)])) rfl (by rw [hml]; rfl) (argsL := [(.int 7)]) (rest := []) (lenOf pd_0 rfl) rfl (Nat.le_of_eq rfl) (hb hby at_17) (fun _ _ => ⟨rfl, e1, (by decide : 0 + 0 ≤ _), (by decide : 0 + 0 ≤ _)⟩)
      dsimp only [Pt.U, Pt.locs, Pt.cells, Pt.slots] at X2 l2 y2 z2 st2 hQ2
      subst l2 y2 z2
      obtain ⟨rfl, N2q, e2⟩ := hQ2
      have N2 := Fr.app N1 N2q
      refine Fine.pre (fun t k => pre0 _ (pre1 _ (pre2 _ (?_)))) (pc_24 X2 hx hZ hw hby hml hown hre hlk e2 N2 Z0 O0 Sg0 Sg1 rGF nzGC Sg7 Sg9 Sg11 E_w9 F_w4_bits F_w5_bits F_w6_bits F_w9_bits )
      show SF p e below T1 (mkF m 17 #[iv p0s, iv p1s, iv 7, iv (p1s &&& (7 : Int32)), rv w9, .unset, .unset] [(.int (p1s &&& (7 : Int32)))]) _
      rw [hc2]
      show SF p e below T1 (mkF m 17 #[iv p0s, iv p1s, iv 7, iv 7, rv w9, .unset, .unset] [(.int 7)]) _
      refine st2 _ ?_
      show SF p e below T2 (mkF m 20 #[iv p0s, iv p1s, iv 7, iv 7, rv w9, .unset, .unset] [(.ref w9)]) _
      refine XS.astore X2.here hx rfl (hb hby at_20) rfl rfl (l' := #[iv p0s, iv p1s, iv 7, iv 7, rv w9, rv w9, .unset]) rfl ?_
      exact k
set_option maxRecDepth 65536 in
set_option maxHeartbeats 40000000 in
theorem comes_1 {Post : Tables → Env → Array Value → State → Outcome → State → Prop} (hpost : ∀ tb e args s v u, (limb_1_1.after args s (.returned v) u = true ∧ limb_1_2.after args s (.returned v) u = true ∧ True) → FrameEnd s (.returned v) u (Jvm.fieldLocs frame_1_writes args s ++ Jvm.arrayLocs frame_1_arrays args s ++ Jvm.staticLocs frame_1_statics s) 16 128 → Post tb e args s (.returned v) u) :
    ArmFor flags0 classFile x code maxLocals ret World_1 tables_1 room_1 Calls_1 rest_1 Pre_1 Post := by
  intro l hfl _ _ p e ha hc hk s m args below hf hA hF happ hP
  obtain ⟨hcalls, hrest, hpre⟩ := hP
  obtain ⟨-, -, -, hnamed, -, -, -, hat⟩ := (Spec.applies_iff hf).mp happ
  obtain ⟨hg, hn⟩ := and_e (Cond.before_iff.mp (show (Jvm.Cond.and given_1 narrow_1).before args s = true from hpre))
  obtain ⟨gv0, gr0⟩ := and_e hg
  obtain ⟨gv1, gr1⟩ := and_e gr0
  have gv2 := gr1
  obtain ⟨av0, av1, rfl⟩ : ∃ av0 av1 : Value, args = #[av0, av1] := by
    have hs : args.size = 2 := by simpa [Cond.value, given_1] using gv0
    obtain ⟨L⟩ := args
    match L, hs with
    | [av0, av1], _ => exact ⟨av0, av1, rfl⟩
  have hw := fun d (hd : d ∈ tables_1) => atoms_spec (ws := Jvm.Cond.code x code maxLocals ret :: tables_1) hat d (List.mem_cons_of_mem _ hd)
  have hfit : Fit s := fun {y c} hc i hi => by
    obtain ⟨ha, rfl⟩ := Array.getElem?_eq_some_iff.mp hc
    have q := List.all_eq_true.mp ((Array.all_eq_true_iff_forall_mem.mp hF) _ (Array.getElem_mem ha)) i (List.mem_range.mpr hi)
    simpa [Array.getElem?_eq_getElem hi] using q
  obtain ⟨hsets, hown0⟩ := atoms_of _ (rest_1_c_eq ▸ (show rest_1_c.before _ s = true from hrest))
  obtain ⟨p0s, ei0⟩ := is_v gv1
  obtain rfl : av0 = (.int p0s) := Option.some.inj ei0
  obtain ⟨p1s, ei1⟩ := is_v gv2
  obtain rfl : av1 = (.int p1s) := Option.some.inj ei1
  obtain ⟨nv0, nr0⟩ := and_e hn
  obtain ⟨nv1, nr1⟩ := and_e nr0
  obtain ⟨nv2, nr2⟩ := and_e nr1
  obtain ⟨nv3, nr3⟩ := and_e nr2
  obtain ⟨nv4, nr4⟩ := and_e nr3
  obtain ⟨nv5, nr5⟩ := and_e nr4
  obtain ⟨nv6, nr6⟩ := and_e nr5
  obtain ⟨nv7, nr7⟩ := and_e nr6
  obtain ⟨nv8, nr8⟩ := and_e nr7
  obtain ⟨nv9, nr9⟩ := and_e nr8
  obtain ⟨nv10, nr10⟩ := and_e nr9
  obtain ⟨nv11, nr11⟩ := and_e nr10
  obtain ⟨nv12, nr12⟩ := and_e nr11
  obtain ⟨nv13, nr13⟩ := and_e nr12
  obtain ⟨nv14, nr14⟩ := and_e nr13
  obtain ⟨nv15, nr15⟩ := and_e nr14
  obtain ⟨nv16, nr16⟩ := and_e nr15
  obtain ⟨nv17, nr17⟩ := and_e nr16
  obtain ⟨nv18, nr18⟩ := and_e nr17
  obtain ⟨nv19, nr19⟩ := and_e nr18
  obtain ⟨nv20, nr20⟩ := and_e nr19
  obtain ⟨nv21, nr21⟩ := and_e nr20
  obtain ⟨nv22, nr22⟩ := and_e nr21
  obtain ⟨nv23, nr23⟩ := and_e nr22
  obtain ⟨nv24, nr24⟩ := and_e nr23
  obtain ⟨nv25, nr25⟩ := and_e nr24
  obtain ⟨nv26, nr26⟩ := and_e nr25
  obtain ⟨nv27, nr27⟩ := and_e nr26
  obtain ⟨nv28, nr28⟩ := and_e nr27
  obtain ⟨nv29, nr29⟩ := and_e nr28
  obtain ⟨nv30, nr30⟩ := and_e nr29
  obtain ⟨nv31, nr31⟩ := and_e nr30
  obtain ⟨nv32, nr32⟩ := and_e nr31
  obtain ⟨nv33, nr33⟩ := and_e nr32
  obtain ⟨nv34, nr34⟩ := and_e nr33
  obtain ⟨nv35, nr35⟩ := and_e nr34
  obtain ⟨nv36, nr36⟩ := and_e nr35
  obtain ⟨nv37, nr37⟩ := and_e nr36
  obtain ⟨nv38, nr38⟩ := and_e nr37
  obtain ⟨nv39, nr39⟩ := and_e nr38
  obtain ⟨nv40, nr40⟩ := and_e nr39
  obtain ⟨nv41, nr41⟩ := and_e nr40
  obtain ⟨nv42, nr42⟩ := and_e nr41
  obtain ⟨nv43, nr43⟩ := and_e nr42
  obtain ⟨nv44, nr44⟩ := and_e nr43
  obtain ⟨nv45, nr45⟩ := and_e nr44
  obtain ⟨nv46, nr46⟩ := and_e nr45
  obtain ⟨nv47, nr47⟩ := and_e nr46
  obtain ⟨nv48, nr48⟩ := and_e nr47
  obtain ⟨GC, evGC⟩ := is_v (Cond.before_iff.mp (hsets _ (List.mem_of_getElem? (i := 1) rfl)))
  have Sg0 : Sta s s.heap "java/lang/String" "COMPACT_STRINGS" "Z" (.int GC) := Sta.start evGC (Or.inl (hsets _ (List.mem_of_getElem? (i := 0) rfl)))
  obtain ⟨GF, evGF, rGF⟩ := isR_v (Cond.before_iff.mp (hsets _ (List.mem_of_getElem? (i := 8) rfl)))
  have Sg1 : Sta s s.heap zs9 "SIOOBE_FORMATTER" zs5 GF := Sta.start evGF (Or.inl (hsets _ (List.mem_of_getElem? (i := 7) rfl)))
  have nzGC : ¬ (GC = (0 : Int32)) := gotF (Cond.eq_ints evGC (Term.int_eval (0))) (not_v (Cond.before_iff.mp (hsets _ (List.mem_of_getElem? (i := 2) rfl))))
  obtain ⟨w1, ev_w1⟩ := arr_v nv0
  have Sg4 : Sta s s.heap zs7 "SETS" zs6 (.ref w1) := Sta.start ev_w1 (Or.inr ⟨(tw hw 2 rfl), (tw hw 5 rfl)⟩)
  obtain ⟨cl_w1, Ar_w1⟩ := Arr.start ev_w1 nv0
  obtain ⟨w2, ev_w2⟩ := exa_v nv2
  have E_w2 : Exa s s.heap w2 zs7 := Exa.start ev_w2 nv2
  obtain ⟨w3, ev_w3⟩ := exa_v nv3
  have E_w3 : Exa s s.heap w3 zs7 := Exa.start ev_w3 nv3
  obtain ⟨w4, ev_w4⟩ := exa_v nv7
  have Sg7 : Sta s s.heap zs7 "READ" zs4 (.ref w4) := Sta.start ev_w4 (Or.inr ⟨(tw hw 2 rfl), (tw hw 25 rfl)⟩)
  have E_w4 : Exa s s.heap w4 zs7 := Exa.start ev_w4 nv7
  obtain ⟨w5, ev_w5⟩ := exa_v nv9
  have Sg9 : Sta s s.heap zs7 "WRITE" zs4 (.ref w5) := Sta.start ev_w5 (Or.inr ⟨(tw hw 2 rfl), (tw hw 36 rfl)⟩)
  have E_w5 : Exa s s.heap w5 zs7 := Exa.start ev_w5 nv9
  obtain ⟨w6, ev_w6⟩ := exa_v nv11
  have Sg11 : Sta s s.heap zs7 "EXECUTE" zs4 (.ref w6) := Sta.start ev_w6 (Or.inr ⟨(tw hw 2 rfl), (tw hw 38 rfl)⟩)
  have E_w6 : Exa s s.heap w6 zs7 := Exa.start ev_w6 nv11
  obtain ⟨w7, ev_w7⟩ := exa_v nv13
  have E_w7 : Exa s s.heap w7 zs7 := Exa.start ev_w7 nv13
  obtain ⟨w8, ev_w8⟩ := exa_v nv20
  have E_w8 : Exa s s.heap w8 zs7 := Exa.start ev_w8 nv20
  obtain ⟨w9, ev_w9⟩ := exa_v nv23
  have E_w9 : Exa s s.heap w9 zs7 := Exa.start ev_w9 nv23
  have ev76 := own_eqv nv6 ev_w2
  have Sg16 : Sta s s.heap zs7 "NONE" zs4 (.ref w2) := Sta.start ev76 (Or.inr ⟨(tw hw 2 rfl), (tw hw 14 rfl)⟩)
  have F_w2_bits : Fld s s.heap w2 zs7 "bits" "I" (.int 0) := Fld.start ((fld_at ev_w2).symm.trans (own_eqv nv4 (Term.int_eval (0))))
  have F_w4_bits : Fld s s.heap w4 zs7 "bits" "I" (.int 4) := Fld.start ((fld_at ev_w4).symm.trans (own_eqv nv8 (Term.int_eval (4))))
  have F_w5_bits : Fld s s.heap w5 zs7 "bits" "I" (.int 2) := Fld.start ((fld_at ev_w5).symm.trans (own_eqv nv10 (Term.int_eval (2))))
  have F_w6_bits : Fld s s.heap w6 zs7 "bits" "I" (.int 1) := Fld.start ((fld_at ev_w6).symm.trans (own_eqv nv12 (Term.int_eval (1))))
  have F_w7_bits : Fld s s.heap w7 zs7 "bits" "I" (.int 6) := Fld.start ((fld_at ev_w7).symm.trans (own_eqv nv15 (Term.int_eval (6))))
  have F_w8_bits : Fld s s.heap w8 zs7 "bits" "I" (.int 5) := Fld.start ((fld_at ev_w8).symm.trans (own_eqv nv21 (Term.int_eval (5))))
  have F_w9_bits : Fld s s.heap w9 zs7 "bits" "I" (.int 7) := Fld.start ((fld_at ev_w9).symm.trans (own_eqv nv26 (Term.int_eval (7))))
  have F_w3_bits : Fld s s.heap w3 zs7 "bits" "I" (.int 3) := Fld.start ((fld_at ev_w3).symm.trans (own_eqv nv28 (Term.int_eval (3))))
  obtain ⟨ql_w1, qe_w1⟩ := own_len ev_w1 Ar_w1 (own_eqv nv1 (Term.int_eval (8)))
  obtain ⟨kw1, ek_w1⟩ : ∃ z, z = cl_w1.cls := ⟨_, rfl⟩
  have V_w1 : Arv s s.heap w1 kw1 (.object zs7) (8 : Int32) [(.ref w2), (.ref w6), (.ref w5), (.ref w3), (.ref w4), (.ref w8), (.ref w7), (.ref w9)] .null := ek_w1 ▸ Arv.start hfit Ar_w1 ql_w1 qe_w1 (by decide) rfl ⟨(elem_in ev_w2 ev_w1 (Term.int_eval (0)) Ar_w1.1).2, (elem_in (own_eqv nv14 ev_w6) ev_w1 (Term.int_eval (1)) Ar_w1.1).2, (elem_in (own_eqv nv34 ev_w5) ev_w1 (Term.int_eval (2)) Ar_w1.1).2, (elem_in ev_w3 ev_w1 (Term.int_eval (3)) Ar_w1.1).2, (elem_in (own_eqv nv17 ev_w4) ev_w1 (Term.int_eval (4)) Ar_w1.1).2, (elem_in ev_w8 ev_w1 (Term.int_eval (5)) Ar_w1.1).2, (elem_in ev_w7 ev_w1 (Term.int_eval (6)) Ar_w1.1).2, (elem_in ev_w9 ev_w1 (Term.int_eval (7)) Ar_w1.1).2, trivial⟩
  have O0 := Old.start s
  obtain ⟨n, o, h1, h2, h3, _, L, rfl, ⟨rfl, N⟩, hq⟩ := rm0 l s _ hw tables_1 p0s p1s GC GF w1 w2 w3 w4 w5 w6 w7 w8 w9 kw1 s.heap s.heap.size (Nat.le_refl _) O0 Sg0 Sg1 rGF nzGC Sg4 E_w2 E_w3 Sg7 E_w4 Sg9 E_w5 Sg11 E_w6 E_w7 E_w8 E_w9 Sg16 F_w2_bits F_w4_bits F_w5_bits F_w6_bits F_w7_bits F_w8_bits F_w9_bits F_w3_bits V_w1 p e ha hc hk s m _ below hf ((Spec.applies_iff_loose hf).mp happ).1 ⟨rfl, State.Warmed39.refl s, rfl⟩ trivial
  refine ⟨n, _, h1, h2, h3, hpost _ _ _ _ _ _ ⟨Cond.after_iff.mpr rfl, Cond.after_iff.mpr (eq_i res_at (Term.int_eval (1)) rfl), trivial⟩ ⟨hq.1, hq.2.1, (hq.2.2.sift fun y hy => Or.inr (N y hy)).mono (by decide) (by decide)⟩⟩
theorem main_1_1 : Claimed_1_1 := comes_1 fun _ _ _ _ _ _ h hF => ⟨h.1, hF⟩
theorem main_1_2 : Claimed_1_2 := comes_1 fun _ _ _ _ _ _ h hF => ⟨h.2.1, hF⟩
end Jvm.Pilot.@@N@@
namespace Jvm.Pilot.@@N@@
open Jvm Jvm.ClassFile Sem Op Lib Jvm.Free Jvm.Stand Jvm.Pilot.@@N@@.Jvm.D
/-! MADE BY PROGRAM (witnessworld.py) out of the Statement's table words and the real class files: 21 classes; the members and pool entries that the words name. The judged class is class 1, her method 2. -/
namespace start1
open Jvm.ClassFile
def u (s : String) : CpInfo := .utf8 (stringToUtf16 s)
/-- a pool by its gaps: so many unusable entries, then the entry; so many at the end -/
def gap : Nat → List CpInfo → List CpInfo
  | 0, r => r
  | n + 1, r => .unusable :: gap n r
def poolList (es : List (Nat × CpInfo)) (last : Nat) : List CpInfo := es.foldr (fun e r => gap e.1 (e.2 :: r)) (gap last [])
def pool (es : List (Nat × CpInfo)) (last : Nat) : Array CpInfo := ⟨poolList es last⟩
def fileOf (pool : Array CpInfo) (this : Nat) (attrs : Array Attribute := #[]) (ms : Array MethodInfo := #[]) (fl : Nat := 33) (sup : Nat := 0) (ifs : Array Nat := #[]) (fds : Array FieldInfo := #[]) : ClassFile where
  minorVersion := 0
  majorVersion := 65
  constantPool := pool
  accessFlags := fl
  thisClass := this
  superClass := sup
  interfaces := ifs
  fields := fds
  methods := ms
  attributes := attrs
def plain (name : String) (sup : Option ClassId) : Class where
  name := name
  kind := .ordinary
  loader := none
  accessFlags := 33
  super := sup
  interfaces := #[]
  cf := none
  fields := #[]
  methods := #[]
  instanceTypes := #[]
  staticTypes := #[]
  resolved := #[]
  callSites := []
  init := .initialized
  statics := none
  mirror := none

def pool0 : Array CpInfo := pool [(5, u "<init>"), (0, u "()V"), (1, .class_ 10), (1, u "java/lang/Object")] 113

def k0c0 : Code := { maxStack := 0, maxLocals := 1, code := object_method_1_code, exceptionTable := #[], attributes := #[] }
def k0m0 : Method := { name := "<init>", desc := "()V", sig := { parameters := [], returnType := none }, accessFlags := 1, code := some k0c0 }
/-- java/lang/Object -/
def k0 : Class := { plain "java/lang/Object" none with
  accessFlags := 33
  interfaces := #[]
  cf := some (fileOf pool0 8 #[] #[{ accessFlags := 1, nameIndex := 5, descriptorIndex := 6, attributes := #[] }] 33 0 #[] #[])
  fields := #[]
  methods := #[k0m0]
  instanceTypes := #[]
  staticTypes := #[]
  resolved := Array.replicate 124 none
  statics := none }

def pool1 : Array CpInfo := pool [(2, .class_ 4), (1, u "java/lang/Object"), (0, u "<init>"), (0, u "()V"), (0, .methodref 8 9), (0, .class_ 10), (0, .nameAndType 11 12), (0, u "com/example/umask/umask/Rights"), (0, u "of"), (0, u "(I)Lcom/example/umask/umask/Rights;"), (0, .methodref 8 14), (0, .nameAndType 15 16), (0, u "bits"), (0, u "()I"), (0, .fieldref 8 18), (0, .nameAndType 19 20), (0, u "NONE"), (0, u "Lcom/example/umask/umask/Rights;"), (0, .fieldref 8 22), (0, .nameAndType 23 20), (0, u "READ"), (0, .fieldref 8 25), (0, .nameAndType 26 20), (0, u "WRITE"), (0, .fieldref 8 28), (0, .nameAndType 29 20), (0, u "EXECUTE"), (0, .methodref 8 31), (0, .nameAndType 32 33), (0, u "toString"), (0, u "()Ljava/lang/String;"), (0, .methodref 35 36), (0, .class_ 37), (0, .nameAndType 38 16), (0, u "java/lang/String"), (0, u "length"), (0, .methodref 35 40), (0, .nameAndType 41 42), (0, u "charAt"), (0, u "(I)C"), (0, .methodref 44 45), (0, .class_ 46), (0, .nameAndType 47 48), (0, u "com/example/umask/umask/RightsOfPinLaw"), (0, u "expect"), (0, u "(IIC)C"), (3, u "law"), (0, u "(II)Z")] 2

def k1m0 : Method := { name := "<init>", desc := "()V", sig := { parameters := [], returnType := none }, accessFlags := 1, code := none }
def k1c1 : Code := { maxStack := 2, maxLocals := 3, code := method_2_code, exceptionTable := #[], attributes := #[] }
def k1m1 : Method := { name := "expect", desc := "(IIC)C", sig := { parameters := [.int, .int, .char], returnType := some .char }, accessFlags := 10, code := some k1c1 }
def k1c2 : Code := { maxStack := 4, maxLocals := 7, code := code, exceptionTable := #[], attributes := #[] }
def k1m2 : Method := { name := "law", desc := "(II)Z", sig := { parameters := [.int, .int], returnType := some .boolean }, accessFlags := 9, code := some k1c2 }
/-- com/example/umask/umask/RightsOfPinLaw -/
def k1 : Class := { plain "com/example/umask/umask/RightsOfPinLaw" (some 0) with
  accessFlags := 49
  interfaces := #[]
  cf := some (fileOf pool1 44 #[] #[{ accessFlags := 1, nameIndex := 5, descriptorIndex := 6, attributes := #[] }, { accessFlags := 10, nameIndex := 47, descriptorIndex := 48, attributes := #[] }, { accessFlags := 9, nameIndex := 52, descriptorIndex := 53, attributes := #[] }] 49 2 #[] #[])
  fields := #[]
  methods := #[k1m0, k1m1, k1m2]
  instanceTypes := #[]
  staticTypes := #[]
  resolved := Array.replicate 56 none
  statics := none }

def pool2 : Array CpInfo := pool [(2, .class_ 4), (1, u "java/lang/Object"), (0, u "<init>"), (1, .fieldref 8 9), (0, .class_ 10), (0, .nameAndType 11 12), (0, u "com/example/umask/umask/Rights"), (0, u "bits"), (0, u "I"), (9, .fieldref 8 23), (0, .nameAndType 24 25), (0, u "SETS"), (0, u "[Lcom/example/umask/umask/Rights;"), (0, .class_ 27), (0, u "java/lang/String"), (0, .fieldref 8 29), (0, .nameAndType 30 31), (0, u "READ"), (0, u "Lcom/example/umask/umask/Rights;"), (0, .methodref 8 33), (0, .nameAndType 34 35), (0, u "letter"), (0, u "(Lcom/example/umask/umask/Rights;C)C"), (0, .fieldref 8 37), (0, .nameAndType 38 31), (0, u "WRITE"), (0, .fieldref 8 40), (0, .nameAndType 41 31), (0, u "EXECUTE"), (0, .methodref 26 43), (0, .nameAndType 5 44), (0, u "([C)V"), (0, .methodref 8 46), (0, .nameAndType 47 48), (0, u "containsAll"), (0, u "(Lcom/example/umask/umask/Rights;)Z"), (5, u "NONE"), (0, u "ALL_BITS"), (4, u "of"), (0, u "(I)Lcom/example/umask/umask/Rights;"), (1, u "()I"), (0, u "toString"), (0, u "()Ljava/lang/String;")] 18

def k2c0 : Code := { maxStack := 3, maxLocals := 1, code := prog_35_method_2_code, exceptionTable := #[], attributes := #[] }
def k2m0 : Method := { name := "of", desc := "(I)Lcom/example/umask/umask/Rights;", sig := { parameters := [.int], returnType := some (.object "com/example/umask/umask/Rights") }, accessFlags := 9, code := some k2c0 }
def k2c1 : Code := { maxStack := 1, maxLocals := 1, code := prog_35_method_3_code, exceptionTable := #[], attributes := #[] }
def k2m1 : Method := { name := "bits", desc := "()I", sig := { parameters := [], returnType := some .int }, accessFlags := 1, code := some k2c1 }
def k2c2 : Code := { maxStack := 3, maxLocals := 2, code := prog_35_method_4_code, exceptionTable := #[], attributes := #[] }
def k2m2 : Method := { name := "containsAll", desc := "(Lcom/example/umask/umask/Rights;)Z", sig := { parameters := [(.object "com/example/umask/umask/Rights")], returnType := some .boolean }, accessFlags := 1, code := some k2c2 }
def k2c3 : Code := { maxStack := 8, maxLocals := 1, code := prog_35_method_5_code, exceptionTable := #[], attributes := #[] }
def k2m3 : Method := { name := "toString", desc := "()Ljava/lang/String;", sig := { parameters := [], returnType := some (.object "java/lang/String") }, accessFlags := 1, code := some k2c3 }
def k2c4 : Code := { maxStack := 2, maxLocals := 3, code := prog_35_method_6_code, exceptionTable := #[], attributes := #[] }
def k2m4 : Method := { name := "letter", desc := "(Lcom/example/umask/umask/Rights;C)C", sig := { parameters := [(.object "com/example/umask/umask/Rights"), .char], returnType := some .char }, accessFlags := 2, code := some k2c4 }
/-- com/example/umask/umask/Rights -/
def k2 : Class := { plain "com/example/umask/umask/Rights" (some 0) with
  accessFlags := 33
  interfaces := #[]
  cf := some (fileOf pool2 8 #[] #[{ accessFlags := 9, nameIndex := 60, descriptorIndex := 61, attributes := #[] }, { accessFlags := 1, nameIndex := 11, descriptorIndex := 63, attributes := #[] }, { accessFlags := 1, nameIndex := 47, descriptorIndex := 48, attributes := #[] }, { accessFlags := 1, nameIndex := 64, descriptorIndex := 65, attributes := #[] }, { accessFlags := 2, nameIndex := 34, descriptorIndex := 35, attributes := #[] }] 33 2 #[] #[{ accessFlags := 26, nameIndex := 55, descriptorIndex := 12, attributes := #[] }, { accessFlags := 26, nameIndex := 24, descriptorIndex := 25, attributes := #[] }, { accessFlags := 25, nameIndex := 54, descriptorIndex := 31, attributes := #[] }, { accessFlags := 25, nameIndex := 30, descriptorIndex := 31, attributes := #[] }, { accessFlags := 25, nameIndex := 38, descriptorIndex := 31, attributes := #[] }, { accessFlags := 25, nameIndex := 41, descriptorIndex := 31, attributes := #[] }, { accessFlags := 18, nameIndex := 11, descriptorIndex := 12, attributes := #[] }])
  fields := #[{ name := "ALL_BITS", type := .int, accessFlags := 26, slot := 0, constantValue := 0 }, { name := "SETS", type := (.array (.object "com/example/umask/umask/Rights")), accessFlags := 26, slot := 1, constantValue := 0 }, { name := "NONE", type := (.object "com/example/umask/umask/Rights"), accessFlags := 25, slot := 2, constantValue := 0 }, { name := "READ", type := (.object "com/example/umask/umask/Rights"), accessFlags := 25, slot := 3, constantValue := 0 }, { name := "WRITE", type := (.object "com/example/umask/umask/Rights"), accessFlags := 25, slot := 4, constantValue := 0 }, { name := "EXECUTE", type := (.object "com/example/umask/umask/Rights"), accessFlags := 25, slot := 5, constantValue := 0 }, { name := "bits", type := .int, accessFlags := 18, slot := 0, constantValue := 0 }]
  methods := #[k2m0, k2m1, k2m2, k2m3, k2m4]
  instanceTypes := #[.int]
  staticTypes := #[.int, (.array (.object "com/example/umask/umask/Rights")), (.object "com/example/umask/umask/Rights"), (.object "com/example/umask/umask/Rights"), (.object "com/example/umask/umask/Rights"), (.object "com/example/umask/umask/Rights")]
  resolved := Array.replicate 84 none
  statics := some 0 }

def pool3 : Array CpInfo := pool [(1, .class_ 2), (0, u "java/io/Serializable"), (0, .class_ 4), (0, u "java/lang/Object")] 2

/-- java/io/Serializable -/
def k3 : Class := { plain "java/io/Serializable" (some 0) with
  accessFlags := 1537
  interfaces := #[]
  cf := some (fileOf pool3 1 #[] #[] 1537 3 #[] #[])
  fields := #[]
  methods := #[]
  instanceTypes := #[]
  staticTypes := #[]
  resolved := Array.replicate 7 none
  statics := none }

def pool4 : Array CpInfo := pool [(1, .class_ 2), (0, u "java/lang/Comparable"), (0, .class_ 4), (0, u "java/lang/Object")] 7

/-- java/lang/Comparable -/
def k4 : Class := { plain "java/lang/Comparable" (some 0) with
  accessFlags := 1537
  interfaces := #[]
  cf := some (fileOf pool4 1 #[] #[] 1537 3 #[] #[])
  fields := #[]
  methods := #[]
  instanceTypes := #[]
  staticTypes := #[]
  resolved := Array.replicate 12 none
  statics := none }

def pool5 : Array CpInfo := pool [(2, .class_ 4), (1, u "java/lang/CharSequence"), (42, .class_ 48), (0, u "java/lang/CharSequence$1CodePointIterator"), (10, .class_ 60), (0, u "java/lang/CharSequence$1CharIterator"), (5, .class_ 67), (0, u "java/lang/Object")] 63

/-- java/lang/CharSequence -/
def k5 : Class := { plain "java/lang/CharSequence" (some 0) with
  accessFlags := 1537
  interfaces := #[]
  cf := some (fileOf pool5 2 #[.nestMembers #[47, 59]] #[] 1537 66 #[] #[])
  fields := #[]
  methods := #[]
  instanceTypes := #[]
  staticTypes := #[]
  resolved := Array.replicate 131 none
  statics := none }

def pool6 : Array CpInfo := pool [(1, .class_ 2), (0, u "java/lang/constant/Constable"), (0, .class_ 4), (0, u "java/lang/Object")] 6

/-- java/lang/constant/Constable -/
def k6 : Class := { plain "java/lang/constant/Constable" (some 0) with
  accessFlags := 1537
  interfaces := #[]
  cf := some (fileOf pool6 1 #[] #[] 1537 3 #[] #[])
  fields := #[]
  methods := #[]
  instanceTypes := #[]
  staticTypes := #[]
  resolved := Array.replicate 11 none
  statics := none }

def pool7 : Array CpInfo := pool [(1, .class_ 2), (0, u "java/lang/constant/ConstantDesc"), (0, .class_ 4), (0, u "java/lang/Object")] 32

/-- java/lang/constant/ConstantDesc -/
def k7 : Class := { plain "java/lang/constant/ConstantDesc" (some 0) with
  accessFlags := 1537
  interfaces := #[]
  cf := some (fileOf pool7 1 #[] #[] 1537 3 #[] #[])
  fields := #[]
  methods := #[]
  instanceTypes := #[]
  staticTypes := #[]
  resolved := Array.replicate 37 none
  statics := none }

def pool8 : Array CpInfo := pool [(1, .methodref 2 3), (0, .class_ 4), (0, .nameAndType 5 6), (0, u "java/lang/Object"), (0, u "<init>"), (0, u "()V"), (2, .fieldref 10 11), (0, .class_ 12), (0, .nameAndType 13 14), (0, u "java/lang/String"), (0, u "value"), (0, u "[B"), (0, .fieldref 10 16), (0, .nameAndType 17 18), (0, u "coder"), (0, u "B"), (2, u "hash"), (0, u "I"), (2, u "hashIsZero"), (0, u "Z"), (0, .methodref 10 28), (0, .nameAndType 5 29), (0, u "([CIILjava/lang/Void;)V"), (8, .fieldref 10 39), (0, .nameAndType 40 26), (0, u "COMPACT_STRINGS"), (1, .class_ 44), (1, u "java/lang/StringUTF16"), (0, u "compress"), (1, .methodref 42 48), (0, .nameAndType 49 50), (0, u "coderFromArrayLen"), (0, u "([BI)B"), (56, .class_ 109), (1, u "java/lang/StringLatin1"), (32, u "()Z"), (34, .methodref 42 178), (0, .nameAndType 45 179), (0, u "([CII)[B"), (154, u "()I"), (0, .methodref 10 336), (0, .nameAndType 17 337), (0, u "()B"), (25, u "([BI)C"), (27, u "(II)V"), (35, u "(I)C"), (64, .methodref 10 493), (0, .nameAndType 494 142), (0, u "isLatin1"), (0, .methodref 107 496), (0, .nameAndType 497 363), (0, u "charAt"), (3, u "checkIndex"), (5, u "length"), (67, .class_ 576), (0, u "java/lang/CharSequence"), (22, u "CASE_INSENSITIVE_ORDER"), (0, u "Ljava/util/Comparator;"), (409, u "([C)V"), (42, .fieldref 1054 1055), (0, .class_ 1056), (0, .nameAndType 1057 1058), (0, u "jdk/internal/util/Preconditions"), (0, u "SIOOBE_FORMATTER"), (0, u "Ljava/util/function/BiFunction;"), (0, .methodref 1054 1060), (0, .nameAndType 501 1061), (0, u "(IILjava/util/function/BiFunction;)I"), (39, u "serialPersistentFields"), (0, u "[Ljava/io/ObjectStreamField;"), (0, .class_ 1104), (0, u "java/lang/String$CaseInsensitiveComparator"), (1, .class_ 1107), (0, u "java/io/Serializable"), (0, .class_ 1109), (0, u "java/lang/Comparable"), (0, .class_ 1111), (0, u "java/lang/constant/Constable"), (0, .class_ 1113), (0, u "java/lang/constant/ConstantDesc"), (2, u "serialVersionUID"), (0, u "J"), (3, u "REPL"), (0, u "C"), (2, u "LATIN1"), (1, u "UTF16")] 323

def k8m0 : Method := { name := "<init>", desc := "()V", sig := { parameters := [], returnType := none }, accessFlags := 1, code := none }
def k8c1 : Code := { maxStack := 5, maxLocals := 2, code := jdk_42_method_3_code, exceptionTable := #[], attributes := #[] }
def k8m1 : Method := { name := "<init>", desc := "([C)V", sig := { parameters := [(.array .char)], returnType := none }, accessFlags := 1, code := some k8c1 }
def k8c2 : Code := { maxStack := 2, maxLocals := 1, code := jdk_42_method_54_code, exceptionTable := #[], attributes := #[] }
def k8m2 : Method := { name := "length", desc := "()I", sig := { parameters := [], returnType := some .int }, accessFlags := 1, code := some k8c2 }
def k8c3 : Code := { maxStack := 2, maxLocals := 2, code := jdk_42_method_56_code, exceptionTable := #[], attributes := #[] }
def k8m3 : Method := { name := "charAt", desc := "(I)C", sig := { parameters := [.int], returnType := some .char }, accessFlags := 1, code := some k8c3 }
def k8c4 : Code := { maxStack := 4, maxLocals := 6, code := jdk_42_method_149_code, exceptionTable := #[], attributes := #[] }
def k8m4 : Method := { name := "<init>", desc := "([CIILjava/lang/Void;)V", sig := { parameters := [(.array .char), .int, .int, (.object "java/lang/Void")], returnType := none }, accessFlags := 2, code := some k8c4 }
def k8c5 : Code := { maxStack := 1, maxLocals := 1, code := jdk_42_method_152_code, exceptionTable := #[], attributes := #[] }
def k8m5 : Method := { name := "coder", desc := "()B", sig := { parameters := [], returnType := some .byte }, accessFlags := 0, code := some k8c5 }
def k8c6 : Code := { maxStack := 1, maxLocals := 1, code := jdk_42_method_154_code, exceptionTable := #[], attributes := #[] }
def k8m6 : Method := { name := "isLatin1", desc := "()Z", sig := { parameters := [], returnType := some .boolean }, accessFlags := 0, code := some k8c6 }
def k8c7 : Code := { maxStack := 3, maxLocals := 2, code := jdk_42_method_155_code, exceptionTable := #[], attributes := #[] }
def k8m7 : Method := { name := "checkIndex", desc := "(II)V", sig := { parameters := [.int, .int], returnType := none }, accessFlags := 8, code := some k8c7 }
/-- java/lang/String -/
def k8 : Class := { plain "java/lang/String" (some 0) with
  accessFlags := 49
  interfaces := #[3, 4, 5, 6, 7]
  cf := some (fileOf pool8 10 #[.nestMembers #[1103]] #[{ accessFlags := 1, nameIndex := 5, descriptorIndex := 6, attributes := #[] }, { accessFlags := 1, nameIndex := 5, descriptorIndex := 1010, attributes := #[] }, { accessFlags := 1, nameIndex := 507, descriptorIndex := 334, attributes := #[] }, { accessFlags := 1, nameIndex := 497, descriptorIndex := 427, attributes := #[] }, { accessFlags := 2, nameIndex := 5, descriptorIndex := 29, attributes := #[] }, { accessFlags := 0, nameIndex := 17, descriptorIndex := 337, attributes := #[] }, { accessFlags := 0, nameIndex := 494, descriptorIndex := 142, attributes := #[] }, { accessFlags := 8, nameIndex := 501, descriptorIndex := 391, attributes := #[] }] 49 2 #[1106, 1108, 575, 1110, 1112] #[{ accessFlags := 18, nameIndex := 13, descriptorIndex := 14, attributes := #[] }, { accessFlags := 18, nameIndex := 17, descriptorIndex := 18, attributes := #[] }, { accessFlags := 2, nameIndex := 21, descriptorIndex := 22, attributes := #[] }, { accessFlags := 2, nameIndex := 25, descriptorIndex := 26, attributes := #[] }, { accessFlags := 26, nameIndex := 1116, descriptorIndex := 1117, attributes := #[] }, { accessFlags := 24, nameIndex := 40, descriptorIndex := 26, attributes := #[] }, { accessFlags := 26, nameIndex := 1101, descriptorIndex := 1102, attributes := #[] }, { accessFlags := 26, nameIndex := 1121, descriptorIndex := 1122, attributes := #[] }, { accessFlags := 25, nameIndex := 599, descriptorIndex := 600, attributes := #[] }, { accessFlags := 24, nameIndex := 1125, descriptorIndex := 18, attributes := #[] }, { accessFlags := 24, nameIndex := 1127, descriptorIndex := 18, attributes := #[] }])
  fields := #[{ name := "value", type := (.array .byte), accessFlags := 18, slot := 0, constantValue := 0 }, { name := "coder", type := .byte, accessFlags := 18, slot := 1, constantValue := 0 }, { name := "hash", type := .int, accessFlags := 2, slot := 2, constantValue := 0 }, { name := "hashIsZero", type := .boolean, accessFlags := 2, slot := 3, constantValue := 0 }, { name := "serialVersionUID", type := .long, accessFlags := 26, slot := 0, constantValue := 0 }, { name := "COMPACT_STRINGS", type := .boolean, accessFlags := 24, slot := 1, constantValue := 0 }, { name := "serialPersistentFields", type := (.array (.object "java/io/ObjectStreamField")), accessFlags := 26, slot := 2, constantValue := 0 }, { name := "REPL", type := .char, accessFlags := 26, slot := 3, constantValue := 0 }, { name := "CASE_INSENSITIVE_ORDER", type := (.object "java/util/Comparator"), accessFlags := 25, slot := 4, constantValue := 0 }, { name := "LATIN1", type := .byte, accessFlags := 24, slot := 5, constantValue := 0 }, { name := "UTF16", type := .byte, accessFlags := 24, slot := 6, constantValue := 0 }]
  methods := #[k8m0, k8m1, k8m2, k8m3, k8m4, k8m5, k8m6, k8m7]
  instanceTypes := #[(.array .byte), .byte, .int, .boolean]
  staticTypes := #[.long, .boolean, (.array (.object "java/io/ObjectStreamField")), .char, (.object "java/util/Comparator"), .byte, .byte]
  resolved := Array.replicate 1451 none
  statics := some 1 }

def pool9 : Array CpInfo := pool [(6, .class_ 8), (1, u "java/lang/Object"), (0, u "<init>"), (0, u "()V"), (1, .class_ 14), (1, u "java/lang/StringUTF16"), (31, u "$assertionsDisabled"), (0, u "Z"), (13, u "HI_BYTE_SHIFT"), (0, u "I"), (2, u "LO_BYTE_SHIFT"), (49, .methodref 12 116), (0, .nameAndType 117 118), (0, u "compress"), (0, u "([CI[BII)I"), (3, u "([CII)[B"), (138, u "coderFromArrayLen"), (0, u "([BI)B"), (106, .class_ 371), (1, u "java/lang/StringUTF16$LinesSpliterator"), (58, u "MAX_LENGTH"), (196, .class_ 628), (0, u "java/lang/StringUTF16$CodePointsSpliterator"), (0, .class_ 630), (0, u "java/lang/StringUTF16$CharsSpliterator")] 4

def k9m0 : Method := { name := "<init>", desc := "()V", sig := { parameters := [], returnType := none }, accessFlags := 0, code := none }
def k9c1 : Code := { maxStack := 2, maxLocals := 2, code := jdk_52_method_15_code, exceptionTable := #[], attributes := #[] }
def k9m1 : Method := { name := "coderFromArrayLen", desc := "([BI)B", sig := { parameters := [(.array .byte), .int], returnType := some .byte }, accessFlags := 8, code := some k9c1 }
def k9c2 : Code := { maxStack := 5, maxLocals := 6, code := jdk_52_method_16_code, exceptionTable := #[], attributes := #[] }
def k9m2 : Method := { name := "compress", desc := "([CII)[B", sig := { parameters := [(.array .char), .int, .int], returnType := some (.array .byte) }, accessFlags := 9, code := some k9c2 }
def k9c3 : Code := { maxStack := 3, maxLocals := 7, code := jdk_52_method_21_code, exceptionTable := #[], attributes := #[] }
def k9m3 : Method := { name := "compress", desc := "([CI[BII)I", sig := { parameters := [(.array .char), .int, (.array .byte), .int, .int], returnType := some .int }, accessFlags := 9, code := some k9c3 }
/-- java/lang/StringUTF16 -/
def k9 : Class := { plain "java/lang/StringUTF16" (some 0) with
  accessFlags := 48
  interfaces := #[]
  cf := some (fileOf pool9 12 #[.nestMembers #[627, 629, 369]] #[{ accessFlags := 0, nameIndex := 9, descriptorIndex := 10, attributes := #[] }, { accessFlags := 8, nameIndex := 261, descriptorIndex := 262, attributes := #[] }, { accessFlags := 9, nameIndex := 117, descriptorIndex := 122, attributes := #[] }, { accessFlags := 9, nameIndex := 117, descriptorIndex := 118, attributes := #[] }] 48 6 #[] #[{ accessFlags := 26, nameIndex := 61, descriptorIndex := 62, attributes := #[] }, { accessFlags := 26, nameIndex := 65, descriptorIndex := 62, attributes := #[] }, { accessFlags := 24, nameIndex := 430, descriptorIndex := 62, attributes := #[] }, { accessFlags := 4120, nameIndex := 46, descriptorIndex := 47, attributes := #[] }])
  fields := #[{ name := "HI_BYTE_SHIFT", type := .int, accessFlags := 26, slot := 0, constantValue := 0 }, { name := "LO_BYTE_SHIFT", type := .int, accessFlags := 26, slot := 1, constantValue := 0 }, { name := "MAX_LENGTH", type := .int, accessFlags := 24, slot := 2, constantValue := 0 }, { name := "$assertionsDisabled", type := .boolean, accessFlags := 4120, slot := 3, constantValue := 0 }]
  methods := #[k9m0, k9m1, k9m2, k9m3]
  instanceTypes := #[]
  staticTypes := #[.int, .int, .int, .boolean]
  resolved := Array.replicate 635 none
  statics := none }

def pool10 : Array CpInfo := pool [(1, .class_ 2), (0, u "java/lang/String"), (1, .class_ 6), (1, u "java/lang/Object"), (0, u "<init>"), (0, u "()V"), (0, .methodref 1 10), (0, .nameAndType 11 12), (0, u "checkIndex"), (0, u "(II)V"), (1, .class_ 16), (1, u "java/lang/StringLatin1"), (36, u "([BI)C"), (67, u "$assertionsDisabled"), (0, u "Z"), (98, .class_ 223), (1, u "java/lang/StringLatin1$LinesSpliterator"), (28, u "charAt"), (137, .class_ 391), (0, u "java/lang/StringLatin1$CharsSpliterator")] 3

def k10m0 : Method := { name := "<init>", desc := "()V", sig := { parameters := [], returnType := none }, accessFlags := 0, code := none }
def k10c1 : Code := { maxStack := 2, maxLocals := 2, code := jdk_43_method_2_code, exceptionTable := #[], attributes := #[] }
def k10m1 : Method := { name := "charAt", desc := "([BI)C", sig := { parameters := [(.array .byte), .int], returnType := some .char }, accessFlags := 9, code := some k10c1 }
/-- java/lang/StringLatin1 -/
def k10 : Class := { plain "java/lang/StringLatin1" (some 0) with
  accessFlags := 48
  interfaces := #[]
  cf := some (fileOf pool10 14 #[.nestMembers #[390, 221]] #[{ accessFlags := 0, nameIndex := 7, descriptorIndex := 8, attributes := #[] }, { accessFlags := 9, nameIndex := 252, descriptorIndex := 53, attributes := #[] }] 48 4 #[] #[{ accessFlags := 4120, nameIndex := 121, descriptorIndex := 122, attributes := #[] }])
  fields := #[{ name := "$assertionsDisabled", type := .boolean, accessFlags := 4120, slot := 0, constantValue := 0 }]
  methods := #[k10m0, k10m1]
  instanceTypes := #[]
  staticTypes := #[.boolean]
  resolved := Array.replicate 395 none
  statics := none }

def pool11 : Array CpInfo := pool [(2, .class_ 4), (1, u "java/lang/Object"), (0, u "<init>"), (0, u "()V"), (17, .class_ 26), (1, u "jdk/internal/util/Preconditions"), (6, u "checkIndex"), (21, .class_ 56), (0, u "jdk/internal/util/Preconditions$4"), (57, .class_ 115), (0, u "jdk/internal/util/Preconditions$1"), (7, u "SIOOBE_FORMATTER"), (0, u "Ljava/util/function/BiFunction;"), (0, .class_ 126), (0, u "jdk/internal/util/Preconditions$2"), (3, u "AIOOBE_FORMATTER"), (0, .class_ 132), (0, u "jdk/internal/util/Preconditions$3"), (3, u "IOOBE_FORMATTER"), (41, u "(IILjava/util/function/BiFunction;)I")] 15

def k11m0 : Method := { name := "<init>", desc := "()V", sig := { parameters := [], returnType := none }, accessFlags := 1, code := none }
def k11c1 : Code := { maxStack := 3, maxLocals := 3, code := jdk_41_method_11_code, exceptionTable := #[], attributes := #[] }
def k11m1 : Method := { name := "checkIndex", desc := "(IILjava/util/function/BiFunction;)I", sig := { parameters := [.int, .int, (.object "java/util/function/BiFunction")], returnType := some .int }, accessFlags := 9, code := some k11c1 }
/-- jdk/internal/util/Preconditions -/
def k11 : Class := { plain "jdk/internal/util/Preconditions" (some 0) with
  accessFlags := 33
  interfaces := #[]
  cf := some (fileOf pool11 24 #[.nestMembers #[55, 131, 125, 114]] #[{ accessFlags := 1, nameIndex := 5, descriptorIndex := 6, attributes := #[] }, { accessFlags := 9, nameIndex := 33, descriptorIndex := 178, attributes := #[] }] 33 2 #[] #[{ accessFlags := 25, nameIndex := 123, descriptorIndex := 124, attributes := #[] }, { accessFlags := 25, nameIndex := 130, descriptorIndex := 124, attributes := #[] }, { accessFlags := 25, nameIndex := 136, descriptorIndex := 124, attributes := #[] }])
  fields := #[{ name := "SIOOBE_FORMATTER", type := (.object "java/util/function/BiFunction"), accessFlags := 25, slot := 0, constantValue := 0 }, { name := "AIOOBE_FORMATTER", type := (.object "java/util/function/BiFunction"), accessFlags := 25, slot := 1, constantValue := 0 }, { name := "IOOBE_FORMATTER", type := (.object "java/util/function/BiFunction"), accessFlags := 25, slot := 2, constantValue := 0 }]
  methods := #[k11m0, k11m1]
  instanceTypes := #[]
  staticTypes := #[(.object "java/util/function/BiFunction"), (.object "java/util/function/BiFunction"), (.object "java/util/function/BiFunction")]
  resolved := Array.replicate 194 none
  statics := some 2 }

def pool12 : Array CpInfo := pool [(9, u "<init>"), (6, .class_ 18), (1, u "java/lang/Object"), (0, u "()V"), (1, .class_ 23), (1, u "jdk/internal/util/ArraysSupport"), (0, u "LOG2_ARRAY_LONG_INDEX_SCALE"), (0, u "I"), (2, u "U"), (0, u "Ljdk/internal/misc/Unsafe;"), (8, u "BIG_ENDIAN"), (0, u "Z"), (8, u "LOG2_BYTE_BIT_SIZE"), (4, u "LOG2_ARRAY_INT_INDEX_SCALE"), (54, u "JLA"), (0, u "Ljdk/internal/access/JavaLangAccess;"), (11, u "LOG2_ARRAY_BOOLEAN_INDEX_SCALE"), (9, u "LOG2_ARRAY_BYTE_INDEX_SCALE"), (5, u "LOG2_ARRAY_CHAR_INDEX_SCALE"), (5, u "LOG2_ARRAY_SHORT_INDEX_SCALE"), (18, u "LOG2_ARRAY_FLOAT_INDEX_SCALE"), (24, u "LOG2_ARRAY_DOUBLE_INDEX_SCALE"), (89, u "T_BOOLEAN"), (2, u "T_CHAR"), (1, u "T_FLOAT"), (1, u "T_DOUBLE"), (1, u "T_BYTE"), (1, u "T_SHORT"), (1, u "T_INT"), (1, u "T_LONG"), (1, u "SOFT_MAX_ARRAY_LENGTH")] 83

def k12m0 : Method := { name := "<init>", desc := "()V", sig := { parameters := [], returnType := none }, accessFlags := 2, code := none }
/-- jdk/internal/util/ArraysSupport -/
def k12 : Class := { plain "jdk/internal/util/ArraysSupport" (some 0) with
  accessFlags := 33
  interfaces := #[]
  cf := some (fileOf pool12 21 #[] #[{ accessFlags := 2, nameIndex := 9, descriptorIndex := 19, attributes := #[] }] 33 16 #[] #[{ accessFlags := 24, nameIndex := 28, descriptorIndex := 29, attributes := #[] }, { accessFlags := 26, nameIndex := 38, descriptorIndex := 39, attributes := #[] }, { accessFlags := 25, nameIndex := 121, descriptorIndex := 25, attributes := #[] }, { accessFlags := 25, nameIndex := 131, descriptorIndex := 25, attributes := #[] }, { accessFlags := 25, nameIndex := 137, descriptorIndex := 25, attributes := #[] }, { accessFlags := 25, nameIndex := 143, descriptorIndex := 25, attributes := #[] }, { accessFlags := 25, nameIndex := 53, descriptorIndex := 25, attributes := #[] }, { accessFlags := 25, nameIndex := 24, descriptorIndex := 25, attributes := #[] }, { accessFlags := 25, nameIndex := 162, descriptorIndex := 25, attributes := #[] }, { accessFlags := 25, nameIndex := 187, descriptorIndex := 25, attributes := #[] }, { accessFlags := 26, nameIndex := 48, descriptorIndex := 25, attributes := #[] }, { accessFlags := 25, nameIndex := 277, descriptorIndex := 25, attributes := #[] }, { accessFlags := 25, nameIndex := 280, descriptorIndex := 25, attributes := #[] }, { accessFlags := 25, nameIndex := 282, descriptorIndex := 25, attributes := #[] }, { accessFlags := 25, nameIndex := 284, descriptorIndex := 25, attributes := #[] }, { accessFlags := 25, nameIndex := 286, descriptorIndex := 25, attributes := #[] }, { accessFlags := 25, nameIndex := 288, descriptorIndex := 25, attributes := #[] }, { accessFlags := 25, nameIndex := 290, descriptorIndex := 25, attributes := #[] }, { accessFlags := 25, nameIndex := 292, descriptorIndex := 25, attributes := #[] }, { accessFlags := 26, nameIndex := 108, descriptorIndex := 109, attributes := #[] }, { accessFlags := 25, nameIndex := 294, descriptorIndex := 25, attributes := #[] }])
  fields := #[{ name := "U", type := (.object "jdk/internal/misc/Unsafe"), accessFlags := 24, slot := 0, constantValue := 0 }, { name := "BIG_ENDIAN", type := .boolean, accessFlags := 26, slot := 1, constantValue := 0 }, { name := "LOG2_ARRAY_BOOLEAN_INDEX_SCALE", type := .int, accessFlags := 25, slot := 2, constantValue := 0 }, { name := "LOG2_ARRAY_BYTE_INDEX_SCALE", type := .int, accessFlags := 25, slot := 3, constantValue := 0 }, { name := "LOG2_ARRAY_CHAR_INDEX_SCALE", type := .int, accessFlags := 25, slot := 4, constantValue := 0 }, { name := "LOG2_ARRAY_SHORT_INDEX_SCALE", type := .int, accessFlags := 25, slot := 5, constantValue := 0 }, { name := "LOG2_ARRAY_INT_INDEX_SCALE", type := .int, accessFlags := 25, slot := 6, constantValue := 0 }, { name := "LOG2_ARRAY_LONG_INDEX_SCALE", type := .int, accessFlags := 25, slot := 7, constantValue := 0 }, { name := "LOG2_ARRAY_FLOAT_INDEX_SCALE", type := .int, accessFlags := 25, slot := 8, constantValue := 0 }, { name := "LOG2_ARRAY_DOUBLE_INDEX_SCALE", type := .int, accessFlags := 25, slot := 9, constantValue := 0 }, { name := "LOG2_BYTE_BIT_SIZE", type := .int, accessFlags := 26, slot := 10, constantValue := 0 }, { name := "T_BOOLEAN", type := .int, accessFlags := 25, slot := 11, constantValue := 0 }, { name := "T_CHAR", type := .int, accessFlags := 25, slot := 12, constantValue := 0 }, { name := "T_FLOAT", type := .int, accessFlags := 25, slot := 13, constantValue := 0 }, { name := "T_DOUBLE", type := .int, accessFlags := 25, slot := 14, constantValue := 0 }, { name := "T_BYTE", type := .int, accessFlags := 25, slot := 15, constantValue := 0 }, { name := "T_SHORT", type := .int, accessFlags := 25, slot := 16, constantValue := 0 }, { name := "T_INT", type := .int, accessFlags := 25, slot := 17, constantValue := 0 }, { name := "T_LONG", type := .int, accessFlags := 25, slot := 18, constantValue := 0 }, { name := "JLA", type := (.object "jdk/internal/access/JavaLangAccess"), accessFlags := 26, slot := 19, constantValue := 0 }, { name := "SOFT_MAX_ARRAY_LENGTH", type := .int, accessFlags := 25, slot := 20, constantValue := 0 }]
  methods := #[k12m0]
  instanceTypes := #[]
  staticTypes := #[(.object "jdk/internal/misc/Unsafe"), .boolean, .int, .int, .int, .int, .int, .int, .int, .int, .int, .int, .int, .int, .int, .int, .int, .int, .int, (.object "jdk/internal/access/JavaLangAccess"), .int]
  resolved := Array.replicate 378 none
  statics := none }

def pool13 : Array CpInfo := pool [(1, u "java/lang/Cloneable"), (0, .class_ 1), (0, u "java/lang/Object"), (0, .class_ 3)] 3

/-- java/lang/Cloneable -/
def k13 : Class := { plain "java/lang/Cloneable" (some 0) with
  accessFlags := 1537
  interfaces := #[]
  cf := some (fileOf pool13 2 #[] #[] 1537 4 #[] #[])
  fields := #[]
  methods := #[]
  instanceTypes := #[]
  staticTypes := #[]
  resolved := Array.replicate 8 none
  statics := none }

/-- the primitive byte -/
def k14 : Class := { plain "byte" none with kind := .primitive 'B', accessFlags := 0x411 }
/-- [B -/
def k15 : Class := { plain "[B" (some 0) with kind := .array 14 .byte, interfaces := #[13, 3], accessFlags := 1041 }

/-- the primitive char -/
def k16 : Class := { plain "char" none with kind := .primitive 'C', accessFlags := 0x411 }
/-- [C -/
def k17 : Class := { plain "[C" (some 0) with kind := .array 16 .char, interfaces := #[13, 3], accessFlags := 1041 }

/-- the primitive int -/
def k18 : Class := { plain "int" none with kind := .primitive 'I', accessFlags := 0x411 }
/-- [I -/
def k19 : Class := { plain "[I" (some 0) with kind := .array 18 .int, interfaces := #[13, 3], accessFlags := 1041 }

/-- [Lcom/example/umask/umask/Rights; -/
def k20 : Class := { plain "[Lcom/example/umask/umask/Rights;" (some 0) with kind := .array 2 (.object "com/example/umask/umask/Rights"), interfaces := #[13, 3], accessFlags := 1041 }

def heap : Heap := #[{ cls := 2, slots := #[.int 0, .ref 3, .ref 4, .ref 6, .ref 7, .ref 8], vm := .statics 2 },
  { cls := 8, slots := #[.long 0, .int 1, .null, .int 0, .null, .int 0, .int 0], vm := .statics 8 },
  { cls := 11, slots := #[.null, .null, .null], vm := .statics 11 },
  { cls := 20, slots := #[.ref 4, .ref 8, .ref 7, .ref 5, .ref 6, .ref 10, .ref 9, .ref 11], vm := .none },
  { cls := 2, slots := #[.int 0], vm := .none },
  { cls := 2, slots := #[.int 3], vm := .none },
  { cls := 2, slots := #[.int 4], vm := .none },
  { cls := 2, slots := #[.int 2], vm := .none },
  { cls := 2, slots := #[.int 1], vm := .none },
  { cls := 2, slots := #[.int 6], vm := .none },
  { cls := 2, slots := #[.int 5], vm := .none },
  { cls := 2, slots := #[.int 7], vm := .none }]
def classes : Array Class := #[k0, k1, k2, k3, k4, k5, k6, k7, k8, k9, k10, k11, k12, k13, k14, k15, k16, k17, k18, k19, k20]
def interned : List (Array UInt16 × Addr) := []
def slotsUsed : Nat := 32
def theMethod : MethodId := ⟨1, 2⟩
def args0 : Array Value := #[.int 5, .int 6]
def aboutOver (below : List Frame) : State where
  vm := { classes := classes, interned := interned.toArray }
  heap := heap
  slotsUsed := slotsUsed
  threads := #[{ frames := .invoking theMethod args0 :: below }]
def below0 : List Frame := [.native { method := ⟨0, 0⟩, args := #[] }]
def about1 : State := aboutOver below0
def p0 : Program := .bare "" "" ""
def e0 : Env := launch0.env 0 0 0
theorem w_frames : about1.frames = Frame.invoking theMethod args0 :: below0 := rfl
set_option maxRecDepth 65536 in
theorem w_args : argsFit about1.vm theMethod args0 = true := by decide +kernel
set_option maxRecDepth 65536 in
theorem w_heap : heapFits about1 = true := by decide +kernel
set_option maxRecDepth 65536 in
theorem w_runnable : about1.curStatus? = some .runnable := by decide +kernel
set_option maxRecDepth 65536 in
theorem w_alone : about1.alone = true := by decide +kernel
set_option maxRecDepth 65536 in
theorem w_named : about1.methodNamed? x = some theMethod := by decide +kernel
set_option maxRecDepth 65536 in
theorem w_hears : about1.hears theMethod below0 = true := by decide +kernel
set_option maxRecDepth 65536 in
theorem w_ripe : about1.ripe theMethod args0 below0 = true := by decide +kernel
theorem w_running : about1.status = .running := rfl
set_option maxRecDepth 65536 in
theorem w_room : about1.hasRoom e0.platform room_1 = true :=
  launch0.hasRoom_least _ room_1 (by decide +kernel) (by decide +kernel) (by decide +kernel) (by decide +kernel) (by decide +kernel) (by decide +kernel)
theorem allAtoms_all (ts : List Jvm.Cond) (a : Array Jvm.Value) (st : Jvm.State) : (allAtoms ts).before a st = ts.all (fun c => c.before a st) := by
  induction ts with
  | nil => rfl
  | cons c t ih =>
    show (Jvm.Cond.and c (allAtoms t)).before a st = _
    rw [Jvm.Cond.before_and, ih, List.all_cons]
def words1 : List Jvm.Cond := Jvm.Cond.code x code maxLocals ret :: tables_1
/-- a 'code' word, met by the world's own term for the bytes: nothing is compared byte by byte -/
theorem code_word {y : MethodName} {bytes : ByteArray} {mx : Nat} {rt : Option FieldType} {a : Array Value} {s : State} {m : MethodId} {meth : Method} {c : Code} (h1 : s.methodNamed? y = some m) (h2 : s.vm.method? m = some meth) (h3 : meth.code = some c) (h4 : c.code = bytes)
    (h5 : (c.maxLocals == mx && c.exceptionTable.isEmpty && decide (c.maxStack ≤ mostOperands) && decide (meth.sig.returnType = rt) && !meth.locks && decide (parseMethodDescriptor y.desc = some meth.sig)) = true) : (Jvm.Cond.code y bytes mx rt).before a s = true := by
  simp only [Bool.and_eq_true, beq_iff_eq, Bool.not_eq_true', decide_eq_true_eq] at h5
  obtain ⟨⟨⟨⟨⟨g1, g2⟩, g3⟩, g4⟩, g5⟩, g6⟩ := h5
  simp [Cond.before, Cond.holds, Cond.value, h1, h2, h3, h4, g1, g2, g3, g4, g5, g6]
def isCode : Jvm.Cond → Bool
  | .code _ _ _ _ => true
  | _ => false
theorem all_split {L : List Jvm.Cond} {P : Jvm.Cond → Bool} (h1 : L.all (fun c => isCode c || P c) = true) (h2 : ∀ c ∈ L.filter isCode, P c = true) : L.all P = true := by
  refine List.all_eq_true.mpr fun c hc => ?_
  have h := List.all_eq_true.mp h1 c hc
  rcases Bool.eq_false_or_eq_true (isCode c) with hi | hi
  · exact h2 c (List.mem_filter.mpr ⟨hc, hi⟩)
  · simpa [hi] using h
set_option maxRecDepth 65536 in
theorem w_c0 : (Jvm.Cond.code x code maxLocals ret).before args0 about1 = true := code_word (m := ⟨1, 2⟩) (meth := k1m2) (c := k1c2) (by decide +kernel) rfl rfl rfl (by decide +kernel)
set_option maxRecDepth 65536 in
theorem w_c1 : (Jvm.Cond.code ({ cls := "com/example/umask/umask/Rights", name := "of", desc := "(I)Lcom/example/umask/umask/Rights;" } : Jvm.MethodName) prog_35_method_2_code (1 : Nat) (Option.some (Jvm.ClassFile.FieldType.object "com/example/umask/umask/Rights"))).before args0 about1 = true := code_word (m := ⟨2, 0⟩) (meth := k2m0) (c := k2c0) (by decide +kernel) rfl rfl rfl (by decide +kernel)
set_option maxRecDepth 65536 in
theorem w_c2 : (Jvm.Cond.code ({ cls := "com/example/umask/umask/Rights", name := "bits", desc := "()I" } : Jvm.MethodName) prog_35_method_3_code (1 : Nat) (Option.some Jvm.ClassFile.FieldType.int)).before args0 about1 = true := code_word (m := ⟨2, 1⟩) (meth := k2m1) (c := k2c1) (by decide +kernel) rfl rfl rfl (by decide +kernel)
set_option maxRecDepth 65536 in
theorem w_c3 : (Jvm.Cond.code ({ cls := "com/example/umask/umask/Rights", name := "toString", desc := "()Ljava/lang/String;" } : Jvm.MethodName) prog_35_method_5_code (1 : Nat) (Option.some (Jvm.ClassFile.FieldType.object "java/lang/String"))).before args0 about1 = true := code_word (m := ⟨2, 3⟩) (meth := k2m3) (c := k2c3) (by decide +kernel) rfl rfl rfl (by decide +kernel)
set_option maxRecDepth 65536 in
theorem w_c4 : (Jvm.Cond.code ({ cls := "com/example/umask/umask/Rights", name := "letter", desc := "(Lcom/example/umask/umask/Rights;C)C" } : Jvm.MethodName) prog_35_method_6_code (3 : Nat) (Option.some Jvm.ClassFile.FieldType.char)).before args0 about1 = true := code_word (m := ⟨2, 4⟩) (meth := k2m4) (c := k2c4) (by decide +kernel) rfl rfl rfl (by decide +kernel)
set_option maxRecDepth 65536 in
theorem w_c5 : (Jvm.Cond.code ({ cls := "com/example/umask/umask/Rights", name := "containsAll", desc := "(Lcom/example/umask/umask/Rights;)Z" } : Jvm.MethodName) prog_35_method_4_code (2 : Nat) (Option.some Jvm.ClassFile.FieldType.boolean)).before args0 about1 = true := code_word (m := ⟨2, 2⟩) (meth := k2m2) (c := k2c2) (by decide +kernel) rfl rfl rfl (by decide +kernel)
set_option maxRecDepth 65536 in
theorem w_c6 : (Jvm.Cond.code ({ cls := "java/lang/String", name := "<init>", desc := "([C)V" } : Jvm.MethodName) jdk_42_method_3_code (2 : Nat) (Option.none : Option Jvm.ClassFile.FieldType)).before args0 about1 = true := code_word (m := ⟨8, 1⟩) (meth := k8m1) (c := k8c1) (by decide +kernel) rfl rfl rfl (by decide +kernel)
set_option maxRecDepth 65536 in
theorem w_c7 : (Jvm.Cond.code ({ cls := "java/lang/String", name := "<init>", desc := "([CIILjava/lang/Void;)V" } : Jvm.MethodName) jdk_42_method_149_code (6 : Nat) (Option.none : Option Jvm.ClassFile.FieldType)).before args0 about1 = true := code_word (m := ⟨8, 4⟩) (meth := k8m4) (c := k8c4) (by decide +kernel) rfl rfl rfl (by decide +kernel)
set_option maxRecDepth 65536 in
theorem w_c8 : (Jvm.Cond.code ({ cls := "java/lang/Object", name := "<init>", desc := "()V" } : Jvm.MethodName) object_method_1_code (1 : Nat) (Option.none : Option Jvm.ClassFile.FieldType)).before args0 about1 = true := code_word (m := ⟨0, 0⟩) (meth := k0m0) (c := k0c0) (by decide +kernel) rfl rfl rfl (by decide +kernel)
set_option maxRecDepth 65536 in
theorem w_c9 : (Jvm.Cond.code ({ cls := "java/lang/StringUTF16", name := "compress", desc := "([CII)[B" } : Jvm.MethodName) jdk_52_method_16_code (6 : Nat) (Option.some (Jvm.ClassFile.FieldType.array Jvm.ClassFile.FieldType.byte))).before args0 about1 = true := code_word (m := ⟨9, 2⟩) (meth := k9m2) (c := k9c2) (by decide +kernel) rfl rfl rfl (by decide +kernel)
set_option maxRecDepth 65536 in
theorem w_c10 : (Jvm.Cond.code ({ cls := "java/lang/StringUTF16", name := "compress", desc := "([CI[BII)I" } : Jvm.MethodName) jdk_52_method_21_code (7 : Nat) (Option.some Jvm.ClassFile.FieldType.int)).before args0 about1 = true := code_word (m := ⟨9, 3⟩) (meth := k9m3) (c := k9c3) (by decide +kernel) rfl rfl rfl (by decide +kernel)
set_option maxRecDepth 65536 in
theorem w_c11 : (Jvm.Cond.code ({ cls := "java/lang/StringUTF16", name := "coderFromArrayLen", desc := "([BI)B" } : Jvm.MethodName) jdk_52_method_15_code (2 : Nat) (Option.some Jvm.ClassFile.FieldType.byte)).before args0 about1 = true := code_word (m := ⟨9, 1⟩) (meth := k9m1) (c := k9c1) (by decide +kernel) rfl rfl rfl (by decide +kernel)
set_option maxRecDepth 65536 in
theorem w_c12 : (Jvm.Cond.code ({ cls := "java/lang/String", name := "length", desc := "()I" } : Jvm.MethodName) jdk_42_method_54_code (1 : Nat) (Option.some Jvm.ClassFile.FieldType.int)).before args0 about1 = true := code_word (m := ⟨8, 2⟩) (meth := k8m2) (c := k8c2) (by decide +kernel) rfl rfl rfl (by decide +kernel)
set_option maxRecDepth 65536 in
theorem w_c13 : (Jvm.Cond.code ({ cls := "java/lang/String", name := "coder", desc := "()B" } : Jvm.MethodName) jdk_42_method_152_code (1 : Nat) (Option.some Jvm.ClassFile.FieldType.byte)).before args0 about1 = true := code_word (m := ⟨8, 5⟩) (meth := k8m5) (c := k8c5) (by decide +kernel) rfl rfl rfl (by decide +kernel)
set_option maxRecDepth 65536 in
theorem w_c14 : (Jvm.Cond.code ({ cls := "java/lang/String", name := "charAt", desc := "(I)C" } : Jvm.MethodName) jdk_42_method_56_code (2 : Nat) (Option.some Jvm.ClassFile.FieldType.char)).before args0 about1 = true := code_word (m := ⟨8, 3⟩) (meth := k8m3) (c := k8c3) (by decide +kernel) rfl rfl rfl (by decide +kernel)
set_option maxRecDepth 65536 in
theorem w_c15 : (Jvm.Cond.code ({ cls := "java/lang/String", name := "isLatin1", desc := "()Z" } : Jvm.MethodName) jdk_42_method_154_code (1 : Nat) (Option.some Jvm.ClassFile.FieldType.boolean)).before args0 about1 = true := code_word (m := ⟨8, 6⟩) (meth := k8m6) (c := k8c6) (by decide +kernel) rfl rfl rfl (by decide +kernel)
set_option maxRecDepth 65536 in
theorem w_c16 : (Jvm.Cond.code ({ cls := "java/lang/StringLatin1", name := "charAt", desc := "([BI)C" } : Jvm.MethodName) jdk_43_method_2_code (2 : Nat) (Option.some Jvm.ClassFile.FieldType.char)).before args0 about1 = true := code_word (m := ⟨10, 1⟩) (meth := k10m1) (c := k10c1) (by decide +kernel) rfl rfl rfl (by decide +kernel)
set_option maxRecDepth 65536 in
theorem w_c17 : (Jvm.Cond.code ({ cls := "java/lang/String", name := "checkIndex", desc := "(II)V" } : Jvm.MethodName) jdk_42_method_155_code (2 : Nat) (Option.none : Option Jvm.ClassFile.FieldType)).before args0 about1 = true := code_word (m := ⟨8, 7⟩) (meth := k8m7) (c := k8c7) (by decide +kernel) rfl rfl rfl (by decide +kernel)
set_option maxRecDepth 65536 in
theorem w_c18 : (Jvm.Cond.code ({ cls := "jdk/internal/util/Preconditions", name := "checkIndex", desc := "(IILjava/util/function/BiFunction;)I" } : Jvm.MethodName) jdk_41_method_11_code (3 : Nat) (Option.some Jvm.ClassFile.FieldType.int)).before args0 about1 = true := code_word (m := ⟨11, 1⟩) (meth := k11m1) (c := k11c1) (by decide +kernel) rfl rfl rfl (by decide +kernel)
set_option maxRecDepth 65536 in
theorem w_c19 : (Jvm.Cond.code ({ cls := "com/example/umask/umask/RightsOfPinLaw", name := "expect", desc := "(IIC)C" } : Jvm.MethodName) method_2_code (3 : Nat) (Option.some Jvm.ClassFile.FieldType.char)).before args0 about1 = true := code_word (m := ⟨1, 1⟩) (meth := k1m1) (c := k1c1) (by decide +kernel) rfl rfl rfl (by decide +kernel)
def codes1 : List Jvm.Cond := [Jvm.Cond.code x code maxLocals ret, Jvm.Cond.code ({ cls := "com/example/umask/umask/Rights", name := "of", desc := "(I)Lcom/example/umask/umask/Rights;" } : Jvm.MethodName) prog_35_method_2_code (1 : Nat) (Option.some (Jvm.ClassFile.FieldType.object "com/example/umask/umask/Rights")), Jvm.Cond.code ({ cls := "com/example/umask/umask/Rights", name := "bits", desc := "()I" } : Jvm.MethodName) prog_35_method_3_code (1 : Nat) (Option.some Jvm.ClassFile.FieldType.int), Jvm.Cond.code ({ cls := "com/example/umask/umask/Rights", name := "toString", desc := "()Ljava/lang/String;" } : Jvm.MethodName) prog_35_method_5_code (1 : Nat) (Option.some (Jvm.ClassFile.FieldType.object "java/lang/String")), Jvm.Cond.code ({ cls := "com/example/umask/umask/Rights", name := "letter", desc := "(Lcom/example/umask/umask/Rights;C)C" } : Jvm.MethodName) prog_35_method_6_code (3 : Nat) (Option.some Jvm.ClassFile.FieldType.char), Jvm.Cond.code ({ cls := "com/example/umask/umask/Rights", name := "containsAll", desc := "(Lcom/example/umask/umask/Rights;)Z" } : Jvm.MethodName) prog_35_method_4_code (2 : Nat) (Option.some Jvm.ClassFile.FieldType.boolean), Jvm.Cond.code ({ cls := "java/lang/String", name := "<init>", desc := "([C)V" } : Jvm.MethodName) jdk_42_method_3_code (2 : Nat) (Option.none : Option Jvm.ClassFile.FieldType), Jvm.Cond.code ({ cls := "java/lang/String", name := "<init>", desc := "([CIILjava/lang/Void;)V" } : Jvm.MethodName) jdk_42_method_149_code (6 : Nat) (Option.none : Option Jvm.ClassFile.FieldType), Jvm.Cond.code ({ cls := "java/lang/Object", name := "<init>", desc := "()V" } : Jvm.MethodName) object_method_1_code (1 : Nat) (Option.none : Option Jvm.ClassFile.FieldType), Jvm.Cond.code ({ cls := "java/lang/StringUTF16", name := "compress", desc := "([CII)[B" } : Jvm.MethodName) jdk_52_method_16_code (6 : Nat) (Option.some (Jvm.ClassFile.FieldType.array Jvm.ClassFile.FieldType.byte)), Jvm.Cond.code ({ cls := "java/lang/StringUTF16", name := "compress", desc := "([CI[BII)I" } : Jvm.MethodName) jdk_52_method_21_code (7 : Nat) (Option.some Jvm.ClassFile.FieldType.int), Jvm.Cond.code ({ cls := "java/lang/StringUTF16", name := "coderFromArrayLen", desc := "([BI)B" } : Jvm.MethodName) jdk_52_method_15_code (2 : Nat) (Option.some Jvm.ClassFile.FieldType.byte), Jvm.Cond.code ({ cls := "java/lang/String", name := "length", desc := "()I" } : Jvm.MethodName) jdk_42_method_54_code (1 : Nat) (Option.some Jvm.ClassFile.FieldType.int), Jvm.Cond.code ({ cls := "java/lang/String", name := "coder", desc := "()B" } : Jvm.MethodName) jdk_42_method_152_code (1 : Nat) (Option.some Jvm.ClassFile.FieldType.byte), Jvm.Cond.code ({ cls := "java/lang/String", name := "charAt", desc := "(I)C" } : Jvm.MethodName) jdk_42_method_56_code (2 : Nat) (Option.some Jvm.ClassFile.FieldType.char), Jvm.Cond.code ({ cls := "java/lang/String", name := "isLatin1", desc := "()Z" } : Jvm.MethodName) jdk_42_method_154_code (1 : Nat) (Option.some Jvm.ClassFile.FieldType.boolean), Jvm.Cond.code ({ cls := "java/lang/StringLatin1", name := "charAt", desc := "([BI)C" } : Jvm.MethodName) jdk_43_method_2_code (2 : Nat) (Option.some Jvm.ClassFile.FieldType.char), Jvm.Cond.code ({ cls := "java/lang/String", name := "checkIndex", desc := "(II)V" } : Jvm.MethodName) jdk_42_method_155_code (2 : Nat) (Option.none : Option Jvm.ClassFile.FieldType), Jvm.Cond.code ({ cls := "jdk/internal/util/Preconditions", name := "checkIndex", desc := "(IILjava/util/function/BiFunction;)I" } : Jvm.MethodName) jdk_41_method_11_code (3 : Nat) (Option.some Jvm.ClassFile.FieldType.int), Jvm.Cond.code ({ cls := "com/example/umask/umask/RightsOfPinLaw", name := "expect", desc := "(IIC)C" } : Jvm.MethodName) method_2_code (3 : Nat) (Option.some Jvm.ClassFile.FieldType.char)]
set_option maxRecDepth 65536 in
theorem codes_eq : words1.filter isCode = codes1 := rfl
theorem w_codes : ∀ c ∈ words1.filter isCode, c.before args0 about1 = true := by
  rw [codes_eq]
  intro c hc
  simp only [codes1, List.mem_cons, List.not_mem_nil, or_false] at hc
  rcases hc with rfl | rfl | rfl | rfl | rfl | rfl | rfl | rfl | rfl | rfl | rfl | rfl | rfl | rfl | rfl | rfl | rfl | rfl | rfl | rfl
  · exact w_c0
  · exact w_c1
  · exact w_c2
  · exact w_c3
  · exact w_c4
  · exact w_c5
  · exact w_c6
  · exact w_c7
  · exact w_c8
  · exact w_c9
  · exact w_c10
  · exact w_c11
  · exact w_c12
  · exact w_c13
  · exact w_c14
  · exact w_c15
  · exact w_c16
  · exact w_c17
  · exact w_c18
  · exact w_c19
set_option maxRecDepth 65536 in
theorem w_t1 : (words1.take 24).all (fun c => isCode c || c.before args0 about1) = true := by decide +kernel
set_option maxRecDepth 65536 in
theorem w_t2 : ((words1.drop 24).take 24).all (fun c => isCode c || c.before args0 about1) = true := by decide +kernel
set_option maxRecDepth 65536 in
theorem w_t3 : (((words1.drop 24).drop 24).take 24).all (fun c => isCode c || c.before args0 about1) = true := by decide +kernel
set_option maxRecDepth 65536 in
theorem w_t4 : ((((words1.drop 24).drop 24).drop 24).take 24).all (fun c => isCode c || c.before args0 about1) = true := by decide +kernel
set_option maxRecDepth 65536 in
theorem w_t5 : ((((words1.drop 24).drop 24).drop 24).drop 24).all (fun c => isCode c || c.before args0 about1) = true := by decide +kernel
theorem w_tables : (allAtoms (Jvm.Cond.code x code maxLocals ret :: tables_1)).before args0 about1 = true := by
  rw [allAtoms_all]
  show words1.all (fun c => c.before args0 about1) = true
  refine all_split ?_ w_codes
  rw [← List.take_append_drop 24 words1, List.all_append, w_t1, ← List.take_append_drop 24 (words1.drop 24), List.all_append, w_t2, ← List.take_append_drop 24 ((words1.drop 24).drop 24), List.all_append, w_t3, ← List.take_append_drop 24 (((words1.drop 24).drop 24).drop 24), List.all_append, w_t4, w_t5]
  rfl
set_option maxRecDepth 65536 in
theorem w_rest : rest_1_c.before args0 about1 = true := by decide +kernel
set_option maxRecDepth 65536 in
theorem w_case : (Jvm.Cond.and given_1 narrow_1).before args0 about1 = true := by decide +kernel
theorem w_applies : (headSpec (Jvm.Cond.code x code maxLocals ret :: tables_1) room_1).applies x e0.platform about1 = true :=
  (Spec.applies_iff w_frames).mpr ⟨w_running, w_runnable, w_alone, w_named, w_hears, w_ripe, w_room, w_tables⟩
theorem atStart : AtStart classFile x code maxLocals ret World_1 tables_1 room_1 Calls_1 rest_1 Pre_1 launch0 p0 e0 about1 theMethod args0 below0 :=
  ⟨lists_1, trivial, launch0.admits_env _ _ _, launch0.least_env, fairChoices_fair.cas, fairChoices_fair.clock, w_frames, w_args, w_heap, w_applies, trivial, w_rest, w_case⟩
end start1
theorem witness_1 : WitnessClaimed_1 := ⟨start1.p0, start1.e0, start1.about1, start1.theMethod, start1.args0, start1.below0, start1.atStart⟩
end Jvm.Pilot.@@N@@
