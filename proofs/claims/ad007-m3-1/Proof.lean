import JvmDerived
import JvmDerived.Pilot.@@N@@Statement
import JvmDerived.Pilot.@@N@@Code
set_option linter.unusedVariables false
set_option linter.unusedSimpArgs false
namespace Jvm.RoadKit
open Sem ClassFile Op Lib Jvm.Stand Jvm.Free Jvm.LawKit
section New
variable {p : Program} {l : Launch} {e : Env} {R : Room} {s : State} {m : MethodId} {args : Array Value} {below : List Frame} {meth : Method} {c : Code} {T : State} {locs : List Loc} {cells slots : Nat}
theorem retI (X : Stand p l e R s m args below meth c T locs cells slots) (hx : p.tables.exec = Jvm.exec) {pc : Nat} {Ls : Array Slot} {z : Int32} {rest : List Value} (hret : meth.sig.returnType = some .int) (hd : decode c.code pc = .ok (.ireturn, 1)) {fs : List Frame}
    (hl : ∀ (f : JFrame) (acts : List Action), f.method = m → f.locked = none → f.entered = [] → (doReturn e (T.setTop f) acts (some (.int z))).1 = T.setFrames fs) : Steps p.tables e below (T.setTop (mkF m pc Ls (.int z :: rest))) (T.setFrames fs) := by
  have hm' : T.vm.method? m = some meth := X.method'
  have hn : narrow .int (.int z) = .int z := rfl
  show Steps p.tables e below (T.setTop { method := m, pc := pc, locals := Ls, stack := _ :: rest, locked := none }) _
  jvm_step X.here [X.here.top, hx, hd, hm', hret, hn]
  first | (intro acts; rw [hl _ acts rfl rfl rfl]) | rw [hl _ _ rfl rfl rfl]
  exact Steps.refl _
theorem own_retR (X : Stand p l e R s m args below meth c T locs cells slots) (hx : p.tables.exec = Jvm.exec) {pc : Nat} {Ls : Array Slot} {w : Value} {t : FieldType} {rest : List Value} (hret : meth.sig.returnType = some t) (ht : t.isReference = true) (hw : w.isRef = true) (hd : decode c.code pc = .ok (.areturn, 1)) {fs : List Frame}
    (hl : ∀ (f : JFrame) (acts : List Action), f.method = m → f.locked = none → f.entered = [] → (doReturn e (T.setTop f) acts (some w)).1 = T.setFrames fs) : Steps p.tables e below (T.setTop (mkF m pc Ls (w :: rest))) (T.setFrames fs) :=
  retOut X hx hret (by rcases ref_cases hw with rfl | ⟨z, rfl⟩ <;> cases t <;> first | rfl | (cases ht; done)) (Or.inr (Or.inr (Or.inr (Or.inr ⟨rfl, ht, hw⟩)))) hd hl
theorem own_retJ (X : Stand p l e R s m args below meth c T locs cells slots) (hx : p.tables.exec = Jvm.exec) {pc : Nat} {Ls : Array Slot} {z : Int64} {rest : List Value} (hret : meth.sig.returnType = some .long) (hd : decode c.code pc = .ok (.lreturn, 1)) {fs : List Frame}
    (hl : ∀ (f : JFrame) (acts : List Action), f.method = m → f.locked = none → f.entered = [] → (doReturn e (T.setTop f) acts (some (.long z))).1 = T.setFrames fs) : Steps p.tables e below (T.setTop (mkF m pc Ls (.long z :: rest))) (T.setFrames fs) :=
  retOut X hx hret rfl (Or.inr (Or.inl ⟨rfl, rfl, z, rfl⟩)) hd hl
end New
theorem own_eqv {args : Array Value} {first s : State} {o : Option Outcome} {idx : List Nat} {a b : Term} {v : Value} (h : (Jvm.Cond.eq a b).value args first o s idx = some true) (hb : b.eval args first o idx s = some v) (hk : (match v with | .int _ => true | .ref _ => true | .long _ => true | _ => false) = true := by rfl) : a.eval args first o idx s = some v := by
  simp only [Cond.value, hb] at h
  cases ha : a.eval args first o idx s with
  | none => simp [ha] at h
  | some x => cases x <;> cases v <;> simp_all
theorem own_selP {Z s : State} {a0 args : Array Value} {y : MethodName} {n : Nat} (hZ : Z.Warmed39 s.vm) (wi : (Cond.instantiable y.cls n).before a0 Z = true) (wp : (Cond.privateMethod y).before a0 Z = true) (wm : (Cond.instanceMethod y).before a0 Z = true) (hy : y.cls ≠ "java/lang/invoke/MethodHandle" ∧ y.cls ≠ "java/lang/invoke/VarHandle") : (Cond.selects y.cls y y).before args s = true := by
  have wi' : (Cond.instantiable y.cls n).before args s = true := mvT hZ wi
  have wm' : (Cond.instanceMethod y).before args s = true := mvT hZ wm
  obtain ⟨c, k, h1, h2, -, h4, -⟩ := Cond.instantiable_spec wi'
  simp only [Bool.or_eq_false_iff] at h4
  exact selects_self_of_private h1 h2 h4.1 (Cond.privateMethod_at (mvP hZ wp (args := #[]))) wm' hy
theorem own_selQ {Z s : State} {a0 args : Array Value} {y : MethodName} {y' : MethodName} {n' d' : String} (hZ : Z.Warmed39 s.vm) (wi : (Cond.selects y.cls y' ⟨y.cls, n', d'⟩).before a0 Z = true) (wp : (Cond.privateMethod y).before a0 Z = true) (wm : (Cond.instanceMethod y).before a0 Z = true) (hy : y.cls ≠ "java/lang/invoke/MethodHandle" ∧ y.cls ≠ "java/lang/invoke/VarHandle") : (Cond.selects y.cls y y).before args s = true := by
  have wi' : (Cond.selects y.cls y' ⟨y.cls, n', d'⟩).before args s = true := mvT hZ wi
  have wm' : (Cond.instanceMethod y).before args s = true := mvT hZ wm
  obtain ⟨c2, r2, m2, -, -, q3, -, kP, hkP, hkPi⟩ := Cond.selects_spec wi'
  have hc := findClass_of_methodNamed q3
  exact selects_self_of_private (c := m2.cls) hc hkP hkPi (Cond.privateMethod_at (mvP hZ wp (args := #[]))) wm' hy
theorem own_len {args : Array Value} {s : State} {t : Term} {a : Addr} {cl : Cell} {ty : FieldType} {z : Int32} (ht : t.eval args s none [] s = some (.ref a)) (A : Arr s s.heap a cl ty) (h : (Term.length t).eval args s none [] s = some (.int z)) : cl.slots.size < 2 ^ 31 ∧ cl.slots.size.toInt32 = z := by
  have e := A.fin (Vm.Alike.refl _)
  simp only [Term.eval, ht, e, Option.bind_eq_bind, Option.bind_some] at h
  split at h <;> simp_all
end Jvm.RoadKit
/- laws to paste: Road.backV (cut by pick.py; bodies as the Statement names them) -/
namespace Jvm.Pilot.@@N@@
namespace StrChars
open Jvm Sem ClassFile Op Lib Jvm.Stand Jvm.Free.XT Jvm.Free.ALB Jvm.Free.JM Jvm.Free
open Jvm.Lib.Cold (StaticIs)
/-- a char array whose places are chars -/
def Ch (a : Addr) (A : Cell) (U : State) : Prop := Arr .char a A U ∧ Typed .char A
theorem Ch.mv {a : Addr} {A : Cell} {U U' : State} (h : Ch a A U) (hal : U.vm.Alike U'.vm) (hh : U'.heap = U.heap) : Ch a A U' := ⟨h.1.mv hal hh, h.2⟩
theorem Ch.keep {a : Addr} {A : Cell} {U U' : State} (h : Ch a A U) (hal : U.vm.Alike U'.vm) (hk : U'.heap[a]? = some A) : Ch a A U' := ⟨h.1.keep hal hk, h.2⟩
/-- what place i of a char[]'s cell holds -/
def cv (A : Cell) (i : Nat) : Int32 := match A.slots[i]? with | some (.int x) => x | _ => 0
theorem Ch.get {a : Addr} {A : Cell} {U : State} (h : Ch a A U) {i : Nat} (hi : i < A.slots.size) : A.slots[i]? = some (.int (cv A i)) := by
  have e := Array.getElem?_eq_getElem hi
  have f := h.2 i _ e
  unfold cv; rw [e]
  generalize A.slots[i] = v at f
  cases v <;> simp [fits] at f ⊢
/-- the byte that i2b leaves of a char -/
def lo8 (x : Int32) : Int32 := x.toInt8.toInt32
theorem fits_lo8 (y : Int32) : fits .byte (.int (lo8 y)) = true := by
  have h1 := y.toInt8.le_toInt
  have h2 := y.toInt8.toInt_lt
  simp only [lo8, fits, Bool.and_eq_true, decide_eq_true_eq, Int32.le_iff_toInt_le, Int8.toInt_toInt32, show (-128 : Int32).toInt = -128 from by decide, show (127 : Int32).toInt = 127 from by decide]
  omega
/-- A' is A but that each place j of lo .. hi - 1 holds f j -/
def Laid (A A' : Cell) (lo hi : Nat) (f : Nat → Value) : Prop := A'.cls = A.cls ∧ A'.vm = A.vm ∧ A'.slots.size = A.slots.size ∧ ∀ i, A'.slots[i]? = if lo ≤ i ∧ i < hi then some (f i) else A.slots[i]?
theorem Laid.zero (A : Cell) (lo : Nat) (f : Nat → Value) : Laid A A lo (lo + 0) f := ⟨rfl, rfl, rfl, fun i => by rw [if_neg (by omega)]⟩
theorem Laid.step {A Ak : Cell} {lo k : Nat} {f : Nat → Value} {v : Value} (h : Laid A Ak lo k f) (hlo : lo ≤ k) (hk : k < Ak.slots.size) (hv : v = f k) : Laid A (Ak.setSlot k v) lo (k + 1) f := by
  refine ⟨h.1, h.2.1, by simpa [Cell.setSlot] using h.2.2.1, fun i => ?_⟩
  by_cases e : k = i
  · subst e; rw [Cell.slots_setSlot_self v hk, if_pos (by omega), hv]
  · rw [Cell.slots_setSlot_ne v e, h.2.2.2 i]
    by_cases q : lo ≤ i ∧ i < k
    · rw [if_pos q, if_pos (by omega)]
    · rw [if_neg q, if_neg (by omega)]
def U16 : String := "java/lang/StringUTF16"
namespace Cmp5
def yN : MethodName := ⟨"java/lang/StringUTF16", "compress", "([CI[BII)I"⟩
abbrev yB : ByteArray := jdk_52_method_21_code
theorem d0 : decode yB 0 = .ok (.iconst 0, 1) := by decide +kernel
theorem d1 : decode yB 1 = .ok (.istore 5, 2) := by decide +kernel
theorem d3 : decode yB 3 = .ok (.iload 5, 2) := by decide +kernel
theorem d5 : decode yB 5 = .ok (.iload 4, 2) := by decide +kernel
theorem d7 : decode yB 7 = .ok (.if_icmp (.ge) 37, 3) := by decide +kernel
theorem d10 : decode yB 10 = .ok (.aload_n 0, 1) := by decide +kernel
theorem d11 : decode yB 11 = .ok (.iload_n 1, 1) := by decide +kernel
theorem d12 : decode yB 12 = .ok (.caload, 1) := by decide +kernel
theorem d13 : decode yB 13 = .ok (.istore 6, 2) := by decide +kernel
theorem d15 : decode yB 15 = .ok (.iload 6, 2) := by decide +kernel
theorem d17 : decode yB 17 = .ok (.sipush 255, 3) := by decide +kernel
theorem d20 : decode yB 20 = .ok (.if_icmp (.le) 6, 3) := by decide +kernel
theorem d26 : decode yB 26 = .ok (.aload_n 2, 1) := by decide +kernel
theorem d27 : decode yB 27 = .ok (.iload_n 3, 1) := by decide +kernel
theorem d28 : decode yB 28 = .ok (.iload 6, 2) := by decide +kernel
theorem d30 : decode yB 30 = .ok (.i2b, 1) := by decide +kernel
theorem d31 : decode yB 31 = .ok (.bastore, 1) := by decide +kernel
theorem d32 : decode yB 32 = .ok (.iinc 1 1, 3) := by decide +kernel
theorem d35 : decode yB 35 = .ok (.iinc 3 1, 3) := by decide +kernel
theorem d38 : decode yB 38 = .ok (.iinc 5 1, 3) := by decide +kernel
theorem d41 : decode yB 41 = .ok (.goto (-38), 3) := by decide +kernel
theorem d44 : decode yB 44 = .ok (.iload 4, 2) := by decide +kernel
theorem d46 : decode yB 46 = .ok (.ireturn, 1) := by decide +kernel
def site : List Cond := []
def tab : Cond := tabOf yN yB 7 (some .int) site
def P (b : Addr) (A : Cell) (d : Addr) (B : Cell) (o q len : Nat) (args : Array Value) (s : State) : Prop := args = #[.ref b, .int (Int32.ofNat o), .ref d, .int (Int32.ofNat q), .int (Int32.ofNat len)] ∧ Ch b A s ∧ Arr .byte d B s ∧ b ≠ d ∧ o + len ≤ A.slots.size ∧ q + len ≤ B.slots.size ∧ ∀ i, i < len → ¬ 255 < cv A (o + i)
def E (b : Addr) (A : Cell) (d : Addr) (B : Cell) (o q len : Nat) (r : Option Value) (s u : State) : Prop := r = some (.int (Int32.ofNat len)) ∧ ∃ B', Put d B' s u ∧ Laid B B' q (q + len) (fun j => Value.int (lo8 (cv A (o + (j - q)))))
/-- no char of the range above 255: len; the places written hold each char's low byte -/
theorem law (l : Launch) (b : Addr) (A : Cell) (d : Addr) (B : Cell) (o q len : Nat) : Law l yN 5 5 0 0 yB 7 (some .int) site (P b A d B o q len) (E b A d B o q len) (copyLocs d q len) 0 0 := by
  refine Law.of_walk (plainFor_of_name (by decide +kernel)) (by decide +kernel) (by decide +kernel) (by decide) (fun _ _ h => by rw [h.1]; rfl) (fun _ U U' hal hh h => ⟨h.1, h.2.1.mv hal hh, h.2.2.1.mv hal hh, h.2.2.2⟩) (fun r U U' V V' h1 hal h2 h => ⟨h.1, h.2.elim fun B' q => ⟨B', q.1.mv h1 h2, q.2⟩⟩) ?_
  intro p e s m args below meth c s₁ X0 hexec hbytes hml hret hlk hnm hown hh0 W hP
  obtain ⟨rfl, hA, hB, hne, l1, l2, hp⟩ := hP
  have c1 : Steps p.tables e below (s₁.setTop (entryFrame m #[.ref b, .int (Int32.ofNat o), .ref d, .int (Int32.ofNat q), .int (Int32.ofNat len)] 7)) (s₁.setTop (mkF m 0 #[.val (.ref b), .val (.int (Int32.ofNat o)), .val (.ref d), .val (.int (Int32.ofNat q)), .val (.int (Int32.ofNat len)), .unset, .unset] [])) := entry rfl
  have hA0 := hA.1.mv X0.warmed.alike hh0
  have hB0 := hB.mv X0.warmed.alike hh0
  have a31 := hA.1.2.2.2
  have c2 : Steps p.tables e below (s₁.setTop (entryFrame m #[.ref b, .int (Int32.ofNat o), .ref d, .int (Int32.ofNat q), .int (Int32.ofNat len)] 7)) (s₁.setTop (mkF m 3 #[.val (.ref b), .val (.int (Int32.ofNat o)), .val (.ref d), .val (.int (Int32.ofNat q)), .val (.int (Int32.ofNat len)), .val (.int 0), .unset] [])) := c1.trans (by
    refine iconstV X0.here hexec rfl 0 (hb hbytes d0) (by decide) ?_
    refine XS.istore X0.here hexec rfl (hb hbytes d1) rfl rfl ?_
    exact Steps.refl _)
  have loop : ∀ (r i : Nat), i + r = len → ∀ (z : Slot), (z = .unset ∨ ∃ w, z = .val w ∧ w.category = 1) → ∀ (Tl : State) (Bk : Cell), Stand p l e { frames := 0, locals := 0, cells := 0, slots := 0 } s m #[.ref b, .int (Int32.ofNat o), .ref d, .int (Int32.ofNat q), .int (Int32.ofNat len)] below meth c Tl ([] ++ copyLocs d q i) 0 0 → Put d Bk s₁ Tl → Laid B Bk q (q + i) (fun j => Value.int (lo8 (cv A (o + (j - q))))) →
      Steps p.tables e below (s₁.setTop (entryFrame m #[.ref b, .int (Int32.ofNat o), .ref d, .int (Int32.ofNat q), .int (Int32.ofNat len)] 7)) (Tl.setTop (mkF m 3 #[.val (.ref b), .val (.int (Int32.ofNat (o + i))), .val (.ref d), .val (.int (Int32.ofNat (q + i))), .val (.int (Int32.ofNat len)), .val (.int (Int32.ofNat i)), z] [])) → ∃ (T' : State) (B' : Cell) (z' : Slot), Stand p l e { frames := 0, locals := 0, cells := 0, slots := 0 } s m #[.ref b, .int (Int32.ofNat o), .ref d, .int (Int32.ofNat q), .int (Int32.ofNat len)] below meth c T' ([] ++ copyLocs d q len) 0 0 ∧ Put d B' s₁ T' ∧ Laid B B' q (q + len) (fun j => Value.int (lo8 (cv A (o + (j - q))))) ∧
      Steps p.tables e below (s₁.setTop (entryFrame m #[.ref b, .int (Int32.ofNat o), .ref d, .int (Int32.ofNat q), .int (Int32.ofNat len)] 7)) (T'.setTop (mkF m 3 #[.val (.ref b), .val (.int (Int32.ofNat (o + len))), .val (.ref d), .val (.int (Int32.ofNat (q + len))), .val (.int (Int32.ofNat len)), .val (.int (Int32.ofNat len)), z'] [])) := by
    intro r
    induction r with
    | zero =>
      intro i hi z hz Tl Bk Xl pl fl cl
      have hil : i = len := by omega
      rw [hil] at Xl fl cl
      exact ⟨Tl, Bk, z, Xl, pl, fl, cl⟩
    | succ r ih =>
      intro i hi z hz Tl Bk Xl pl fl cl
      have all := X0.warmed.alike.symm.trans Xl.warmed.alike
      have hAl := hA0.keep all (pl.other hne hA0.1)
      have hBk := hB0.like all pl.1 fl.1 fl.2.1 fl.2.2.1
      have hlt : q + i < Bk.slots.size := by rw [fl.2.2.1]; omega
      have c3 : Steps p.tables e below (s₁.setTop (entryFrame m #[.ref b, .int (Int32.ofNat o), .ref d, .int (Int32.ofNat q), .int (Int32.ofNat len)] 7)) (Tl.setTop (mkF m 12 #[.val (.ref b), .val (.int (Int32.ofNat (o + i))), .val (.ref d), .val (.int (Int32.ofNat (q + i))), .val (.int (Int32.ofNat len)), .val (.int (Int32.ofNat i)), z] [.int (Int32.ofNat (o + i)), .ref b])) := cl.trans (by
        refine XS.iload Xl.here hexec rfl (hb hbytes d3) rfl ?_
        refine XS.iload Xl.here hexec rfl (hb hbytes d5) rfl ?_
        refine XS.icmpNo Xl.here hexec rfl (hb hbytes d7) rfl (ii_ge_f (lt32 (by omega) (by omega))) ?_
        refine XS.aloadN Xl.here hexec rfl (hb hbytes d10) rfl rfl ?_
        refine XS.iloadN Xl.here hexec rfl (hb hbytes d11) rfl ?_
        exact Steps.refl _)
      have c4 : Steps p.tables e below (s₁.setTop (entryFrame m #[.ref b, .int (Int32.ofNat o), .ref d, .int (Int32.ofNat q), .int (Int32.ofNat len)] 7)) (Tl.setTop (mkF m 13 #[.val (.ref b), .val (.int (Int32.ofNat (o + i))), .val (.ref d), .val (.int (Int32.ofNat (q + i))), .val (.int (Int32.ofNat len)), .val (.int (Int32.ofNat i)), z] [.int (cv A (o + i))])) := c3.trans (by
        refine Xl.aget hexec hAl rfl (hA.get (i := o + i) (by omega)) rfl rfl (hb hbytes d12) ?_
        exact Steps.refl _)
      have c5 : Steps p.tables e below (s₁.setTop (entryFrame m #[.ref b, .int (Int32.ofNat o), .ref d, .int (Int32.ofNat q), .int (Int32.ofNat len)] 7)) (Tl.setTop (mkF m 15 #[.val (.ref b), .val (.int (Int32.ofNat (o + i))), .val (.ref d), .val (.int (Int32.ofNat (q + i))), .val (.int (Int32.ofNat len)), .val (.int (Int32.ofNat i)), .val (.int (cv A (o + i)))] [])) := c4.trans (by
        refine XS.istoreS Xl.here hexec rfl (hb hbytes d13) rfl rfl hz ?_
        exact Steps.refl _)
      have c6 : Steps p.tables e below (s₁.setTop (entryFrame m #[.ref b, .int (Int32.ofNat o), .ref d, .int (Int32.ofNat q), .int (Int32.ofNat len)] 7)) (Tl.setTop (mkF m 31 #[.val (.ref b), .val (.int (Int32.ofNat (o + i))), .val (.ref d), .val (.int (Int32.ofNat (q + i))), .val (.int (Int32.ofNat len)), .val (.int (Int32.ofNat i)), .val (.int (cv A (o + i)))] [.int (lo8 (cv A (o + i))), .int (Int32.ofNat (q + i)), .ref d])) := c5.trans (by
        refine XS.iload Xl.here hexec rfl (hb hbytes d15) rfl ?_
        refine sipushV Xl.here hexec rfl 255 (hb hbytes d17) (by decide) ?_
        refine XS.icmpYes Xl.here hexec rfl (pc0 := 20) rfl (hb hbytes d20) rfl (ii_le_t (hp i (by omega))) (by decide) rfl ?_
        refine XS.aloadN Xl.here hexec rfl (hb hbytes d26) rfl rfl ?_
        refine XS.iloadN Xl.here hexec rfl (hb hbytes d27) rfl ?_
        refine XS.iload Xl.here hexec rfl (hb hbytes d28) rfl ?_
        refine i2b Xl.here hexec rfl (hb hbytes d30) rfl ?_
        exact Steps.refl _)
      obtain ⟨T7, X7, p7, st7⟩ := Xl.aput hexec hBk rfl hlt rfl (fits_lo8 (cv A (o + i))) (g := (mkF m 31 #[.val (.ref b), .val (.int (Int32.ofNat (o + i))), .val (.ref d), .val (.int (Int32.ofNat (q + i))), .val (.int (Int32.ofNat len)), .val (.int (Int32.ofNat i)), .val (.int (cv A (o + i)))] [.int (lo8 (cv A (o + i))), .int (Int32.ofNat (q + i)), .ref d])) rfl (rest := []) rfl (hb hbytes d31)
      have c8 : Steps p.tables e below (s₁.setTop (entryFrame m #[.ref b, .int (Int32.ofNat o), .ref d, .int (Int32.ofNat q), .int (Int32.ofNat len)] 7)) (T7.setTop (mkF m 32 #[.val (.ref b), .val (.int (Int32.ofNat (o + i))), .val (.ref d), .val (.int (Int32.ofNat (q + i))), .val (.int (Int32.ofNat len)), .val (.int (Int32.ofNat i)), .val (.int (cv A (o + i)))] [])) := c6.trans (st7 _ (Steps.refl _))
      have c9 : Steps p.tables e below (s₁.setTop (entryFrame m #[.ref b, .int (Int32.ofNat o), .ref d, .int (Int32.ofNat q), .int (Int32.ofNat len)] 7)) (T7.setTop (mkF m 3 #[.val (.ref b), .val (.int (Int32.ofNat (o + i) + 1)), .val (.ref d), .val (.int (Int32.ofNat (q + i) + 1)), .val (.int (Int32.ofNat len)), .val (.int (Int32.ofNat i + 1)), .val (.int (cv A (o + i)))] [])) := c8.trans (by
        refine iincV X7.here hexec rfl 1 (hb hbytes d32) (by decide) rfl rfl ?_
        refine iincV X7.here hexec rfl 1 (hb hbytes d35) (by decide) rfl rfl ?_
        refine iincV X7.here hexec rfl 1 (hb hbytes d38) (by decide) rfl rfl ?_
        refine XS.goto X7.here hexec rfl (pc0 := 41) rfl (hb hbytes d41) (by decide) rfl ?_
        exact Steps.refl _)
      have c10 : Steps p.tables e below (s₁.setTop (entryFrame m #[.ref b, .int (Int32.ofNat o), .ref d, .int (Int32.ofNat q), .int (Int32.ofNat len)] 7)) (T7.setTop (mkF m 3 #[.val (.ref b), .val (.int (Int32.ofNat (o + (i + 1)))), .val (.ref d), .val (.int (Int32.ofNat (q + (i + 1)))), .val (.int (Int32.ofNat len)), .val (.int (Int32.ofNat (i + 1))), .val (.int (cv A (o + i)))] [])) := by
        have := c9
        rw [succ32, succ32, succ32] at this
        exact this
      exact ih (i + 1) (by omega) _ (Or.inr ⟨_, rfl, rfl⟩) T7 _ (by rw [copyLocs_step, ← List.append_assoc]; exact X7) (pl.trans p7) (fl.step (by omega) hlt (by simp)) c10
  obtain ⟨T9, B9, z9, X9, p9, f9, g9⟩ := loop len 0 (by omega) .unset (Or.inl rfl) s₁ B (by simpa [copyLocs] using X0) ⟨hB0.1, fun _ _ => rfl, rfl⟩ (Laid.zero _ _ _) c2
  have c11 : Steps p.tables e below (s₁.setTop (entryFrame m #[.ref b, .int (Int32.ofNat o), .ref d, .int (Int32.ofNat q), .int (Int32.ofNat len)] 7)) (T9.setTop (mkF m 46 #[.val (.ref b), .val (.int (Int32.ofNat (o + len))), .val (.ref d), .val (.int (Int32.ofNat (q + len))), .val (.int (Int32.ofNat len)), .val (.int (Int32.ofNat len)), z9] [.int (Int32.ofNat len)])) := g9.trans (by
    refine XS.iload X9.here hexec rfl (hb hbytes d3) rfl ?_
    refine XS.iload X9.here hexec rfl (hb hbytes d5) rfl ?_
    refine XS.icmpYes X9.here hexec rfl (pc0 := 7) rfl (hb hbytes d7) rfl (ii_ge_t (nlt32 (by omega) (Nat.le_refl _))) (by decide) rfl ?_
    refine XS.iload X9.here hexec rfl (hb hbytes d44) rfl ?_
    exact Steps.refl _)
  exact ⟨T9, some (.int (Int32.ofNat len)), _, _, _, X9, by simp, rfl, rfl, (fun h => by cases h), ⟨rfl, B9, p9.from hh0, f9⟩, fun fs hl => c11.trans (X9.ireturnOut hexec hret rfl (Or.inl rfl) (hb hbytes d46) hl)⟩
end Cmp5
namespace Cmp3
def yN : MethodName := ⟨"java/lang/StringUTF16", "compress", "([CII)[B"⟩
abbrev yB : ByteArray := jdk_52_method_16_code
theorem d0 : decode yB 0 = .ok (.iload_n 2, 1) := by decide +kernel
theorem d1 : decode yB 1 = .ok (.newarray .byte, 2) := by decide +kernel
theorem d3 : decode yB 3 = .ok (.astore_n 3, 1) := by decide +kernel
theorem d4 : decode yB 4 = .ok (.aload_n 0, 1) := by decide +kernel
theorem d5 : decode yB 5 = .ok (.iload_n 1, 1) := by decide +kernel
theorem d6 : decode yB 6 = .ok (.aload_n 3, 1) := by decide +kernel
theorem d7 : decode yB 7 = .ok (.iconst 0, 1) := by decide +kernel
theorem d8 : decode yB 8 = .ok (.iload_n 2, 1) := by decide +kernel
theorem d9 : decode yB 9 = .ok (.invokestatic 115, 3) := by decide +kernel
theorem d12 : decode yB 12 = .ok (.istore 4, 2) := by decide +kernel
theorem d14 : decode yB 14 = .ok (.iload 4, 2) := by decide +kernel
theorem d16 : decode yB 16 = .ok (.iload_n 2, 1) := by decide +kernel
theorem d17 : decode yB 17 = .ok (.if_icmp (.eq) 40, 3) := by decide +kernel
theorem d57 : decode yB 57 = .ok (.aload_n 3, 1) := by decide +kernel
theorem d58 : decode yB 58 = .ok (.areturn, 1) := by decide +kernel
def site : List Cond := [.arrayClass .byte, Cmp5.tab] ++ staticW U16 115 Cmp5.yN
def tab : Cond := tabOf yN yB 6 (some (.array .byte)) site
def P (b : Addr) (A : Cell) (o len : Nat) (args : Array Value) (s : State) : Prop := args = #[.ref b, .int (Int32.ofNat o), .int (Int32.ofNat len)] ∧ Ch b A s ∧ o + len ≤ A.slots.size ∧ len ≤ 536870912 ∧ ∀ i, i < len → ¬ 255 < cv A (o + i)
def E (b : Addr) (A : Cell) (o len : Nat) (r : Option Value) (s u : State) : Prop := NewArr .byte "[B" len (fun j => .int (lo8 (cv A (o + j)))) r s u ∧ u.heap.size = s.heap.size + 1
/-- no char of the range above 255: a new byte[] of their low bytes -/
theorem law (l : Launch) (b : Addr) (A : Cell) (o len : Nat) : Law l yN 3 3 1 18 yB 6 (some (.array .byte)) site (P b A o len) (E b A o len) [] 1 len := by
  refine Law.of_walk (plainFor_of_name (by decide +kernel)) (by decide +kernel) (by decide +kernel) (by decide) (fun _ _ h => by rw [h.1]; rfl) (fun _ U U' hal hh h => ⟨h.1, h.2.1.mv hal hh, h.2.2⟩) (fun r U U' V V' h1 hal h2 h => ⟨NewArr.mv r U U' V V' h1 hal h2 h.1, by rw [h1, h2]; exact h.2⟩) ?_
  intro p e s m args below meth c s₁ X0 hexec hbytes hml hret hlk hnm hown hh0 W hP
  obtain ⟨rfl, hA, l1, l2, hp⟩ := hP
  have a31 := hA.1.2.2.2
  have c1 : Steps p.tables e below (s₁.setTop (entryFrame m #[.ref b, .int (Int32.ofNat o), .int (Int32.ofNat len)] 6)) (s₁.setTop (mkF m 0 #[.val (.ref b), .val (.int (Int32.ofNat o)), .val (.int (Int32.ofNat len)), .unset, .unset, .unset] [])) := entry rfl
  have c2 : Steps p.tables e below (s₁.setTop (entryFrame m #[.ref b, .int (Int32.ofNat o), .int (Int32.ofNat len)] 6)) (s₁.setTop (mkF m 1 #[.val (.ref b), .val (.int (Int32.ofNat o)), .val (.int (Int32.ofNat len)), .unset, .unset, .unset] [.int (Int32.ofNat len)])) := c1.trans (by
    refine XS.iloadN X0.here hexec rfl (hb hbytes d0) rfl ?_
    exact Steps.refl _)
  obtain ⟨T3, B3, X3, ba3, bs3, bv3, bh3, bf3, st3⟩ := X0.anew hexec (atype := .byte) (wk W (.arrayClass .byte)) rfl (by show len * 1 ≤ _; omega) (by omega) (g := (mkF m 1 #[.val (.ref b), .val (.int (Int32.ofNat o)), .val (.int (Int32.ofNat len)), .unset, .unset, .unset] [.int (Int32.ofNat len)])) rfl (hb hbytes d1) (rest := []) rfl (Nat.le_refl _) (by show 0 + len ≤ len; omega)
  rw [hh0] at ba3 st3
  have kp3 : XT.Kept s T3 := (XT.Kept.of_eq hh0).push bh3
  have hA3 := hA.keep X3.warmed.alike (kp3 _ _ hA.1.1)
  have hne : b ≠ s.heap.size := hA.1.ne
  have c4 : Steps p.tables e below (s₁.setTop (entryFrame m #[.ref b, .int (Int32.ofNat o), .int (Int32.ofNat len)] 6)) (T3.setTop (mkF m 3 #[.val (.ref b), .val (.int (Int32.ofNat o)), .val (.int (Int32.ofNat len)), .unset, .unset, .unset] [.ref s.heap.size])) := c2.trans (st3 _ (Steps.refl _))
  have c5 : Steps p.tables e below (s₁.setTop (entryFrame m #[.ref b, .int (Int32.ofNat o), .int (Int32.ofNat len)] 6)) (T3.setTop (mkF m 9 #[.val (.ref b), .val (.int (Int32.ofNat o)), .val (.int (Int32.ofNat len)), .val (.ref s.heap.size), .unset, .unset] [.int (Int32.ofNat len), .int 0, .ref s.heap.size, .int (Int32.ofNat o), .ref b])) := c4.trans (by
    refine XS.astoreN X3.here hexec rfl (hb hbytes d3) rfl rfl rfl ?_
    refine XS.aloadN X3.here hexec rfl (hb hbytes d4) rfl rfl ?_
    refine XS.iloadN X3.here hexec rfl (hb hbytes d5) rfl ?_
    refine XS.aloadN X3.here hexec rfl (hb hbytes d6) rfl rfl ?_
    refine iconstV X3.here hexec rfl 0 (hb hbytes d7) (by decide) ?_
    refine XS.iloadN X3.here hexec rfl (hb hbytes d8) rfl ?_
    exact Steps.refl _)
  obtain ⟨v6, T6, X6, E6, g6⟩ := X3.callS hexec (Cmp5.law l b A s.heap.size B3 o 0 len) hown (wks W (staticW U16 115 Cmp5.yN)) (wk W Cmp5.tab) (W := 0) (Nat.le_of_ble_eq_true rfl) (Nat.le_of_ble_eq_true rfl) (Nat.le_refl _) (by show 0 + len + 0 ≤ len; omega) (g := (mkF m 9 #[.val (.ref b), .val (.int (Int32.ofNat o)), .val (.int (Int32.ofNat len)), .val (.ref s.heap.size), .unset, .unset] [.int (Int32.ofNat len), .int (Int32.ofNat 0), .ref s.heap.size, .int (Int32.ofNat o), .ref b])) rfl (by rw [hml]; rfl) c5 (argsL := [.ref b, .int (Int32.ofNat o), .ref s.heap.size, .int (Int32.ofNat 0), .int (Int32.ofNat len)]) (rest := []) rfl rfl (by show 2 * 0 + 0 ≤ _; decide) (hb hbytes d9) (⟨rfl, hA3, ba3, hne, l1, by rw [bs3]; simp, hp⟩)
  obtain ⟨rfl, B6, p6, f6⟩ := E6
  have c7 : Steps p.tables e below (s₁.setTop (entryFrame m #[.ref b, .int (Int32.ofNat o), .int (Int32.ofNat len)] 6)) (T6.setTop (mkF m 12 #[.val (.ref b), .val (.int (Int32.ofNat o)), .val (.int (Int32.ofNat len)), .val (.ref s.heap.size), .unset, .unset] [.int (Int32.ofNat len)])) := g6
  have c8 : Steps p.tables e below (s₁.setTop (entryFrame m #[.ref b, .int (Int32.ofNat o), .int (Int32.ofNat len)] 6)) (T6.setTop (mkF m 58 #[.val (.ref b), .val (.int (Int32.ofNat o)), .val (.int (Int32.ofNat len)), .val (.ref s.heap.size), .val (.int (Int32.ofNat len)), .unset] [.ref s.heap.size])) := c7.trans (by
    refine XS.istore X6.here hexec rfl (hb hbytes d12) rfl rfl ?_
    refine XS.iload X6.here hexec rfl (hb hbytes d14) rfl ?_
    refine XS.iloadN X6.here hexec rfl (hb hbytes d16) rfl ?_
    refine XS.icmpYes X6.here hexec rfl (pc0 := 17) rfl (hb hbytes d17) rfl (ii_eq_t rfl) (by decide) rfl ?_
    refine XS.aloadN X6.here hexec rfl (hb hbytes d57) rfl rfl ?_
    exact Steps.refl _)
  have X8 := X6.wide (L' := []) (cells' := 1) (slots' := len) (fun x hx hlt => by
    simp only [List.nil_append, copyLocs, List.mem_map, List.mem_range] at hx
    obtain ⟨i, -, rfl⟩ := hx
    exact absurd hlt (Nat.lt_irrefl _)) (Nat.le_refl _) (by omega)
  exact ⟨T6, some (.ref s.heap.size), _, _, _, X8, rfl, rfl, rfl, (fun h => by cases h), ⟨⟨rfl, B6, ba3.like (X3.warmed.alike.symm.trans X6.warmed.alike) p6.1 f6.1 f6.2.1 f6.2.2.1, f6.2.1.trans bv3, by rw [X6.warmed.alike.findClass, f6.1]; exact bf3, by rw [f6.2.2.1, bs3]; simp, fun j hj => by rw [f6.2.2.2 j, if_pos (by omega)]; rfl, kp3.put p6 (Nat.le_refl _)⟩, by rw [p6.2.2, bh3, hh0]; simp⟩, fun fs hl => c8.trans (X8.areturnOut hexec rfl hret rfl (hb hbytes d58) hl)⟩
end Cmp3
namespace CodL
def yN : MethodName := ⟨"java/lang/StringUTF16", "coderFromArrayLen", "([BI)B"⟩
abbrev yB : ByteArray := jdk_52_method_15_code
theorem d0 : decode yB 0 = .ok (.iload_n 1, 1) := by decide +kernel
theorem d1 : decode yB 1 = .ok (.aload_n 0, 1) := by decide +kernel
theorem d2 : decode yB 2 = .ok (.arraylength, 1) := by decide +kernel
theorem d3 : decode yB 3 = .ok (.isub, 1) := by decide +kernel
theorem d4 : decode yB 4 = .ok (.bipush 31, 2) := by decide +kernel
theorem d6 : decode yB 6 = .ok (.iushr, 1) := by decide +kernel
theorem d7 : decode yB 7 = .ok (.i2b, 1) := by decide +kernel
theorem d8 : decode yB 8 = .ok (.ireturn, 1) := by decide +kernel
def site : List Cond := []
def tab : Cond := tabOf yN yB 2 (some .byte) site
def P (d : Addr) (B : Cell) (args : Array Value) (s : State) : Prop := args = #[.ref d, .int (Int32.ofNat B.slots.size)] ∧ Arr .byte d B s
def E (r : Option Value) (s u : State) : Prop := XT.PureE (some (.int 0)) r s u
/-- an array as long as the number of chars: LATIN1 -/
theorem law (l : Launch) (d : Addr) (B : Cell) : Law l yN 2 2 0 0 yB 2 (some .byte) site (P d B) E [] 0 0 := by
  refine Law.of_walk (plainFor_of_name (by decide +kernel)) (by decide +kernel) (by decide +kernel) (by decide) (fun _ _ h => by rw [h.1]; rfl) (fun _ U U' hal hh h => ⟨h.1, h.2.mv hal hh⟩) (fun r U U' V V' h1 hal h2 h => XT.PureE.mv r U U' V V' h1 hal h2 h) ?_
  intro p e s m args below meth c s₁ X0 hexec hbytes hml hret hlk hnm hown hh0 W hP
  obtain ⟨rfl, hB⟩ := hP
  have hB0 := hB.mv X0.warmed.alike hh0
  have c1 : Steps p.tables e below (s₁.setTop (entryFrame m #[.ref d, .int (Int32.ofNat B.slots.size)] 2)) (s₁.setTop (mkF m 0 #[.val (.ref d), .val (.int (Int32.ofNat B.slots.size))] [])) := entry rfl
  have c2 : Steps p.tables e below (s₁.setTop (entryFrame m #[.ref d, .int (Int32.ofNat B.slots.size)] 2)) (s₁.setTop (mkF m 2 #[.val (.ref d), .val (.int (Int32.ofNat B.slots.size))] [.ref d, .int (Int32.ofNat B.slots.size)])) := c1.trans (by
    refine XS.iloadN X0.here hexec rfl (hb hbytes d0) rfl ?_
    refine XS.aloadN X0.here hexec rfl (hb hbytes d1) rfl rfl ?_
    exact Steps.refl _)
  have c3 : Steps p.tables e below (s₁.setTop (entryFrame m #[.ref d, .int (Int32.ofNat B.slots.size)] 2)) (s₁.setTop (mkF m 8 #[.val (.ref d), .val (.int (Int32.ofNat B.slots.size))] [.int (lo8 (ushr (Int32.ofNat B.slots.size - Int32.ofNat B.slots.size) 31))])) := c2.trans (by
    refine X0.alen hexec hB0 rfl rfl (hb hbytes d2) ?_
    refine XS.isub X0.here hexec rfl (hb hbytes d3) rfl ?_
    refine bipushV X0.here hexec rfl 31 (hb hbytes d4) (by decide) ?_
    refine iushr X0.here hexec rfl (hb hbytes d6) rfl ?_
    refine i2b X0.here hexec rfl (hb hbytes d7) rfl ?_
    exact Steps.refl _)
  have e0 : lo8 (ushr (Int32.ofNat B.slots.size - Int32.ofNat B.slots.size) 31) = 0 := by rw [Int32.sub_self]; decide
  rw [e0] at c3
  exact ⟨s₁, some (.int 0), _, _, _, X0, rfl, rfl, rfl, (fun h => by cases h), ⟨rfl, hh0⟩, fun fs hl => c3.trans (X0.ireturnOut hexec hret rfl (Or.inr (Or.inr (Or.inl rfl))) (hb hbytes d8) hl)⟩
end CodL
/-- the String at a is Latin-1 over a new byte[] (the heap's one new cell): the low bytes of the len chars of A from o on; every cell but a is kept -/
def Got (a : Addr) (D : Cell) (fV fC : Field) (A : Cell) (o len : Nat) (r : Option Value) (s u : State) : Prop := r = none ∧ ∃ D' V : Cell, Blank "java/lang/String" a D' u ∧ Same D D' [fV.slot, fC.slot] ∧ D'.slots[fV.slot]? = some (.ref s.heap.size) ∧ D'.slots[fC.slot]? = some (.int 0) ∧ Arr .byte s.heap.size V u ∧ V.vm = .none ∧ u.vm.findClass "[B" = some V.cls ∧ V.slots.size = len ∧ (∀ j, j < len → V.slots[j]? = some (.int (lo8 (cv A (o + j))))) ∧ (∀ (y : Addr) (c : Cell), y ≠ a → s.heap[y]? = some c → u.heap[y]? = some c) ∧ u.heap.size = s.heap.size + 1
theorem Got.mv {a : Addr} {D A : Cell} {fV fC : Field} {o len : Nat} : ∀ r (U U' V V' : State), U'.heap = U.heap → V.vm.Alike V'.vm → V'.heap = V.heap → Got a D fV fC A o len r U V → Got a D fV fC A o len r U' V' :=
  fun r U U' V V' h1 hal h2 ⟨e0, D', X, a1, a2, a3, a4, a5, a6, a7, a8, a9, a10, a11⟩ => ⟨e0, D', X, a1.mv hal h2, a2, by rw [h1]; exact a3, a4, by rw [h1]; exact a5.mv hal h2, a6, by rw [hal.findClass]; exact a7, a8, a9, by rw [h1, h2]; exact a10, by rw [h1, h2]; exact a11⟩
namespace New4
def yN : MethodName := ⟨"java/lang/String", "<init>", "([CIILjava/lang/Void;)V"⟩
abbrev yB : ByteArray := jdk_42_method_149_code
theorem d0 : decode yB 0 = .ok (.aload_n 0, 1) := by decide +kernel
theorem d1 : decode yB 1 = .ok (.invokespecial 1, 3) := by decide +kernel
theorem d4 : decode yB 4 = .ok (.iload_n 3, 1) := by decide +kernel
theorem d5 : decode yB 5 = .ok (.ifCond (.ne) 22, 3) := by decide +kernel
theorem d27 : decode yB 27 = .ok (.getstatic 38, 3) := by decide +kernel
theorem d30 : decode yB 30 = .ok (.ifCond (.eq) 28, 3) := by decide +kernel
theorem d33 : decode yB 33 = .ok (.aload_n 1, 1) := by decide +kernel
theorem d34 : decode yB 34 = .ok (.iload_n 2, 1) := by decide +kernel
theorem d35 : decode yB 35 = .ok (.iload_n 3, 1) := by decide +kernel
theorem d36 : decode yB 36 = .ok (.invokestatic 177, 3) := by decide +kernel
theorem d39 : decode yB 39 = .ok (.astore 5, 2) := by decide +kernel
theorem d41 : decode yB 41 = .ok (.aload_n 0, 1) := by decide +kernel
theorem d42 : decode yB 42 = .ok (.aload 5, 2) := by decide +kernel
theorem d44 : decode yB 44 = .ok (.iload_n 3, 1) := by decide +kernel
theorem d45 : decode yB 45 = .ok (.invokestatic 47, 3) := by decide +kernel
theorem d48 : decode yB 48 = .ok (.putfield 15, 3) := by decide +kernel
theorem d51 : decode yB 51 = .ok (.aload_n 0, 1) := by decide +kernel
theorem d52 : decode yB 52 = .ok (.aload 5, 2) := by decide +kernel
theorem d54 : decode yB 54 = .ok (.putfield 9, 3) := by decide +kernel
theorem d57 : decode yB 57 = .ok (.return_, 1) := by decide +kernel
def site : List Cond := [.fieldLink "java/lang/String" 38 "java/lang/String" "COMPACT_STRINGS" "Z", Cmp3.tab, CodL.tab, .laysFinal "java/lang/String" "java/lang/String" "value" "[B", .fieldLink "java/lang/String" 9 "java/lang/String" "value" "[B", .laysFinal "java/lang/String" "java/lang/String" "coder" "B", .fieldLink "java/lang/String" 15 "java/lang/String" "coder" "B"] ++ objW "java/lang/String" 1 ++ staticW "java/lang/String" 177 Cmp3.yN ++ staticW "java/lang/String" 47 CodL.yN
def tab : Cond := tabOf yN yB 6 none site
def P (a : Addr) (D : Cell) (fV fC : Field) (b : Addr) (A : Cell) (z : Int32) (o len : Nat) (args : Array Value) (s : State) : Prop := args = #[.ref a, .ref b, .int (Int32.ofNat o), .int (Int32.ofNat len), .null] ∧ Blank "java/lang/String" a D s ∧ Found "java/lang/String" "value" "[B" fV s ∧ Found "java/lang/String" "coder" "B" fC s ∧ Ch b A s ∧ StaticIs s "java/lang/String" "COMPACT_STRINGS" "Z" (.int z) ∧ ¬ z = 0 ∧ 0 < len ∧ o + len ≤ A.slots.size ∧ len ≤ 536870912 ∧ ∀ i, i < len → ¬ 255 < cv A (o + i)
def E (a : Addr) (D : Cell) (fV fC : Field) (A : Cell) (o len : Nat) (r : Option Value) (s u : State) : Prop := Got a D fV fC A o len r s u
/-- len > 0, no char of the range above 255: a Latin-1 String of their low bytes -/
theorem law (l : Launch) (a : Addr) (D : Cell) (fV fC : Field) (b : Addr) (A : Cell) (z : Int32) (o len : Nat) : Law l yN 5 4 2 35 yB 6 none site (P a D fV fC b A z o len) (E a D fV fC A o len) [⟨a, fC.slot⟩, ⟨a, fV.slot⟩] 1 len := by
  refine Law.of_walk (plainFor_of_name (by decide +kernel)) (by decide +kernel) (by decide +kernel) (by decide) (fun _ _ h => by rw [h.1]; rfl) (fun _ U U' hal hh h => ⟨h.1, h.2.1.mv hal hh, h.2.2.1.al hal, h.2.2.2.1.al hal, h.2.2.2.2.1.mv hal hh, h.2.2.2.2.2.1.there hal hh, h.2.2.2.2.2.2⟩) (fun r U U' V V' h1 hal h2 h => Got.mv r U U' V V' h1 hal h2 h) ?_
  intro p e s m args below meth c s₁ X0 hexec hbytes hml hret hlk hnm hown hh0 W hP
  obtain ⟨rfl, hB, f1, f2, hA, s1, hz, l0, l1, l2, hp⟩ := hP
  have a31 := hA.1.2.2.2
  have c1 : Steps p.tables e below (s₁.setTop (entryFrame m #[.ref a, .ref b, .int (Int32.ofNat o), .int (Int32.ofNat len), .null] 6)) (s₁.setTop (mkF m 0 #[.val (.ref a), .val (.ref b), .val (.int (Int32.ofNat o)), .val (.int (Int32.ofNat len)), .val .null, .unset] [])) := entry rfl
  have c2 : Steps p.tables e below (s₁.setTop (entryFrame m #[.ref a, .ref b, .int (Int32.ofNat o), .int (Int32.ofNat len), .null] 6)) (s₁.setTop (mkF m 1 #[.val (.ref a), .val (.ref b), .val (.int (Int32.ofNat o)), .val (.int (Int32.ofNat len)), .val .null, .unset] [.ref a])) := c1.trans (by
    refine XS.aloadN X0.here hexec rfl (hb hbytes d0) rfl rfl ?_
    exact Steps.refl _)
  obtain ⟨T3, X3, q3, st3⟩ := X0.oinit hexec hown (wks W (objW "java/lang/String" 1)) (g := (mkF m 1 #[.val (.ref a), .val (.ref b), .val (.int (Int32.ofNat o)), .val (.int (Int32.ofNat len)), .val .null, .unset] [.ref a])) rfl (by rw [hml]; rfl) (rest := []) rfl (hb hbytes d1) (W := 0) (by show 2 * 0 + 0 ≤ _; decide) (Nat.le_of_ble_eq_true rfl) (Nat.le_of_ble_eq_true rfl)
  have hh3 := q3.trans hh0
  have c4 : Steps p.tables e below (s₁.setTop (entryFrame m #[.ref a, .ref b, .int (Int32.ofNat o), .int (Int32.ofNat len), .null] 6)) (T3.setTop (mkF m 27 #[.val (.ref a), .val (.ref b), .val (.int (Int32.ofNat o)), .val (.int (Int32.ofNat len)), .val .null, .unset] [])) := (c2.trans (st3 _ (Steps.refl _))).trans (by
    refine XS.iloadN X3.here hexec rfl (hb hbytes d4) rfl ?_
    refine XS.ifYes X3.here hexec rfl (pc0 := 5) rfl (hb hbytes d5) rfl (i0_ne_t (nz32 (by omega) l0)) (by decide) rfl ?_
    exact Steps.refl _)
  obtain ⟨T5, X5, q5, st5⟩ := X3.sget hexec hown (wk W (.fieldLink "java/lang/String" 38 "java/lang/String" "COMPACT_STRINGS" "Z")) s1 (fun _ _ h => by rw [hh3]; exact h) (g := (mkF m 27 #[.val (.ref a), .val (.ref b), .val (.int (Int32.ofNat o)), .val (.int (Int32.ofNat len)), .val .null, .unset] [])) rfl (hb hbytes d27)
  have hh5 := q5.trans hh3
  have c6 : Steps p.tables e below (s₁.setTop (entryFrame m #[.ref a, .ref b, .int (Int32.ofNat o), .int (Int32.ofNat len), .null] 6)) (T5.setTop (mkF m 30 #[.val (.ref a), .val (.ref b), .val (.int (Int32.ofNat o)), .val (.int (Int32.ofNat len)), .val .null, .unset] [.int z])) := c4.trans (st5 _ (Steps.refl _))
  have c7 : Steps p.tables e below (s₁.setTop (entryFrame m #[.ref a, .ref b, .int (Int32.ofNat o), .int (Int32.ofNat len), .null] 6)) (T5.setTop (mkF m 36 #[.val (.ref a), .val (.ref b), .val (.int (Int32.ofNat o)), .val (.int (Int32.ofNat len)), .val .null, .unset] [.int (Int32.ofNat len), .int (Int32.ofNat o), .ref b])) := c6.trans (by
    refine XS.ifNo X5.here hexec rfl (hb hbytes d30) rfl (i0_eq_f hz) ?_
    refine XS.aloadN X5.here hexec rfl (hb hbytes d33) rfl rfl ?_
    refine XS.iloadN X5.here hexec rfl (hb hbytes d34) rfl ?_
    refine XS.iloadN X5.here hexec rfl (hb hbytes d35) rfl ?_
    exact Steps.refl _)
  obtain ⟨v8, T8, X8, E8, g8⟩ := X5.callS hexec (Cmp3.law l b A o len) hown (wks W (staticW "java/lang/String" 177 Cmp3.yN)) (wk W Cmp3.tab) (W := 0) (Nat.le_of_ble_eq_true rfl) (Nat.le_of_ble_eq_true rfl) (Nat.le_refl _) (by show 0 + len ≤ len; omega) (g := (mkF m 36 #[.val (.ref a), .val (.ref b), .val (.int (Int32.ofNat o)), .val (.int (Int32.ofNat len)), .val .null, .unset] [.int (Int32.ofNat len), .int (Int32.ofNat o), .ref b])) rfl (by rw [hml]; rfl) c7 (argsL := [.ref b, .int (Int32.ofNat o), .int (Int32.ofNat len)]) (rest := []) rfl rfl (by show 2 * 0 + 0 ≤ _; decide) (hb hbytes d36) (⟨rfl, hA.mv X5.warmed.alike hh5, l1, l2, hp⟩)
  obtain ⟨e8, z8⟩ := E8
  obtain ⟨rfl, N, n1, n2, n3, n4, n5, n6⟩ := NewArr.mv _ T5 s _ _ hh5.symm (Vm.Alike.refl _) rfl e8
  rw [hh5] at z8
  have hB1 := hB.keep X8.warmed.alike (n6 _ _ hB.1)
  have hne : s.heap.size ≠ a := (Nat.ne_of_lt (Array.getElem?_eq_some_iff.mp hB.1).1).symm
  have c9 : Steps p.tables e below (s₁.setTop (entryFrame m #[.ref a, .ref b, .int (Int32.ofNat o), .int (Int32.ofNat len), .null] 6)) (T8.setTop (mkF m 39 #[.val (.ref a), .val (.ref b), .val (.int (Int32.ofNat o)), .val (.int (Int32.ofNat len)), .val .null, .unset] [.ref s.heap.size])) := g8
  have c10 : Steps p.tables e below (s₁.setTop (entryFrame m #[.ref a, .ref b, .int (Int32.ofNat o), .int (Int32.ofNat len), .null] 6)) (T8.setTop (mkF m 45 #[.val (.ref a), .val (.ref b), .val (.int (Int32.ofNat o)), .val (.int (Int32.ofNat len)), .val .null, .val (.ref s.heap.size)] [.int (Int32.ofNat N.slots.size), .ref s.heap.size, .ref a])) := by
    have hc : Steps p.tables e below (s₁.setTop (entryFrame m #[.ref a, .ref b, .int (Int32.ofNat o), .int (Int32.ofNat len), .null] 6)) (T8.setTop (mkF m 45 #[.val (.ref a), .val (.ref b), .val (.int (Int32.ofNat o)), .val (.int (Int32.ofNat len)), .val .null, .val (.ref s.heap.size)] [.int (Int32.ofNat len), .ref s.heap.size, .ref a])) := c9.trans (by
      refine XS.astore X8.here hexec rfl (hb hbytes d39) rfl rfl rfl ?_
      refine XS.aloadN X8.here hexec rfl (hb hbytes d41) rfl rfl ?_
      refine XS.aload X8.here hexec rfl (hb hbytes d42) rfl rfl ?_
      refine XS.iloadN X8.here hexec rfl (hb hbytes d44) rfl ?_
      exact Steps.refl _)
    rw [n4]; exact hc
  obtain ⟨v11, T11, X11, E11, g11⟩ := X8.callS hexec (CodL.law l s.heap.size N) hown (wks W (staticW "java/lang/String" 47 CodL.yN)) (wk W CodL.tab) (W := 1) (Nat.le_of_ble_eq_true rfl) (Nat.le_of_ble_eq_true rfl) (Nat.le_refl _) (by show 0 + len + 0 ≤ len; omega) (g := (mkF m 45 #[.val (.ref a), .val (.ref b), .val (.int (Int32.ofNat o)), .val (.int (Int32.ofNat len)), .val .null, .val (.ref s.heap.size)] [.int (Int32.ofNat N.slots.size), .ref s.heap.size, .ref a])) rfl (by rw [hml]; rfl) c10 (argsL := [.ref s.heap.size, .int (Int32.ofNat N.slots.size)]) (rest := [.ref a]) rfl rfl (by show 2 * 0 + (1 + 0) ≤ _; decide) (hb hbytes d45) (⟨rfl, n1⟩)
  obtain ⟨rfl, q11⟩ := E11
  have hB11 := hB1.mv (X8.warmed.alike.symm.trans X11.warmed.alike) q11
  have c12 : Steps p.tables e below (s₁.setTop (entryFrame m #[.ref a, .ref b, .int (Int32.ofNat o), .int (Int32.ofNat len), .null] 6)) (T11.setTop (mkF m 48 #[.val (.ref a), .val (.ref b), .val (.int (Int32.ofNat o)), .val (.int (Int32.ofNat len)), .val .null, .val (.ref s.heap.size)] [.int 0, .ref a])) := g11
  obtain ⟨T13, X13, p13, bl13, sl13, st13⟩ := X11.finit hexec hown (wk W (.fieldLink "java/lang/String" 15 "java/lang/String" "coder" "B")) (Or.inr ⟨_, (wk W (.laysFinal "java/lang/String" "java/lang/String" "coder" "B"))⟩) (Or.inl ⟨rfl, hnm⟩) f2 (Or.inl rfl) hB11 (t := .byte) (by decide +kernel) rfl (g := (mkF m 48 #[.val (.ref a), .val (.ref b), .val (.int (Int32.ofNat o)), .val (.int (Int32.ofNat len)), .val .null, .val (.ref s.heap.size)] [.int 0, .ref a])) rfl (rest := []) rfl (hb hbytes d48)
  have c14 : Steps p.tables e below (s₁.setTop (entryFrame m #[.ref a, .ref b, .int (Int32.ofNat o), .int (Int32.ofNat len), .null] 6)) (T13.setTop (mkF m 54 #[.val (.ref a), .val (.ref b), .val (.int (Int32.ofNat o)), .val (.int (Int32.ofNat len)), .val .null, .val (.ref s.heap.size)] [.ref s.heap.size, .ref a])) := (c12.trans (st13 _ (Steps.refl _))).trans (by
    refine XS.aloadN X13.here hexec rfl (hb hbytes d51) rfl rfl ?_
    refine XS.aload X13.here hexec rfl (hb hbytes d52) rfl rfl ?_
    exact Steps.refl _)
  obtain ⟨T15, X15, p15, bl15, sl15, st15⟩ := X13.finit hexec hown (wk W (.fieldLink "java/lang/String" 9 "java/lang/String" "value" "[B")) (Or.inr ⟨_, (wk W (.laysFinal "java/lang/String" "java/lang/String" "value" "[B"))⟩) (Or.inl ⟨rfl, hnm⟩) f1 (Or.inl rfl) bl13 (t := (.array .byte)) (by decide +kernel) rfl (g := (mkF m 54 #[.val (.ref a), .val (.ref b), .val (.int (Int32.ofNat o)), .val (.int (Int32.ofNat len)), .val .null, .val (.ref s.heap.size)] [.ref s.heap.size, .ref a])) rfl (rest := []) rfl (hb hbytes d54)
  have c16 : Steps p.tables e below (s₁.setTop (entryFrame m #[.ref a, .ref b, .int (Int32.ofNat o), .int (Int32.ofNat len), .null] 6)) (T15.setTop (mkF m 57 #[.val (.ref a), .val (.ref b), .val (.int (Int32.ofNat o)), .val (.int (Int32.ofNat len)), .val .null, .val (.ref s.heap.size)] [])) := c14.trans (st15 _ (Steps.refl _))
  have ap := apart (Or.inr ⟨_, (wk W (.laysFinal "java/lang/String" "java/lang/String" "value" "[B"))⟩) (Or.inr ⟨_, (wk W (.laysFinal "java/lang/String" "java/lang/String" "coder" "B"))⟩) f1 f2 (t₁ := .array .byte) (t₂ := .byte) (by decide +kernel) (by decide +kernel) (by decide)
  have al := X8.warmed.alike.symm.trans X15.warmed.alike
  have n7 : T11.heap[s.heap.size]? = some N := by rw [q11]; exact n1.1
  exact ⟨T15, none, _, _, _, X15, by simp, rfl, by omega, (fun _ => rfl), ⟨rfl, _, N, bl15, ((Same.refl D _).set _ (by simp)).set _ (by simp), sl15, (Cell.slots_setSlot_ne _ ap).trans sl13, n1.keep al (p15.other hne (p13.other hne n7)), n2, by rw [al.findClass]; exact n3, n4, n5, fun y c h1 h2 => p15.other h1 (p13.other h1 (by rw [q11]; exact n6 y c h2)), by rw [p15.2.2, p13.2.2, q11]; exact z8⟩, fun fs hl => c16.trans (X15.returnOut hexec hret (hb hbytes d57) hl)⟩
end New4
namespace New1
def yN : MethodName := ⟨"java/lang/String", "<init>", "([C)V"⟩
abbrev yB : ByteArray := jdk_42_method_3_code
theorem d0 : decode yB 0 = .ok (.aload_n 0, 1) := by decide +kernel
theorem d1 : decode yB 1 = .ok (.aload_n 1, 1) := by decide +kernel
theorem d2 : decode yB 2 = .ok (.iconst 0, 1) := by decide +kernel
theorem d3 : decode yB 3 = .ok (.aload_n 1, 1) := by decide +kernel
theorem d4 : decode yB 4 = .ok (.arraylength, 1) := by decide +kernel
theorem d5 : decode yB 5 = .ok (.aconst_null, 1) := by decide +kernel
theorem d6 : decode yB 6 = .ok (.invokespecial 27, 3) := by decide +kernel
theorem d9 : decode yB 9 = .ok (.return_, 1) := by decide +kernel
def site : List Cond := [New4.tab] ++ initW "java/lang/String" 27 New4.yN
def tab : Cond := tabOf yN yB 2 none site
def P (a : Addr) (D : Cell) (fV fC : Field) (b : Addr) (A : Cell) (z : Int32) (args : Array Value) (s : State) : Prop := args = #[.ref a, .ref b] ∧ Blank "java/lang/String" a D s ∧ Found "java/lang/String" "value" "[B" fV s ∧ Found "java/lang/String" "coder" "B" fC s ∧ Ch b A s ∧ StaticIs s "java/lang/String" "COMPACT_STRINGS" "Z" (.int z) ∧ ¬ z = 0 ∧ 0 < A.slots.size ∧ A.slots.size ≤ 536870912 ∧ ∀ i, i < A.slots.size → ¬ 255 < cv A i
def E (a : Addr) (D : Cell) (fV fC : Field) (A : Cell) (r : Option Value) (s u : State) : Prop := Got a D fV fC A 0 A.slots.size r s u
/-- new String(chars), not empty, no char above 255: a Latin-1 String of their low bytes -/
theorem law (l : Launch) (a : Addr) (D : Cell) (fV fC : Field) (b : Addr) (A : Cell) (z : Int32) : Law l yN 2 1 3 52 yB 2 none site (P a D fV fC b A z) (E a D fV fC A) [⟨a, fC.slot⟩, ⟨a, fV.slot⟩] 1 A.slots.size := by
  refine Law.of_walk (plainFor_of_name (by decide +kernel)) (by decide +kernel) (by decide +kernel) (by decide) (fun _ _ h => by rw [h.1]; rfl) (fun _ U U' hal hh h => ⟨h.1, h.2.1.mv hal hh, h.2.2.1.al hal, h.2.2.2.1.al hal, h.2.2.2.2.1.mv hal hh, h.2.2.2.2.2.1.there hal hh, h.2.2.2.2.2.2⟩) (fun r U U' V V' h1 hal h2 h => Got.mv r U U' V V' h1 hal h2 h) ?_
  intro p e s m args below meth c s₁ X0 hexec hbytes hml hret hlk hnm hown hh0 W hP
  obtain ⟨rfl, hB, f1, f2, hA, s1, hz, l0, l2, hp⟩ := hP
  have c1 : Steps p.tables e below (s₁.setTop (entryFrame m #[.ref a, .ref b] 2)) (s₁.setTop (mkF m 0 #[.val (.ref a), .val (.ref b)] [])) := entry rfl
  have c2 : Steps p.tables e below (s₁.setTop (entryFrame m #[.ref a, .ref b] 2)) (s₁.setTop (mkF m 6 #[.val (.ref a), .val (.ref b)] [.null, .int (Int32.ofNat A.slots.size), .int 0, .ref b, .ref a])) := c1.trans (by
    refine XS.aloadN X0.here hexec rfl (hb hbytes d0) rfl rfl ?_
    refine XS.aloadN X0.here hexec rfl (hb hbytes d1) rfl rfl ?_
    refine iconstV X0.here hexec rfl 0 (hb hbytes d2) (by decide) ?_
    refine XS.aloadN X0.here hexec rfl (hb hbytes d3) rfl rfl ?_
    refine X0.alen hexec (hA.1.mv X0.warmed.alike hh0) rfl rfl (hb hbytes d4) ?_
    refine XS.aconstNull X0.here hexec rfl (hb hbytes d5) ?_
    exact Steps.refl _)
  obtain ⟨v3, T3, X3, E3, g3⟩ := X0.callN hexec (New4.law l a D fV fC b A z 0 A.slots.size) rfl hown (wks W (initW "java/lang/String" 27 New4.yN)) (W New4.tab (by simp only [site, List.mem_cons, List.mem_append, true_or, or_true])) (W := 0) (Nat.le_of_ble_eq_true rfl) (Nat.le_of_ble_eq_true rfl) (Nat.le_refl _) (by show 0 + A.slots.size ≤ A.slots.size; omega) (g := (mkF m 6 #[.val (.ref a), .val (.ref b)] [.null, .int (Int32.ofNat A.slots.size), .int (Int32.ofNat 0), .ref b, .ref a])) rfl (by rw [hml]; rfl) c2 (argsL := [.ref b, .int (Int32.ofNat 0), .int (Int32.ofNat A.slots.size), .null]) (rest := []) rfl rfl (by show 2 * 0 + 0 ≤ _; decide) (hb hbytes d6) (⟨rfl, hB.mv X0.warmed.alike hh0, f1.al X0.warmed.alike, f2.al X0.warmed.alike, hA.mv X0.warmed.alike hh0, s1.there X0.warmed.alike hh0, hz, l0, by omega, l2, fun i hi => by rw [Nat.zero_add]; exact hp i hi⟩)
  have e0 := Got.mv _ s₁ s _ _ hh0.symm (Vm.Alike.refl _) rfl E3
  obtain rfl := e0.1
  have c4 : Steps p.tables e below (s₁.setTop (entryFrame m #[.ref a, .ref b] 2)) (T3.setTop (mkF m 9 #[.val (.ref a), .val (.ref b)] [])) := g3
  exact ⟨T3, none, _, _, _, X3, by simp, rfl, by omega, (fun _ => rfl), e0, fun fs hl => c4.trans (X3.returnOut hexec hret (hb hbytes d9) hl)⟩
theorem pays {l : Launch} {R : Room} {p : Program} {e : Env} {below : List Frame} {s : State} {sargs : Array Value} {len W : Nat} (a : Addr) (D : Cell) (fV fC : Field) (b : Addr) (A : Cell) (z : Int32) (htab : tab.before sargs s = true) (hfr : 4 ≤ R.frames) (hlo : W + 65 ≤ R.locals) :
    Back l R p e below s sargs yN len W (fun A₁ a₁ => A₁.cells + 1 ≤ R.cells ∧ A₁.slots + A.slots.size ≤ R.slots ∧ P a D fV fC b A z a₁ A₁.U) (fun A₁ _ v₁ B₁ => E a D fV fC A v₁ A₁.U B₁.U ∧ B₁.locs = A₁.locs ++ [⟨a, fC.slot⟩, ⟨a, fV.slot⟩] ∧ B₁.cells = A₁.cells + 1 ∧ B₁.slots = A₁.slots + A.slots.size) :=
  (law l a D fV fC b A z).pays htab hfr (by omega)
end New1
end StrChars
namespace StrChars.Road
open Jvm Sem ClassFile Op Lib Jvm.Stand Jvm.Free Jvm.Free.XT
open Jvm.Lib.Cold (StaticIs)
abbrev ST : String := "java/lang/String"
/-- every table word that New1's law asks, flat -/
abbrev words : List Jvm.Cond := [.code New1.yN New1.yB 2 none, .initialized ST, .methodLink ST 27 New4.yN, .instanceMethod New4.yN,
  .code New4.yN New4.yB 6 none, .fieldLink ST 38 ST "COMPACT_STRINGS" "Z", .laysFinal ST ST "value" "[B", .fieldLink ST 9 ST "value" "[B", .laysFinal ST ST "coder" "B", .fieldLink ST 15 ST "coder" "B",
  .methodLink ST 1 Lib.objectInit, .instanceMethod Lib.objectInit, .code Lib.objectInit ⟨#[0xb1]⟩ 1 none, .methodLink ST 177 Cmp3.yN, .static Cmp3.yN, .methodLink ST 47 CodL.yN, .static CodL.yN,
  .code Cmp3.yN Cmp3.yB 6 (some (.array .byte)), .initialized U16, .arrayClass .byte, .methodLink U16 115 Cmp5.yN, .static Cmp5.yN, .code Cmp5.yN Cmp5.yB 7 (some .int), .code CodL.yN CodL.yB 2 (some .byte)]
theorem tab_of {a : Array Value} {s : State} (h : ∀ w ∈ words, w.before a s = true) : New1.tab.before a s = true := by
  have h5 : Cmp5.tab.before a s = true := unparts (wk h (.code Cmp5.yN Cmp5.yB 7 (some .int))) (wks h (.initialized Cmp5.yN.cls :: Cmp5.site))
  have hc : CodL.tab.before a s = true := unparts (wk h (.code CodL.yN CodL.yB 2 (some .byte))) (wks h (.initialized CodL.yN.cls :: CodL.site))
  have q5 : ∀ w ∈ Cmp5.tab :: words, w.before a s = true := fun w hw => (List.mem_cons.mp hw).elim (fun e => e ▸ h5) (h w)
  have h3 : Cmp3.tab.before a s = true := unparts (wk q5 (.code Cmp3.yN Cmp3.yB 6 (some (.array .byte)))) (wks q5 (.initialized Cmp3.yN.cls :: Cmp3.site))
  have q3 : ∀ w ∈ Cmp3.tab :: CodL.tab :: words, w.before a s = true := fun w hw => (List.mem_cons.mp hw).elim (fun e => e ▸ h3) fun hw => (List.mem_cons.mp hw).elim (fun e => e ▸ hc) (h w)
  have h4 : New4.tab.before a s = true := unparts (wk q3 (.code New4.yN New4.yB 6 none)) (wks q3 (.initialized New4.yN.cls :: New4.site))
  have q4 : ∀ w ∈ New4.tab :: words, w.before a s = true := fun w hw => (List.mem_cons.mp hw).elim (fun e => e ▸ h4) (h w)
  exact unparts (wk q4 (.code New1.yN New1.yB 2 none)) (wks q4 (.initialized New1.yN.cls :: New1.site))
/-- the words ride from the start Z to the walk's own state -/
theorem moved {Z s : State} {a0 args : Array Value} (hZ : Z.Warmed39 s.vm) (hw : ∀ d ∈ words, d.before a0 Z = true) : ∀ d ∈ words, d.before args s = true := fun d hd => by
  have q := hw d hd
  have t : ∀ d ∈ words, d = .arrayClass .byte ∨ (d.onTables && d.keepsFace) = true := by decide +kernel
  rcases t d hd with rfl | t
  · exact RoadKit.mvA hZ q
  · exact RoadKit.mv hZ q t
/-- WHAT COMES BACK, over the tables of the start Z: h the heap at the call, h' behind it -/
def Q (Z : State) (x : Addr) (A : Cell) (h : Heap) (v : Option Value) (h' : Heap) (L : List Loc) : Prop := v = none ∧ (∀ y ∈ L, y.base = x) ∧ RoadKit.Keep h h' [x] ∧ h'.size = h.size + 1 ∧ RoadKit.Exa Z h' x ST ∧ RoadKit.Fld Z h' x ST "value" "[B" (.ref h.size) ∧ RoadKit.Fld Z h' x ST "coder" "B" (.int 0) ∧
  (∃ V : Cell, RoadKit.Arr Z h' h.size V .byte ∧ V.vm = .none ∧ Z.vm.findClass "[B" = some V.cls ∧ V.slots.size = A.slots.size ∧ ∀ j, j < A.slots.size → V.slots[j]? = some (.int (lo8 (cv A j)))) ∧
  ∀ (O n d : String) (w : Value), RoadKit.Fld Z h x O n d w → RoadKit.slotOf Z O n d ≠ RoadKit.slotOf Z ST "value" "[B" → RoadKit.slotOf Z O n d ≠ RoadKit.slotOf Z ST "coder" "B" → RoadKit.Fld Z h' x O n d w
/-- **new String(chars) AT A CALL, IN THE ROAD'S FORM**: for specialBack behind newO: x the fresh String, b the char[] with the cell A -/
theorem back {p : Program} {l : Launch} {e : Env} {R : Room} {s : State} {args : Array Value} {below : List Frame} {len W : Nat} {Z : State} {a0 : Array Value} {h : Heap} (hZ : Z.Warmed39 s.vm) (hw : ∀ d ∈ words, d.before a0 Z = true) {kI : Nat} (wi : (Jvm.Cond.instantiable ST kI).before a0 Z = true)
    {x b : Addr} {A : Cell} {z : Int32} {v0 c0 : Value} (E : RoadKit.Exa Z h x ST) (V : RoadKit.Fld Z h x ST "value" "[B" v0) (C : RoadKit.Fld Z h x ST "coder" "B" c0) (K : RoadKit.Arr Z h b A .char) (hty : Typed .char A) (S : RoadKit.Sta Z h ST "COMPACT_STRINGS" "Z" (.int z)) (hz : ¬ z = 0)
    (l0 : 0 < A.slots.size) (l2 : A.slots.size ≤ 536870912) (hp : ∀ i, i < A.slots.size → ¬ 255 < cv A i) (hfr : 4 ≤ R.frames) (hlo : W + 65 ≤ R.locals) :
    Back l R p e below s args New1.yN len W (fun P a => a = #[.ref x, .ref b] ∧ P.U.heap = h ∧ P.cells + 1 ≤ R.cells ∧ P.slots + A.slots.size ≤ R.slots)
      (fun P _ v B => ∃ L, Q Z x A h v B.U.heap L ∧ B.locs = P.locs ++ L ∧ B.cells = P.cells + 1 ∧ B.slots = P.slots + A.slots.size) := by
  intro m meth c P g ig mk a X hg hsize hdg hW hn hp'
  obtain ⟨rfl, rfl, r1, r2⟩ := hp'
  have al : Z.vm.Alike P.U.vm := hZ.alike.trans X.warmed.alike
  obtain ⟨D, cfV, kV, iV, fV, hD, gV, stV, knV, obV, asV, slV⟩ := id V
  obtain ⟨D', cfC, kC, iC, fC, hD', gC, stC, -, -, asC, slC⟩ := id C
  cases hD.symm.trans hD'
  obtain ⟨D2, kD, e1, e2, e3, e4, e5⟩ := id E
  cases hD.symm.trans e1
  obtain ⟨c2, k2, i1, i2, i3, -⟩ := Cond.instantiable_spec wi
  cases e2.symm.trans i1
  cases e3.symm.trans i2
  obtain ⟨kU, u1, u2⟩ := al.2.2 _ _ e3
  have hB : Blank ST x D P.U := ⟨hD, ⟨knV, fun q hq => by rw [hq] at obV; cases obV⟩, by rw [al.findClass]; exact e2, kU, u1, by rw [u2]; exact i3, by rw [u2]; exact e5 i3⟩
  have F1 : Found ST "value" "[B" fV P.U := ⟨SBG.found_only al ⟨cfV, kV, iV, gV⟩, stV⟩
  have F2 : Found ST "coder" "B" fC P.U := ⟨SBG.found_only al ⟨cfC, kC, iC, gC⟩, stC⟩
  have hA : Ch b A P.U := ⟨⟨K.1, State.isArrayOf_alike al K.2.1, K.2.2, by omega⟩, hty⟩
  have hS : StaticIs P.U ST "COMPACT_STRINGS" "Z" (.int z) := by
    obtain ⟨cfS, iS, kS, fS, st, cS, t1, t2, t3, t4, t5, t6, t7⟩ := S
    exact StaticIs.there (s := { Z with heap := P.U.heap }) ⟨cfS, iS, kS, fS, st, cS, t1, t2, t3, t4, t5, (fun q => by rw [q] at t6; cases t6), t7⟩ al rfl
  obtain ⟨v, B, X', ⟨⟨hv, E', V', q1, q2, q3, q4, q5, q6, q7, q8, q9, q10, q11⟩, hl, hc, hs⟩, st⟩ := New1.pays x D fV fC b A z (tab_of (moved hZ hw)) hfr hlo m meth c P g ig mk _ X hg hsize hdg hW hn ⟨r1, r2, rfl, hB, F1, F2, hA, hS, hz, l0, l2, hp⟩
  have al' : Z.vm.Alike B.U.vm := hZ.alike.trans X'.warmed.alike
  have hsz : E'.slots.size = D.slots.size := by
    obtain ⟨-, -, -, kB, w1, w2, w3⟩ := q1
    obtain ⟨kB', y1, y2⟩ := al'.2.2 _ _ e3
    rw [q2.2.1] at w1
    cases w1.symm.trans y1
    rw [w3, e5 i3, y2]
  refine ⟨v, B, X', ⟨_, ⟨hv, ?_, ⟨by omega, fun y cy hy hn' => q10 y cy (by simpa using hn') hy, fun y cy hy => ?_⟩, q11, ⟨E', _, q1.1, by rw [q2.2.1]; exact e2, by rw [q2.2.1]; exact e3, by rw [q2.1]; exact obV, fun _ => by rw [hsz]; exact e5 i3⟩,
    ⟨E', cfV, kV, iV, fV, q1.1, gV, stV, by rw [q2.1]; exact knV, by rw [q2.1]; exact obV, by rw [q2.2.1]; exact asV, q3⟩, ⟨E', cfC, kC, iC, fC, q1.1, gC, stC, by rw [q2.1]; exact knV, by rw [q2.1]; exact obV, by rw [q2.2.1]; exact asC, q4⟩,
    ⟨V', ⟨q5.1, State.isArrayOf_alike al'.symm q5.2.1, q5.2.2.1⟩, q6, by rw [← al'.findClass]; exact q7, q8, fun j hj => by have := q9 j hj; rwa [Nat.zero_add] at this⟩, fun O n d w F n1 n2 => ?_⟩, hl, hc, hs⟩, st⟩
  · intro y hy
    simp only [List.mem_cons, List.not_mem_nil, or_false] at hy
    rcases hy with rfl | rfl <;> rfl
  · by_cases q : y = x
    · subst q
      cases hD.symm.trans hy
      exact ⟨E', q1.1, q2.2.1, q2.1, hsz⟩
    · exact ⟨cy, q10 y cy q hy, rfl, rfl, rfl⟩
  · obtain ⟨D3, cf, k, i, f, g1, g2, g3, g4, g5, g6, g7⟩ := F
    cases hD.symm.trans g1
    simp only [RoadKit.slotOf, g2, gV, gC, Option.map_some, Option.getD_some] at n1 n2
    exact ⟨E', cf, k, i, f, q1.1, g2, g3, by rw [q2.1]; exact g4, by rw [q2.1]; exact g5, by rw [q2.2.1]; exact g6, by rw [q2.2.2 f.slot (by simp [n1, n2])]; exact g7⟩
end StrChars.Road
namespace StrChars.Road
open Jvm Sem ClassFile Op Lib Jvm.Stand Jvm.Free Jvm.Free.XT
/-- WHAT COMES BACK, the byte[] as a list of values -/
def QA (Z : State) (x : Addr) (zn : Int32) (cs : List Int32) (h : Heap) (v : Option Value) (h' : Heap) (L : List Loc) : Prop := v = none ∧ (∀ y ∈ L, y.base = x) ∧ RoadKit.Keep h h' [x] ∧ h'.size = h.size + 1 ∧ RoadKit.Exa Z h' x ST ∧ RoadKit.Fld Z h' x ST "value" "[B" (.ref h.size) ∧ RoadKit.Fld Z h' x ST "coder" "B" (.int 0) ∧
  (∃ kb, Z.vm.findClass "[B" = some kb ∧ RoadKit.Arv Z h' h.size kb .byte zn (cs.map fun c => .int (lo8 c)) (.int 0)) ∧
  ∀ (O n d : String) (w : Value), RoadKit.Fld Z h x O n d w → RoadKit.slotOf Z O n d ≠ RoadKit.slotOf Z ST "value" "[B" → RoadKit.slotOf Z O n d ≠ RoadKit.slotOf Z ST "coder" "B" → RoadKit.Fld Z h' x O n d w
/-- **new String(chars) AT A CALL, THE ARRAYS AS LISTS**: the char[] at b holds cs, not empty, no char above 255 -/
theorem backArv {p : Program} {l : Launch} {e : Env} {R : Room} {s : State} {args : Array Value} {below : List Frame} {len W : Nat} {Z : State} {a0 : Array Value} {h : Heap} (hZ : Z.Warmed39 s.vm) (hw : ∀ d ∈ words, d.before a0 Z = true) {kI : Nat} (wi : (Jvm.Cond.instantiable ST kI).before a0 Z = true)
    {x b : Addr} {k : ClassId} {zn z : Int32} {cs : List Int32} {dv v0 c0 : Value} (E : RoadKit.Exa Z h x ST) (V : RoadKit.Fld Z h x ST "value" "[B" v0) (C : RoadKit.Fld Z h x ST "coder" "B" c0) (K : RoadKit.Arv Z h b k .char zn (cs.map Value.int) dv) (S : RoadKit.Sta Z h ST "COMPACT_STRINGS" "Z" (.int z)) (hz : ¬ z = 0)
    (hlen : zn.toNatClampNeg = cs.length) (h0 : 0 < cs.length) (hbig : cs.length ≤ 536870912) (hall : ∀ c ∈ cs, ¬ 255 < c) (hfr : 4 ≤ R.frames) (hlo : W + 65 ≤ R.locals) :
    Back l R p e below s args New1.yN len W (fun P a => a = #[.ref x, .ref b] ∧ P.U.heap = h ∧ P.cells + 1 ≤ R.cells ∧ P.slots + cs.length ≤ R.slots)
      (fun P _ v B => ∃ L, QA Z x zn cs h v B.U.heap L ∧ B.locs = P.locs ++ L ∧ B.cells = P.cells + 1 ∧ B.slots = P.slots + cs.length) := by
  obtain ⟨A, K1, K2, K3, K4, K5, K6⟩ := K
  have e : A.slots.size = cs.length := K3.trans hlen
  have hat : ∀ (i : Nat) (hi : i < cs.length), A.slots[i]? = some (.int cs[i]) := fun i hi => by rw [K5 i (by omega)]; simp [List.getD_eq_getElem?_getD, hi]
  have hcv : ∀ (i : Nat) (hi : i < cs.length), cv A i = cs[i] := fun i hi => by unfold cv; rw [hat i hi]
  have hty : Typed .char A := fun i v hv => by
    have hi : i < A.slots.size := (Array.getElem?_eq_some_iff.mp hv).1
    have q := K5 i hi
    rw [hv] at q
    rw [Option.some.inj q]
    exact K6 i hi
  refine Back.mono (back hZ hw wi E V C K1 hty S hz (by omega) (by omega) (fun i hi => by rw [hcv i (by omega)]; exact hall _ (List.getElem_mem _)) hfr hlo) (fun P a hp => ⟨hp.1, hp.2.1, hp.2.2.1, by rw [e]; exact hp.2.2.2⟩) (fun P a v B hp hq => ?_)
  obtain ⟨L, ⟨q1, q2, q3, q4, q5, q6, q7, ⟨V', v1, v2, v3, v4, v5⟩, q9⟩, hl, hc, hs⟩ := hq
  refine ⟨L, ⟨q1, q2, q3, q4, q5, q6, q7, ⟨V'.cls, v3, V', v1, rfl, by rw [v4, e, hlen], K4, fun i hi => ?_, fun i hi => ?_⟩, q9⟩, hl, hc, by rw [hs, e]⟩
  · have hi' : i < cs.length := by omega
    rw [v5 i (by omega), hcv i hi']; simp [List.getD_eq_getElem?_getD, hi']
  · have hi' : i < cs.length := by omega
    simp only [List.getD_eq_getElem?_getD, List.getElem?_map, List.getElem?_eq_getElem hi', Option.map_some, Option.getD_some]
    exact fits_lo8 _
end StrChars.Road
namespace StrChars.Road
open Jvm Sem ClassFile Op Lib Jvm.Stand Jvm.Free Jvm.Free.XT
/-- WHAT COMES BACK, in the writer's own shape -/
def QV (Z : State) (x : Addr) (N : Int32) (bs : List Int32) (h : Heap) (n0 : Nat) (v : Option Value) (h' : Heap) (L : List Loc) : Prop := v = none ∧ RoadKit.Fr n0 L ∧ RoadKit.Keep h h' [x] ∧ RoadKit.Exa Z h' x ST ∧ RoadKit.Fld Z h' x ST "coder" "B" (.int 0) ∧
  ∃ (t : Addr) (kb : ClassId), n0 ≤ t ∧ h.size ≤ t ∧ ¬ t = x ∧ RoadKit.Fld Z h' x ST "value" "[B" (.ref t) ∧ RoadKit.Arv Z h' t kb .byte N (bs.map Value.int) (.int 0)
/-- **new String(chars) AT A CALL, FOR THE WRITER**: a char[] of n known ints, each 0 to 255 -/
theorem backV {p : Program} {l : Launch} {e : Env} {R : Room} {s : State} {args : Array Value} {below : List Frame} {len W : Nat} {Z : State} {a0 : Array Value} {h : Heap} (hZ : Z.Warmed39 s.vm) (hw : ∀ d ∈ words, d.before a0 Z = true) {kI : Nat} (wi : (Jvm.Cond.instantiable ST kI).before a0 Z = true)
    {x b : Addr} {kC : ClassId} {cs bs : List Int32} {d v0 c0 : Value} {z N : Int32} {n n0 : Nat} (hx0 : n0 ≤ x) (hh0 : n0 ≤ h.size) (E : RoadKit.Exa Z h x ST) (V : RoadKit.Fld Z h x ST "value" "[B" v0) (C : RoadKit.Fld Z h x ST "coder" "B" c0) (K : RoadKit.Arv Z h b kC .char N (cs.map Value.int) d) (S : RoadKit.Sta Z h ST "COMPACT_STRINGS" "Z" (.int z)) (hz : ¬ z = 0)
    (hn : cs.length = n) (hN : N = Int32.ofNat n) (l0 : 0 < n) (l2 : n ≤ 4000) (hp : ∀ c ∈ cs, ¬ c < 0 ∧ ¬ (255 : Int32) < c) (hb : bs = cs.map (fun c => c.toInt8.toInt32)) (hfr : 4 ≤ R.frames) (hlo : W + 65 ≤ R.locals) :
    Back l R p e below s args (⟨"java/lang/String", "<init>", "([C)V"⟩ : MethodName) len W (fun P a => a = #[.ref x, .ref b] ∧ P.U.heap = h ∧ P.cells + 1 ≤ R.cells ∧ P.slots + n ≤ R.slots)
      (fun P _ v B => ∃ L, QV Z x N bs h n0 v B.U.heap L ∧ B.locs = P.locs ++ L ∧ B.cells = P.cells + 1 ∧ B.slots = P.slots + n) := by
  subst hn hN hb
  refine Back.mono (backArv hZ hw wi E V C K S hz (n32 (by omega)) l0 (by omega) (fun c hc => (hp c hc).2) hfr hlo) (fun P a hp => hp) (fun P a v B hp hq => ?_)
  obtain ⟨L, ⟨q1, q2, q3, q4, q5, q6, q7, ⟨kb, v1, v2⟩, q9⟩, hl, hc, hs⟩ := hq
  exact ⟨L, ⟨q1, fun y hy => by rw [q2 y hy]; exact hx0, q3, q5, q7, h.size, kb, hh0, Nat.le_refl _, Nat.ne_of_gt E.lt, q6, by rw [List.map_map]; exact v2⟩, hl, hc, hs⟩
end StrChars.Road
end Jvm.Pilot.@@N@@
namespace Jvm.Pilot.@@N@@
open Jvm Jvm.ClassFile Sem Op Lib Jvm.Free Jvm.Stand Jvm.LawKit Jvm.RoadKit Bundle Jvm.Pilot.@@N@@.Jvm.D
theorem tw {Z : State} {a0 : Array Value} (hw : ∀ d ∈ tables_1, d.before a0 Z = true) (i : Nat) {d : Jvm.Cond} (h : tables_1[i]? = some d) : d.before a0 Z = true := hw d (List.mem_of_getElem? h)
abbrev MF (l : Launch) (Z : State) (y : MethodName) (cd : Jvm.Cond) (ws : List Jvm.Cond) (rm : Room) (A : Array Value) (h0 : Heap) (Q : Option Value → Heap → List Loc → Prop) : Prop := MetFree l y (head1 (cd :: ws) rm) (fun a U => a = A ∧ Z.Warmed39 U.vm ∧ U.heap = h0) (fun _ _ _ _ _ => True) (fun _ U o U' => ∃ v L, o = .returned v ∧ Q v U'.heap L ∧ FrameEnd U o U' L rm.cells rm.slots)
def Fine (p : Program) (e : Env) (below : List Frame) (s : State) (n0 : Nat) (S0 : State) : Prop := ∃ s₂ o, Steps p.tables e below S0 s₂ ∧ s₂.status = .running ∧ Ended s₂ below o ∧ ∃ v L, o = .returned v ∧ (v = some (.int (1 : Int32)) ∧ Fr n0 L) ∧ FrameEnd s o s₂ L room_1.cells room_1.slots
theorem Fine.pre {p : Program} {e : Env} {below : List Frame} {s S0 S1 : State} {n0 : Nat} (k : ∀ t, Steps p.tables e below S1 t → Steps p.tables e below S0 t) (h : Fine p e below s n0 S1) : Fine p e below s n0 S0 := by
  obtain ⟨u, o, h1, h2⟩ := h; exact ⟨u, o, k _ h1, h2⟩
def FineW (p : Program) (e : Env) (below : List Frame) (s : State) (n0 : Nat) (S0 : State) : Prop := ∃ s₂ o, Steps p.tables e below S0 s₂ ∧ s₂.status = .running ∧ Ended s₂ below o ∧ ∃ v L, o = .returned v ∧ (v = some (.int (1 : Int32)) ∧ Fr n0 L) ∧ ReturnedEndW s o s₂ L room_1.cells room_1.slots
theorem FineW.pre {p : Program} {e : Env} {below : List Frame} {s S0 S1 : State} {n0 : Nat} (k : ∀ t, Steps p.tables e below S1 t → Steps p.tables e below S0 t) (h : FineW p e below s n0 S1) : FineW p e below s n0 S0 := by
  obtain ⟨u, o, h1, h2⟩ := h; exact ⟨u, o, k _ h1, h2⟩
abbrev MFW (l : Launch) (Z : State) (y : MethodName) (cd : Jvm.Cond) (ws : List Jvm.Cond) (rm : Room) (A : Array Value) (h0 : Heap) (Q : Option Value → Heap → List Loc → Prop) : Prop := MetFree l y (head1 (cd :: ws) rm) (fun a U => a = A ∧ Z.Warmed39 U.vm ∧ U.heap = h0) (fun _ _ _ _ _ => True) (fun _ U o U' => ∃ v L, o = .returned v ∧ Q v U'.heap L ∧ ReturnedEndW U o U' L rm.cells rm.slots)
abbrev SF (p : Program) (e : Env) (below : List Frame) (T : State) (g : JFrame) (t : State) : Prop := Steps p.tables e below (T.setTop g) t
abbrev HW (Z : State) (a0 : Array Value) : Prop := ∀ d ∈ tables_1, d.before a0 Z = true
theorem own_mod3 (a : Int32) : ((a &&& (2147483647 : Int32)) % (3 : Int32)) = (0 : Int32) ∨ ((a &&& (2147483647 : Int32)) % (3 : Int32)) = (1 : Int32) ∨ ((a &&& (2147483647 : Int32)) % (3 : Int32)) = (2 : Int32) := by
  have h1 := (c_and a (2147483647 : Int32)) (by decide)
  have h2 := (c_iremV (a &&& (2147483647 : Int32)) (3 : Int32)).1 h1.1 (by decide)
  have e : (3 : Int32).toInt = 3 := rfl
  rw [e] at h2
  simp only [← Int32.toInt_inj]
  show _ = (0 : Int) ∨ _ = (1 : Int) ∨ _ = (2 : Int)
  omega
theorem own_chars (x : Int32) : ¬ nar .char ((x &&& (255 : Int32)).toUInt32.toUInt16.toUInt32.toInt32) < 0 ∧ ¬ (255 : Int32) < nar .char ((x &&& (255 : Int32)).toUInt32.toUInt16.toUInt32.toInt32) := by
  have t : ∀ k : Fin 256, ¬ nar .char ((Int32.ofNat k.val).toUInt32.toUInt16.toUInt32.toInt32) < 0 ∧ ¬ (255 : Int32) < nar .char ((Int32.ofNat k.val).toUInt32.toUInt16.toUInt32.toInt32) := by decide +kernel
  have h : (x &&& 255).toBitVec.toNat < 256 := by
    simp only [Int32.toBitVec_and, BitVec.toNat_and]
    exact Nat.lt_succ_of_le Nat.and_le_right
  have e : (x &&& 255) = Int32.ofNat (x &&& 255).toBitVec.toNat := by
    apply Int32.toBitVec_inj.mp
    show _ = BitVec.ofNat 32 _
    rw [BitVec.ofNat_toNat]; simp
  rw [e]
  exact t ⟨_, h⟩
theorem own_up (cs : List Int32) (h : ∀ c ∈ cs, ¬ c < 0 ∧ ¬ (255 : Int32) < c) : ∀ c ∈ cs, ¬ c < 0 ∧ ¬ (65535 : Int32) < c := fun c hc => ⟨(h c hc).1, fun q => (h c hc).2 (by rw [Int32.lt_iff_toInt_lt] at q ⊢; have e1 : (65535 : Int32).toInt = 65535 := rfl; have e2 : (255 : Int32).toInt = 255 := rfl; omega)⟩
theorem own_words : ∀ d ∈ StrChars.Road.words, d ∈ tables_1 := by decide +kernel
theorem pd_0 : parseMethodDescriptor "([C)V" = some ⟨[(.array .char)], none⟩ := by decide +kernel
theorem own_strA : ∀ d ∈ Bundle.stringAtoms, d ∈ tables_1 := by decide +kernel
theorem d7_0 : decode prog_13_method_1_code 0 = .ok (.aload_n 0, 1) := by decide +kernel
theorem d7_1 : decode prog_13_method_1_code 1 = .ok (.invokespecial 1, 3) := by decide +kernel
theorem d8_0 : decode jdk_30_method_1_code 0 = .ok (.aload_n 0, 1) := by decide +kernel
theorem d8_1 : decode jdk_30_method_1_code 1 = .ok (.invokespecial 1, 3) := by decide +kernel
theorem d8_4 : decode jdk_30_method_1_code 4 = .ok (.return_, 1) := by decide +kernel
theorem pn_0 : plainName "java/lang/Record" = true := by first | (simp [plainName, overriddenIn]; done) | decide +kernel
theorem ef_0 (m : MethodId) (x0 : Addr) : entryFrame m #[(.ref x0)] 1 = mkF m 0 #[.val (.ref x0)] [] := by first | (simp [entryFrame, mkF, argsToLocals, Value.category]; done) | rfl
-- Record.init 
def Q8_1 (Z : State) (u1 : Addr) (h0 : Heap) (n0 : Nat) (v : Option Value) (h : Heap) (L : List Loc) : Prop := v = none ∧ Fr n0 L ∧ h = h0
set_option maxRecDepth 65536 in
set_option maxHeartbeats 40000000 in
theorem rm8_1 (l : Launch) (Z : State) (a0 : Array Value) (hw : HW Z a0) (ws : List Jvm.Cond) (u1 : Addr) (h0 : Heap) (n0 : Nat) (Z0 : n0 ≤ h0.size) :
    MF l Z (⟨"java/lang/Record", "<init>", "()V"⟩ : MethodName) (Jvm.Cond.code (⟨"java/lang/Record", "<init>", "()V"⟩ : MethodName) jdk_30_method_1_code 1 none) ws ({ frames := 1, cells := 0, slots := 0, locals := 12 } : Room) #[(.ref u1)] h0 (Q8_1 Z u1 h0 n0) := by
  refine MetFree.of_bodySF (plainFor_of_name pn_0) hisR ?_
  intro p e s m args below meth c s₁ Bd hml0 hP hK
  obtain ⟨rfl, hZ, hh⟩ := hP
  have hx := Bd.exec
  have hby := Bd.bytes
  have hml : c.maxLocals = 1 := hml0
  have hown : s.vm.findClass "java/lang/Record" = some m.cls := findClass_of_methodNamed Bd.named
  have hnm := (name_of_methodNamed Bd.named Bd.method).1
  have X0 : Stand p l e ({ frames := 1, cells := 0, slots := 0, locals := 12 } : Room) s m #[(.ref u1)] below meth c s₁ [] 0 0 := Stand.of_body Bd
  have e0 : s₁.heap = h0 := by rw [← hh, Bd.state]; rfl
  have N0 := Fr.nil n0
  have pre0 : ∀ t, SF p e below s₁ (mkF m 0 #[rv u1] []) t → SF p e below s₁ (entryFrame m #[(.ref u1)] 1) t := fun t k => castTop (ef_0 m u1) k
  obtain ⟨T1, X1, e1, st1⟩ := initO X0 hx hZ hown (tw hw 48 rfl) (tw hw 12 rfl) (tw hw 13 rfl) e0 (g := (mkF m 1 #[rv u1] [(.ref u1)])) rfl (by rw [hml]; rfl) rfl (hb hby d8_1) (by decide) (W := 0) (by show 2 * 0 + _ ≤ _; exact Nat.le_of_eq rfl) (by decide)
  obtain ⟨fs, hr, hrun, hended, hW, hsame⟩ := X1.leave (v := none) (fun _ => rfl)
  refine ⟨_, _, pre0 _ ?_, hrun, hended, _, _, rfl, ?_, ⟨_, rfl⟩, hW, hsame.mono (by decide) (by decide)⟩
  · show SF p e below s₁ (mkF m 0 #[rv u1] []) _
    refine XS.aloadN X0.here hx rfl (hb hby d8_0) rfl rfl ?_
    show SF p e below s₁ (mkF m 1 #[rv u1] [(.ref u1)]) _
    refine st1 _ ?_
    show SF p e below T1 (mkF m 4 #[rv u1] []) _
    exact X1.returnOut hx Bd.returns (hb hby d8_4) hr
  · show Q8_1 Z u1 h0 n0 _ T1.heap _
    rw [e1]
    exact ⟨rfl, N0, rfl⟩
theorem pd_1 : parseMethodDescriptor "()V" = some ⟨[], none⟩ := by decide +kernel
theorem d7_4 : decode prog_13_method_1_code 4 = .ok (.aload_n 1, 1) := by decide +kernel
theorem d7_5 : decode prog_13_method_1_code 5 = .ok (.ldc 7, 2) := by decide +kernel
theorem d7_7 : decode prog_13_method_1_code 7 = .ok (.invokestatic 9, 3) := by decide +kernel
theorem d9_0 : decode jdk_31_method_11_code 0 = .ok (.aload_n 0, 1) := by decide +kernel
theorem d9_1 : decode jdk_31_method_11_code 1 = .ok (.ifnonnull 12, 3) := by decide +kernel
theorem d9_13 : decode jdk_31_method_11_code 13 = .ok (.aload_n 0, 1) := by decide +kernel
theorem d9_14 : decode jdk_31_method_11_code 14 = .ok (.areturn, 1) := by decide +kernel
theorem pn_1 : plainName "java/util/Objects" = true := by first | (simp [plainName, overriddenIn]; done) | decide +kernel
theorem ef_1 (m : MethodId) (x0 : Addr) (x1 : Addr) : entryFrame m #[(.ref x0), (.ref x1)] 2 = mkF m 0 #[.val (.ref x0), .val (.ref x1)] [] := by first | (simp [entryFrame, mkF, argsToLocals, Value.category]; done) | rfl
-- Objects.requireNonNull 
def Q9_2 (Z : State) (w1 : Addr) (u1 : Addr) (h0 : Heap) (n0 : Nat) (v : Option Value) (h : Heap) (L : List Loc) : Prop := v = some (.ref w1) ∧ Fr n0 L ∧ h = h0
set_option maxRecDepth 65536 in
set_option maxHeartbeats 40000000 in
theorem rm9_2 (l : Launch) (Z : State) (a0 : Array Value) (hw : HW Z a0) (ws : List Jvm.Cond) (w1 : Addr) (u1 : Addr) (h0 : Heap) (n0 : Nat) (Z0 : n0 ≤ h0.size) :
    MF l Z (⟨"java/util/Objects", "requireNonNull", "(Ljava/lang/Object;Ljava/lang/String;)Ljava/lang/Object;"⟩ : MethodName) (Jvm.Cond.code (⟨"java/util/Objects", "requireNonNull", "(Ljava/lang/Object;Ljava/lang/String;)Ljava/lang/Object;"⟩ : MethodName) jdk_31_method_11_code 2 (some (.object "java/lang/Object"))) ws ({ frames := 0, cells := 0, slots := 0, locals := 0 } : Room) #[(.ref w1), (.ref u1)] h0 (Q9_2 Z w1 u1 h0 n0) := by
  refine MetFree.of_bodySF (plainFor_of_name pn_1) hisR ?_
  intro p e s m args below meth c s₁ Bd hml0 hP hK
  obtain ⟨rfl, hZ, hh⟩ := hP
  have hx := Bd.exec
  have hby := Bd.bytes
  have hml : c.maxLocals = 2 := hml0
  have hown : s.vm.findClass "java/util/Objects" = some m.cls := findClass_of_methodNamed Bd.named
  have hnm := (name_of_methodNamed Bd.named Bd.method).1
  have X0 : Stand p l e ({ frames := 0, cells := 0, slots := 0, locals := 0 } : Room) s m #[(.ref w1), (.ref u1)] below meth c s₁ [] 0 0 := Stand.of_body Bd
  have e0 : s₁.heap = h0 := by rw [← hh, Bd.state]; rfl
  have N0 := Fr.nil n0
  have pre0 : ∀ t, SF p e below s₁ (mkF m 0 #[rv w1, rv u1] []) t → SF p e below s₁ (entryFrame m #[(.ref w1), (.ref u1)] 2) t := fun t k => castTop (ef_1 m w1 u1) k
  obtain ⟨fs, hr, hrun, hended, hW, hsame⟩ := X0.leave (v := some (.ref w1)) (fun h => by rw [Bd.returns] at h; cases h)
  refine ⟨_, _, pre0 _ ?_, hrun, hended, _, _, rfl, ?_, ⟨_, rfl⟩, hW, hsame.mono (by decide) (by decide)⟩
  · show SF p e below s₁ (mkF m 0 #[rv w1, rv u1] []) _
    refine XS.aloadN X0.here hx rfl (hb hby d9_0) rfl rfl ?_
    show SF p e below s₁ (mkF m 1 #[rv w1, rv u1] [(.ref w1)]) _
    refine XS.ifnonnullYes X0.here hx rfl (pc0 := 1) (pc' := 13) rfl (hb hby d9_1) rfl (by decide) (by decide) ?_
    show SF p e below s₁ (mkF m 13 #[rv w1, rv u1] []) _
    refine XS.aloadN X0.here hx rfl (hb hby d9_13) rfl rfl ?_
    show SF p e below s₁ (mkF m 14 #[rv w1, rv u1] [(.ref w1)]) _
    exact own_retR X0 hx Bd.returns rfl rfl (hb hby d9_14) hr
  · show Q9_2 Z w1 u1 h0 n0 _ s₁.heap _
    rw [e0]
    exact ⟨rfl, N0, rfl⟩
theorem pd_2 : parseMethodDescriptor "(Ljava/lang/Object;Ljava/lang/String;)Ljava/lang/Object;" = some ⟨[(.object "java/lang/Object"), (.object "java/lang/String")], some (.object "java/lang/Object")⟩ := by decide +kernel
theorem d7_10 : decode prog_13_method_1_code 10 = .ok (.pop, 1) := by decide +kernel
theorem d7_11 : decode prog_13_method_1_code 11 = .ok (.aload_n 2, 1) := by decide +kernel
theorem d7_12 : decode prog_13_method_1_code 12 = .ok (.ldc 15, 2) := by decide +kernel
theorem d7_14 : decode prog_13_method_1_code 14 = .ok (.invokestatic 9, 3) := by decide +kernel
-- Objects.requireNonNull 
def Q9_3 (Z : State) (u1 : Addr) (u2 : Addr) (h0 : Heap) (n0 : Nat) (v : Option Value) (h : Heap) (L : List Loc) : Prop := v = some (.ref u1) ∧ Fr n0 L ∧ h = h0
set_option maxRecDepth 65536 in
set_option maxHeartbeats 40000000 in
theorem rm9_3 (l : Launch) (Z : State) (a0 : Array Value) (hw : HW Z a0) (ws : List Jvm.Cond) (u1 : Addr) (u2 : Addr) (h0 : Heap) (n0 : Nat) (Z0 : n0 ≤ h0.size) :
    MF l Z (⟨"java/util/Objects", "requireNonNull", "(Ljava/lang/Object;Ljava/lang/String;)Ljava/lang/Object;"⟩ : MethodName) (Jvm.Cond.code (⟨"java/util/Objects", "requireNonNull", "(Ljava/lang/Object;Ljava/lang/String;)Ljava/lang/Object;"⟩ : MethodName) jdk_31_method_11_code 2 (some (.object "java/lang/Object"))) ws ({ frames := 0, cells := 0, slots := 0, locals := 0 } : Room) #[(.ref u1), (.ref u2)] h0 (Q9_3 Z u1 u2 h0 n0) := by
  refine MetFree.of_bodySF (plainFor_of_name pn_1) hisR ?_
  intro p e s m args below meth c s₁ Bd hml0 hP hK
  obtain ⟨rfl, hZ, hh⟩ := hP
  have hx := Bd.exec
  have hby := Bd.bytes
  have hml : c.maxLocals = 2 := hml0
  have hown : s.vm.findClass "java/util/Objects" = some m.cls := findClass_of_methodNamed Bd.named
  have hnm := (name_of_methodNamed Bd.named Bd.method).1
  have X0 : Stand p l e ({ frames := 0, cells := 0, slots := 0, locals := 0 } : Room) s m #[(.ref u1), (.ref u2)] below meth c s₁ [] 0 0 := Stand.of_body Bd
  have e0 : s₁.heap = h0 := by rw [← hh, Bd.state]; rfl
  have N0 := Fr.nil n0
  have pre0 : ∀ t, SF p e below s₁ (mkF m 0 #[rv u1, rv u2] []) t → SF p e below s₁ (entryFrame m #[(.ref u1), (.ref u2)] 2) t := fun t k => castTop (ef_1 m u1 u2) k
  obtain ⟨fs, hr, hrun, hended, hW, hsame⟩ := X0.leave (v := some (.ref u1)) (fun h => by rw [Bd.returns] at h; cases h)
  refine ⟨_, _, pre0 _ ?_, hrun, hended, _, _, rfl, ?_, ⟨_, rfl⟩, hW, hsame.mono (by decide) (by decide)⟩
  · show SF p e below s₁ (mkF m 0 #[rv u1, rv u2] []) _
    refine XS.aloadN X0.here hx rfl (hb hby d9_0) rfl rfl ?_
    show SF p e below s₁ (mkF m 1 #[rv u1, rv u2] [(.ref u1)]) _
    refine XS.ifnonnullYes X0.here hx rfl (pc0 := 1) (pc' := 13) rfl (hb hby d9_1) rfl (by decide) (by decide) ?_
    show SF p e below s₁ (mkF m 13 #[rv u1, rv u2] []) _
    refine XS.aloadN X0.here hx rfl (hb hby d9_13) rfl rfl ?_
    show SF p e below s₁ (mkF m 14 #[rv u1, rv u2] [(.ref u1)]) _
    exact own_retR X0 hx Bd.returns rfl rfl (hb hby d9_14) hr
  · show Q9_3 Z u1 u2 h0 n0 _ s₁.heap _
    rw [e0]
    exact ⟨rfl, N0, rfl⟩
theorem d7_17 : decode prog_13_method_1_code 17 = .ok (.pop, 1) := by decide +kernel
theorem d7_18 : decode prog_13_method_1_code 18 = .ok (.aload_n 3, 1) := by decide +kernel
theorem d7_19 : decode prog_13_method_1_code 19 = .ok (.ldc 17, 2) := by decide +kernel
theorem d7_21 : decode prog_13_method_1_code 21 = .ok (.invokestatic 9, 3) := by decide +kernel
theorem d7_24 : decode prog_13_method_1_code 24 = .ok (.pop, 1) := by decide +kernel
theorem d7_25 : decode prog_13_method_1_code 25 = .ok (.aload_n 0, 1) := by decide +kernel
theorem d7_26 : decode prog_13_method_1_code 26 = .ok (.aload_n 1, 1) := by decide +kernel
theorem d7_27 : decode prog_13_method_1_code 27 = .ok (.putfield 19, 3) := by decide +kernel
theorem d7_30 : decode prog_13_method_1_code 30 = .ok (.aload_n 0, 1) := by decide +kernel
theorem d7_31 : decode prog_13_method_1_code 31 = .ok (.aload_n 2, 1) := by decide +kernel
theorem d7_32 : decode prog_13_method_1_code 32 = .ok (.putfield 24, 3) := by decide +kernel
theorem d7_35 : decode prog_13_method_1_code 35 = .ok (.aload_n 0, 1) := by decide +kernel
theorem d7_36 : decode prog_13_method_1_code 36 = .ok (.aload_n 3, 1) := by decide +kernel
theorem d7_37 : decode prog_13_method_1_code 37 = .ok (.putfield 27, 3) := by decide +kernel
theorem d7_40 : decode prog_13_method_1_code 40 = .ok (.aload_n 0, 1) := by decide +kernel
theorem d7_41 : decode prog_13_method_1_code 41 = .ok (.iload 4, 2) := by decide +kernel
theorem d7_43 : decode prog_13_method_1_code 43 = .ok (.putfield 29, 3) := by decide +kernel
theorem d7_46 : decode prog_13_method_1_code 46 = .ok (.return_, 1) := by decide +kernel
theorem pn_2 : plainName "com/example/clausewright/clausewright/Division" = true := by first | (simp [plainName, overriddenIn]; done) | decide +kernel
theorem ef_2 (m : MethodId) (x0 : Addr) (x1 : Addr) (x2 : Addr) (x3 : Addr) (x4 : Int32) : entryFrame m #[(.ref x0), (.ref x1), (.ref x2), (.ref x3), (.int x4)] 5 = mkF m 0 #[.val (.ref x0), .val (.ref x1), .val (.ref x2), .val (.ref x3), .val (.int x4)] [] := by first | (simp [entryFrame, mkF, argsToLocals, Value.category]; done) | rfl
-- Division.init 
def Q7_4 (Z : State) (u1 : Addr) (w1 : Addr) (u2 : Addr) (u3 : Addr) (u4 : Int32) (h0 : Heap) (n0 : Nat) (v : Option Value) (h : Heap) (L : List Loc) : Prop := v = none ∧ Fr n0 L ∧ Keep h0 h [u1] ∧ Exa Z h u1 "com/example/clausewright/clausewright/Division" ∧ Fld Z h u1 "com/example/clausewright/clausewright/Division" "kind" "Lcom/example/clausewright/clausewright/Division$Kind;" (.ref w1) ∧ Fld Z h u1 "com/example/clausewright/clausewright/Division" "number" "Ljava/lang/String;" (.ref u2) ∧ Fld Z h u1 "com/example/clausewright/clausewright/Division" "heading" "Ljava/lang/String;" (.ref u3) ∧ Fld Z h u1 "com/example/clausewright/clausewright/Division" "line" "I" (.int u4)
set_option maxRecDepth 65536 in
set_option maxHeartbeats 40000000 in
theorem rm7_4 (l : Launch) (Z : State) (a0 : Array Value) (hw : HW Z a0) (ws : List Jvm.Cond) (u1 : Addr) (w1 : Addr) (u2 : Addr) (u3 : Addr) (u4 : Int32) (h0 : Heap) (n0 : Nat) (Z0 : n0 ≤ h0.size) (P1 : Exa Z h0 u1 "com/example/clausewright/clausewright/Division") (P2 : Fld Z h0 u1 "com/example/clausewright/clausewright/Division" "kind" "Lcom/example/clausewright/clausewright/Division$Kind;" .null) (P3 : Fld Z h0 u1 "com/example/clausewright/clausewright/Division" "number" "Ljava/lang/String;" .null) (P4 : Fld Z h0 u1 "com/example/clausewright/clausewright/Division" "heading" "Ljava/lang/String;" .null) (P5 : Fld Z h0 u1 "com/example/clausewright/clausewright/Division" "line" "I" (.int 0)) (P6 : n0 ≤ u1) :
    MFW l Z (⟨"com/example/clausewright/clausewright/Division", "<init>", "(Lcom/example/clausewright/clausewright/Division$Kind;Ljava/lang/String;Ljava/lang/String;I)V"⟩ : MethodName) (Jvm.Cond.code (⟨"com/example/clausewright/clausewright/Division", "<init>", "(Lcom/example/clausewright/clausewright/Division$Kind;Ljava/lang/String;Ljava/lang/String;I)V"⟩ : MethodName) prog_13_method_1_code 5 none) ws ({ frames := 2, cells := 6, slots := 80, locals := 24 } : Room) #[(.ref u1), (.ref w1), (.ref u2), (.ref u3), (.int u4)] h0 (Q7_4 Z u1 w1 u2 u3 u4 h0 n0) := by
  refine MetFree.of_bodySF (plainFor_of_name pn_2) hisR ?_
  intro p e s m args below meth c s₁ Bd hml0 hP hK
  obtain ⟨rfl, hZ, hh⟩ := hP
  have hx := Bd.exec
  have hby := Bd.bytes
  have hml : c.maxLocals = 5 := hml0
  have hown : s.vm.findClass "com/example/clausewright/clausewright/Division" = some m.cls := findClass_of_methodNamed Bd.named
  have hnm := (name_of_methodNamed Bd.named Bd.method).1
  have X0 : Stand p l e ({ frames := 2, cells := 6, slots := 80, locals := 24 } : Room) s m #[(.ref u1), (.ref w1), (.ref u2), (.ref u3), (.int u4)] below meth c s₁ [] 0 0 := Stand.of_body Bd
  have e0 : s₁.heap = h0 := by rw [← hh, Bd.state]; rfl
  have N0 := Fr.nil n0
  have pre0 : ∀ t, SF p e below s₁ (mkF m 0 #[rv u1, rv w1, rv u2, rv u3, iv u4] []) t → SF p e below s₁ (entryFrame m #[(.ref u1), (.ref w1), (.ref u2), (.ref u3), (.int u4)] 5) t := fun t k => castTop (ef_2 m u1 w1 u2 u3 u4) k
  obtain ⟨_, _, ⟨T1, L1, k1x, n1⟩, -, X1, ⟨Lc1, hQ1, l1, y1, z1⟩, st1⟩ := X0.specialBack hx (y := (⟨"java/lang/Record", "<init>", "()V"⟩ : MethodName)) rfl hown (mvT hZ (tw hw 43 rfl)) (mvT hZ (tw hw 44 rfl)) (mvT hZ (tw hw 47 rfl)) (by decide) (backOf (W := 0) (rm8_1 l Z a0 hw [] u1 h0 n0 Z0 ) hZ (tw hw 47 rfl) (tw hw 46 rfl) (by decide) (by decide)) (g := (mkF m 1 #[rv u1, rv w1, rv u2, rv u3, iv u4] [(.ref u1)])) rfl (by rw [hml]; rfl) (Steps.refl _) (a := u1) (argsL := []) (rest := []) (lenOf pd_1 rfl) rfl (by show 2 * 0 + _ ≤ _; exact Nat.le_of_eq rfl) (hb hby d7_1) (fun _ _ => ⟨rfl, e0, (by decide : 0 + 0 ≤ _), (by decide : 0 + 0 ≤ _)⟩)
  dsimp only [Pt.U, Pt.locs, Pt.cells, Pt.slots] at X1 l1 y1 z1 st1 hQ1
  subst l1 y1 z1
  obtain ⟨rfl, N1q, e1⟩ := hQ1
  have N1 := Fr.app N0 N1q
  have hwSA : ∀ d ∈ Bundle.stringAtoms, d.before a0 Z = true := fun d hd => hw d (own_strA d hd)
  have hS0 : s.Since s.vm h0.size := State.WarmedH.since (State.WarmedH.refl s) _
  have hk0 : h0.size ≤ h0.size := Nat.le_refl _
  obtain ⟨w5x, T2, h2, kq2, X2, e2, E2, hS2, hk2, hZ2, hown2, st2⟩ := ldcS (s := s) (vm0 := s.vm) X1 hx hZ hown (tw hw 49 rfl) hwSA e1 hS0 hk0 (g := (mkF m 5 #[rv u1, rv w1, rv u2, rv u3, iv u4] [(.ref w1)])) rfl (hb hby d7_5) (n := 16) (by decide) (by decide) (by decide) (by decide)
  have K2 : Keep h0 h2 [u1] := (Keep.refl h0 [u1]).ext E2
  have Z2 : n0 ≤ h2.size := Nat.le_trans Z0 E2.1
  obtain ⟨_, _, ⟨T3, L3, k3x, n3⟩, -, X3, ⟨Lc3, hQ3, l3, y3, z3⟩, st3⟩ := Jvm.LawKit.callS X2 hx (y := (⟨"java/util/Objects", "requireNonNull", "(Ljava/lang/Object;Ljava/lang/String;)Ljava/lang/Object;"⟩ : MethodName)) hown2 (mvT hZ2 (tw hw 50 rfl)) (mvT hZ2 (tw hw 51 rfl)) (mvT hZ2 (tw hw 52 rfl)) (mvT hZ2 (tw hw 53 rfl)) (by decide) (backOf (W := 0) (rm9_2 l Z a0 hw [] w1 w5x h2 n0 Z2 ) hZ2 (tw hw 53 rfl) (tw hw 52 rfl) (by decide) (by decide)) (g := (mkF m 7 #[rv u1, rv w1, rv u2, rv u3, iv u4] [(.ref w5x), (.ref w1)])) rfl (by rw [hml]; rfl) (argsL := [(.ref w1), (.ref w5x)]) (rest := []) (lenOf pd_2 rfl) rfl (by show 2 * 0 + _ ≤ _; exact Nat.le_of_eq rfl) (hb hby d7_7) (fun _ _ => ⟨rfl, e2, (by decide : 2 + 0 ≤ _), (by decide : 20 + 0 ≤ _)⟩)
  dsimp only [Pt.U, Pt.locs, Pt.cells, Pt.slots] at X3 l3 y3 z3 st3 hQ3
  subst l3 y3 z3
  obtain ⟨rfl, N3q, e3⟩ := hQ3
  have N3 := Fr.app N1 N3q
  obtain ⟨w6x, T4, h4, kq4, X4, e4, E4, hS4, hk4, hZ4, hown4, st4⟩ := ldcS (s := s) (vm0 := T2.vm) X3 hx hZ2 hown2 (tw hw 54 rfl) hwSA e3 hS2 hk2 (g := (mkF m 12 #[rv u1, rv w1, rv u2, rv u3, iv u4] [(.ref u2)])) rfl (hb hby d7_12) (n := 24) (by decide) (by decide) (by decide) (by decide)
  have K4 : Keep h0 h4 [u1] := K2.ext E4
  have Z4 : n0 ≤ h4.size := Nat.le_trans Z2 E4.1
  obtain ⟨_, _, ⟨T5, L5, k5x, n5⟩, -, X5, ⟨Lc5, hQ5, l5, y5, z5⟩, st5⟩ := Jvm.LawKit.callS X4 hx (y := (⟨"java/util/Objects", "requireNonNull", "(Ljava/lang/Object;Ljava/lang/String;)Ljava/lang/Object;"⟩ : MethodName)) hown4 (mvT hZ4 (tw hw 50 rfl)) (mvT hZ4 (tw hw 51 rfl)) (mvT hZ4 (tw hw 52 rfl)) (mvT hZ4 (tw hw 53 rfl)) (by decide) (backOf (W := 0) (rm9_3 l Z a0 hw [] u2 w6x h4 n0 Z4 ) hZ4 (tw hw 53 rfl) (tw hw 52 rfl) (by decide) (by decide)) (g := (mkF m 14 #[rv u1, rv w1, rv u2, rv u3, iv u4] [(.ref w6x), (.ref u2)])) rfl (by rw [hml]; rfl) (argsL := [(.ref u2), (.ref w6x)]) (rest := []) (lenOf pd_2 rfl) rfl (by show 2 * 0 + _ ≤ _; exact Nat.le_of_eq rfl) (hb hby d7_14) (fun _ _ => ⟨rfl, e4, (by decide : 4 + 0 ≤ _), (by decide : 48 + 0 ≤ _)⟩)
  dsimp only [Pt.U, Pt.locs, Pt.cells, Pt.slots] at X5 l5 y5 z5 st5 hQ5
  subst l5 y5 z5
  obtain ⟨rfl, N5q, e5⟩ := hQ5
  have N5 := Fr.app N3 N5q
  obtain ⟨w7x, T6, h6, kq6, X6, e6, E6, hS6, hk6, hZ6, hown6, st6⟩ := ldcS (s := s) (vm0 := T4.vm) X5 hx hZ4 hown4 (tw hw 55 rfl) hwSA e5 hS4 hk4 (g := (mkF m 19 #[rv u1, rv w1, rv u2, rv u3, iv u4] [(.ref u3)])) rfl (hb hby d7_19) (n := 28) (by decide) (by decide) (by decide) (by decide)
  have K6 : Keep h0 h6 [u1] := K4.ext E6
  have Z6 : n0 ≤ h6.size := Nat.le_trans Z4 E6.1
  obtain ⟨_, _, ⟨T7, L7, k7x, n7⟩, -, X7, ⟨Lc7, hQ7, l7, y7, z7⟩, st7⟩ := Jvm.LawKit.callS X6 hx (y := (⟨"java/util/Objects", "requireNonNull", "(Ljava/lang/Object;Ljava/lang/String;)Ljava/lang/Object;"⟩ : MethodName)) hown6 (mvT hZ6 (tw hw 50 rfl)) (mvT hZ6 (tw hw 51 rfl)) (mvT hZ6 (tw hw 52 rfl)) (mvT hZ6 (tw hw 53 rfl)) (by decide) (backOf (W := 0) (rm9_3 l Z a0 hw [] u3 w7x h6 n0 Z6 ) hZ6 (tw hw 53 rfl) (tw hw 52 rfl) (by decide) (by decide)) (g := (mkF m 21 #[rv u1, rv w1, rv u2, rv u3, iv u4] [(.ref w7x), (.ref u3)])) rfl (by rw [hml]; rfl) (argsL := [(.ref u3), (.ref w7x)]) (rest := []) (lenOf pd_2 rfl) rfl (by show 2 * 0 + _ ≤ _; exact Nat.le_of_eq rfl) (hb hby d7_21) (fun _ _ => ⟨rfl, e6, (by decide : 6 + 0 ≤ _), (by decide : 80 + 0 ≤ _)⟩)
  dsimp only [Pt.U, Pt.locs, Pt.cells, Pt.slots] at X7 l7 y7 z7 st7 hQ7
  subst l7 y7 z7
  obtain ⟨rfl, N7q, e7⟩ := hQ7
  have N7 := Fr.app N5 N7q
  have F1_8 : Exa Z h2 u1 "com/example/clausewright/clausewright/Division" := P1.ext E2
  have F2_9 : Exa Z h4 u1 "com/example/clausewright/clausewright/Division" := F1_8.ext E4
  have F3_10 : Exa Z h6 u1 "com/example/clausewright/clausewright/Division" := F2_9.ext E6
  have F1_11 : Fld Z h2 u1 "com/example/clausewright/clausewright/Division" "kind" "Lcom/example/clausewright/clausewright/Division$Kind;" .null := P2.ext E2
  have F2_12 : Fld Z h4 u1 "com/example/clausewright/clausewright/Division" "kind" "Lcom/example/clausewright/clausewright/Division$Kind;" .null := F1_11.ext E4
  have F3_13 : Fld Z h6 u1 "com/example/clausewright/clausewright/Division" "kind" "Lcom/example/clausewright/clausewright/Division$Kind;" .null := F2_12.ext E6
  have F1_14 : Fld Z h2 u1 "com/example/clausewright/clausewright/Division" "number" "Ljava/lang/String;" .null := P3.ext E2
  have F2_15 : Fld Z h4 u1 "com/example/clausewright/clausewright/Division" "number" "Ljava/lang/String;" .null := F1_14.ext E4
  have F3_16 : Fld Z h6 u1 "com/example/clausewright/clausewright/Division" "number" "Ljava/lang/String;" .null := F2_15.ext E6
  have F1_17 : Fld Z h2 u1 "com/example/clausewright/clausewright/Division" "heading" "Ljava/lang/String;" .null := P4.ext E2
  have F2_18 : Fld Z h4 u1 "com/example/clausewright/clausewright/Division" "heading" "Ljava/lang/String;" .null := F1_17.ext E4
  have F3_19 : Fld Z h6 u1 "com/example/clausewright/clausewright/Division" "heading" "Ljava/lang/String;" .null := F2_18.ext E6
  have F1_20 : Fld Z h2 u1 "com/example/clausewright/clausewright/Division" "line" "I" (.int 0) := P5.ext E2
  have F2_21 : Fld Z h4 u1 "com/example/clausewright/clausewright/Division" "line" "I" (.int 0) := F1_20.ext E4
  have F3_22 : Fld Z h6 u1 "com/example/clausewright/clausewright/Division" "line" "I" (.int 0) := F2_21.ext E6
  obtain ⟨T23, h23, X23, e23, W23, st23⟩ := putF X7 hx hZ6 hown6 (host := "") (Or.inl (tw hw 56 rfl)) Via.refl e7 F3_13 F3_10 (Or.inr ⟨(tw hw 57 rfl), rfl, hnm⟩) (tw hw 32 rfl) (ty := (.object "com/example/clausewright/clausewright/Division$Kind")) (by decide) rfl rfl (g := (mkF m 27 #[rv u1, rv w1, rv u2, rv u3, iv u4] [(.ref w1), (.ref u1)])) rfl rfl (hb hby d7_27)
  have K23 : Keep h0 h23 [u1] := K6.wr W23 (Or.inl (List.mem_of_getElem? (i := 0) rfl))
  have N23 := Fr.snoc X23 N7 P6
  have Fw23 : Fld Z h23 u1 "com/example/clausewright/clausewright/Division" "kind" "Lcom/example/clausewright/clausewright/Division$Kind;" (.ref w1) := F3_13.same W23
  have F4_24 : Exa Z h23 u1 "com/example/clausewright/clausewright/Division" := F3_10.wr W23
  have F4_25 : Fld Z h23 u1 "com/example/clausewright/clausewright/Division" "number" "Ljava/lang/String;" .null := F3_16.other W23 (Or.inr (slot_ne (Or.inr (tw hw 59 rfl)) (Or.inr (tw hw 57 rfl)) (by decide) (t := (.object "java/lang/String")) (t' := (.object "com/example/clausewright/clausewright/Division$Kind")) (by decide) (by decide)))
  have F4_26 : Fld Z h23 u1 "com/example/clausewright/clausewright/Division" "heading" "Ljava/lang/String;" .null := F3_19.other W23 (Or.inr (slot_ne (Or.inr (tw hw 61 rfl)) (Or.inr (tw hw 57 rfl)) (by decide) (t := (.object "java/lang/String")) (t' := (.object "com/example/clausewright/clausewright/Division$Kind")) (by decide) (by decide)))
  have F4_27 : Fld Z h23 u1 "com/example/clausewright/clausewright/Division" "line" "I" (.int 0) := F3_22.other W23 (Or.inr (slot_ne (Or.inr (tw hw 63 rfl)) (Or.inr (tw hw 57 rfl)) (by decide) (t := .int) (t' := (.object "com/example/clausewright/clausewright/Division$Kind")) (by decide) (by decide)))
  obtain ⟨T28, h28, X28, e28, W28, st28⟩ := putF X23 hx hZ6 hown6 (host := "") (Or.inl (tw hw 58 rfl)) Via.refl e23 F4_25 F4_24 (Or.inr ⟨(tw hw 59 rfl), rfl, hnm⟩) (tw hw 32 rfl) (ty := (.object "java/lang/String")) (by decide) rfl rfl (g := (mkF m 32 #[rv u1, rv w1, rv u2, rv u3, iv u4] [(.ref u2), (.ref u1)])) rfl rfl (hb hby d7_32)
  have K28 : Keep h0 h28 [u1] := K23.wr W28 (Or.inl (List.mem_of_getElem? (i := 0) rfl))
  have N28 := Fr.snoc X28 N23 P6
  have Fw28 : Fld Z h28 u1 "com/example/clausewright/clausewright/Division" "number" "Ljava/lang/String;" (.ref u2) := F4_25.same W28
  have F5_29 : Exa Z h28 u1 "com/example/clausewright/clausewright/Division" := F4_24.wr W28
  have F5_30 : Fld Z h28 u1 "com/example/clausewright/clausewright/Division" "heading" "Ljava/lang/String;" .null := F4_26.other W28 (Or.inr (slot_ne (Or.inr (tw hw 61 rfl)) (Or.inr (tw hw 59 rfl)) (by decide) (t := (.object "java/lang/String")) (t' := (.object "java/lang/String")) (by decide) (by decide)))
  have F5_31 : Fld Z h28 u1 "com/example/clausewright/clausewright/Division" "kind" "Lcom/example/clausewright/clausewright/Division$Kind;" (.ref w1) := Fw23.other W28 (Or.inr (slot_ne (Or.inr (tw hw 57 rfl)) (Or.inr (tw hw 59 rfl)) (by decide) (t := (.object "com/example/clausewright/clausewright/Division$Kind")) (t' := (.object "java/lang/String")) (by decide) (by decide)))
  have F5_32 : Fld Z h28 u1 "com/example/clausewright/clausewright/Division" "line" "I" (.int 0) := F4_27.other W28 (Or.inr (slot_ne (Or.inr (tw hw 63 rfl)) (Or.inr (tw hw 59 rfl)) (by decide) (t := .int) (t' := (.object "java/lang/String")) (by decide) (by decide)))
  obtain ⟨T33, h33, X33, e33, W33, st33⟩ := putF X28 hx hZ6 hown6 (host := "") (Or.inl (tw hw 60 rfl)) Via.refl e28 F5_30 F5_29 (Or.inr ⟨(tw hw 61 rfl), rfl, hnm⟩) (tw hw 32 rfl) (ty := (.object "java/lang/String")) (by decide) rfl rfl (g := (mkF m 37 #[rv u1, rv w1, rv u2, rv u3, iv u4] [(.ref u3), (.ref u1)])) rfl rfl (hb hby d7_37)
  have K33 : Keep h0 h33 [u1] := K28.wr W33 (Or.inl (List.mem_of_getElem? (i := 0) rfl))
  have N33 := Fr.snoc X33 N28 P6
  have Fw33 : Fld Z h33 u1 "com/example/clausewright/clausewright/Division" "heading" "Ljava/lang/String;" (.ref u3) := F5_30.same W33
  have F6_34 : Exa Z h33 u1 "com/example/clausewright/clausewright/Division" := F5_29.wr W33
  have F6_35 : Fld Z h33 u1 "com/example/clausewright/clausewright/Division" "line" "I" (.int 0) := F5_32.other W33 (Or.inr (slot_ne (Or.inr (tw hw 63 rfl)) (Or.inr (tw hw 61 rfl)) (by decide) (t := .int) (t' := (.object "java/lang/String")) (by decide) (by decide)))
  have F6_36 : Fld Z h33 u1 "com/example/clausewright/clausewright/Division" "kind" "Lcom/example/clausewright/clausewright/Division$Kind;" (.ref w1) := F5_31.other W33 (Or.inr (slot_ne (Or.inr (tw hw 57 rfl)) (Or.inr (tw hw 61 rfl)) (by decide) (t := (.object "com/example/clausewright/clausewright/Division$Kind")) (t' := (.object "java/lang/String")) (by decide) (by decide)))
  have F6_37 : Fld Z h33 u1 "com/example/clausewright/clausewright/Division" "number" "Ljava/lang/String;" (.ref u2) := Fw28.other W33 (Or.inr (slot_ne (Or.inr (tw hw 59 rfl)) (Or.inr (tw hw 61 rfl)) (by decide) (t := (.object "java/lang/String")) (t' := (.object "java/lang/String")) (by decide) (by decide)))
  obtain ⟨T38, h38, X38, e38, W38, st38⟩ := putF X33 hx hZ6 hown6 (host := "") (Or.inl (tw hw 62 rfl)) Via.refl e33 F6_35 F6_34 (Or.inr ⟨(tw hw 63 rfl), rfl, hnm⟩) (tw hw 32 rfl) (ty := .int) (by decide) rfl rfl (g := (mkF m 43 #[rv u1, rv w1, rv u2, rv u3, iv u4] [(.int u4), (.ref u1)])) rfl rfl (hb hby d7_43)
  have K38 : Keep h0 h38 [u1] := K33.wr W38 (Or.inl (List.mem_of_getElem? (i := 0) rfl))
  have N38 := Fr.snoc X38 N33 P6
  have Fw38 : Fld Z h38 u1 "com/example/clausewright/clausewright/Division" "line" "I" (.int u4) := F6_35.same W38
  have F7_39 : Exa Z h38 u1 "com/example/clausewright/clausewright/Division" := F6_34.wr W38
  have F7_40 : Fld Z h38 u1 "com/example/clausewright/clausewright/Division" "kind" "Lcom/example/clausewright/clausewright/Division$Kind;" (.ref w1) := F6_36.other W38 (Or.inr (slot_ne (Or.inr (tw hw 57 rfl)) (Or.inr (tw hw 63 rfl)) (by decide) (t := (.object "com/example/clausewright/clausewright/Division$Kind")) (t' := .int) (by decide) (by decide)))
  have F7_41 : Fld Z h38 u1 "com/example/clausewright/clausewright/Division" "number" "Ljava/lang/String;" (.ref u2) := F6_37.other W38 (Or.inr (slot_ne (Or.inr (tw hw 59 rfl)) (Or.inr (tw hw 63 rfl)) (by decide) (t := (.object "java/lang/String")) (t' := .int) (by decide) (by decide)))
  have F7_42 : Fld Z h38 u1 "com/example/clausewright/clausewright/Division" "heading" "Ljava/lang/String;" (.ref u3) := Fw33.other W38 (Or.inr (slot_ne (Or.inr (tw hw 61 rfl)) (Or.inr (tw hw 63 rfl)) (by decide) (t := (.object "java/lang/String")) (t' := .int) (by decide) (by decide)))
  have hkk23_4 : kq6 ≤ h23.size := Nat.le_trans hk6 (Keep.of_wr W23).1
  have hkk28_5 : kq6 ≤ h28.size := Nat.le_trans hkk23_4 (Keep.of_wr W28).1
  have hkk33_6 : kq6 ≤ h33.size := Nat.le_trans hkk28_5 (Keep.of_wr W33).1
  have hkk38_7 : kq6 ≤ h38.size := Nat.le_trans hkk33_6 (Keep.of_wr W38).1
  obtain ⟨fs, hr, hrun, hended, hRW⟩ := X38.leaveW hS6 (by rw [e38]; exact hkk38_7) (v := none) (fun _ => rfl)
  refine ⟨_, _, pre0 _ ?_, hrun, hended, _, _, rfl, ?_, hRW.1, hRW.2.1, hRW.2.2.1, hRW.2.2.2.mono (by decide) (by decide)⟩
  · show SF p e below s₁ (mkF m 0 #[rv u1, rv w1, rv u2, rv u3, iv u4] []) _
    refine XS.aloadN X0.here hx rfl (hb hby d7_0) rfl rfl ?_
    show SF p e below s₁ (mkF m 1 #[rv u1, rv w1, rv u2, rv u3, iv u4] [(.ref u1)]) _
    refine st1.trans ?_
    show SF p e below T1 (mkF m 4 #[rv u1, rv w1, rv u2, rv u3, iv u4] []) _
    refine XS.aloadN X1.here hx rfl (hb hby d7_4) rfl rfl ?_
    show SF p e below T1 (mkF m 5 #[rv u1, rv w1, rv u2, rv u3, iv u4] [(.ref w1)]) _
    refine st2 _ ?_
    show SF p e below T2 (mkF m 7 #[rv u1, rv w1, rv u2, rv u3, iv u4] [(.ref w5x), (.ref w1)]) _
    refine st3 _ ?_
    show SF p e below T3 (mkF m 10 #[rv u1, rv w1, rv u2, rv u3, iv u4] [(.ref w1)]) _
    refine XS.pop X3.here hx rfl (hb hby d7_10) rfl rfl ?_
    refine XS.aloadN X3.here hx rfl (hb hby d7_11) rfl rfl ?_
    show SF p e below T3 (mkF m 12 #[rv u1, rv w1, rv u2, rv u3, iv u4] [(.ref u2)]) _
    refine st4 _ ?_
    show SF p e below T4 (mkF m 14 #[rv u1, rv w1, rv u2, rv u3, iv u4] [(.ref w6x), (.ref u2)]) _
    refine st5 _ ?_
    show SF p e below T5 (mkF m 17 #[rv u1, rv w1, rv u2, rv u3, iv u4] [(.ref u2)]) _
    refine XS.pop X5.here hx rfl (hb hby d7_17) rfl rfl ?_
    refine XS.aloadN X5.here hx rfl (hb hby d7_18) rfl rfl ?_
    show SF p e below T5 (mkF m 19 #[rv u1, rv w1, rv u2, rv u3, iv u4] [(.ref u3)]) _
    refine st6 _ ?_
    show SF p e below T6 (mkF m 21 #[rv u1, rv w1, rv u2, rv u3, iv u4] [(.ref w7x), (.ref u3)]) _
    refine st7 _ ?_
    show SF p e below T7 (mkF m 24 #[rv u1, rv w1, rv u2, rv u3, iv u4] [(.ref u3)]) _
    refine XS.pop X7.here hx rfl (hb hby d7_24) rfl rfl ?_
    refine XS.aloadN X7.here hx rfl (hb hby d7_25) rfl rfl ?_
    show SF p e below T7 (mkF m 26 #[rv u1, rv w1, rv u2, rv u3, iv u4] [(.ref u1)]) _
    refine XS.aloadN X7.here hx rfl (hb hby d7_26) rfl rfl ?_
    show SF p e below T7 (mkF m 27 #[rv u1, rv w1, rv u2, rv u3, iv u4] [(.ref w1), (.ref u1)]) _
    refine st23 _ ?_
    show SF p e below T23 (mkF m 30 #[rv u1, rv w1, rv u2, rv u3, iv u4] []) _
    refine XS.aloadN X23.here hx rfl (hb hby d7_30) rfl rfl ?_
    refine XS.aloadN X23.here hx rfl (hb hby d7_31) rfl rfl ?_
    show SF p e below T23 (mkF m 32 #[rv u1, rv w1, rv u2, rv u3, iv u4] [(.ref u2), (.ref u1)]) _
    refine st28 _ ?_
    show SF p e below T28 (mkF m 35 #[rv u1, rv w1, rv u2, rv u3, iv u4] []) _
    refine XS.aloadN X28.here hx rfl (hb hby d7_35) rfl rfl ?_
    refine XS.aloadN X28.here hx rfl (hb hby d7_36) rfl rfl ?_
    show SF p e below T28 (mkF m 37 #[rv u1, rv w1, rv u2, rv u3, iv u4] [(.ref u3), (.ref u1)]) _
    refine st33 _ ?_
    show SF p e below T33 (mkF m 40 #[rv u1, rv w1, rv u2, rv u3, iv u4] []) _
    refine XS.aloadN X33.here hx rfl (hb hby d7_40) rfl rfl ?_
    refine XS.iload X33.here hx rfl (hb hby d7_41) rfl ?_
    show SF p e below T33 (mkF m 43 #[rv u1, rv w1, rv u2, rv u3, iv u4] [(.int u4), (.ref u1)]) _
    refine st38 _ ?_
    show SF p e below T38 (mkF m 46 #[rv u1, rv w1, rv u2, rv u3, iv u4] []) _
    exact X38.returnOut hx Bd.returns (hb hby d7_46) hr
  · show Q7_4 Z u1 w1 u2 u3 u4 h0 n0 _ T38.heap _
    rw [e38]
    exact ⟨rfl, N38, K38, F7_39, F7_40, F7_41, F7_42, Fw38⟩
theorem pd_3 : parseMethodDescriptor "(Lcom/example/clausewright/clausewright/Division$Kind;Ljava/lang/String;Ljava/lang/String;I)V" = some ⟨[(.object "com/example/clausewright/clausewright/Division$Kind"), (.object "java/lang/String"), (.object "java/lang/String"), .int], none⟩ := by decide +kernel
-- Objects.requireNonNull 
def Q9_5 (Z : State) (w2 : Addr) (u1 : Addr) (h0 : Heap) (n0 : Nat) (v : Option Value) (h : Heap) (L : List Loc) : Prop := v = some (.ref w2) ∧ Fr n0 L ∧ h = h0
set_option maxRecDepth 65536 in
set_option maxHeartbeats 40000000 in
theorem rm9_5 (l : Launch) (Z : State) (a0 : Array Value) (hw : HW Z a0) (ws : List Jvm.Cond) (w2 : Addr) (u1 : Addr) (h0 : Heap) (n0 : Nat) (Z0 : n0 ≤ h0.size) :
    MF l Z (⟨"java/util/Objects", "requireNonNull", "(Ljava/lang/Object;Ljava/lang/String;)Ljava/lang/Object;"⟩ : MethodName) (Jvm.Cond.code (⟨"java/util/Objects", "requireNonNull", "(Ljava/lang/Object;Ljava/lang/String;)Ljava/lang/Object;"⟩ : MethodName) jdk_31_method_11_code 2 (some (.object "java/lang/Object"))) ws ({ frames := 0, cells := 0, slots := 0, locals := 0 } : Room) #[(.ref w2), (.ref u1)] h0 (Q9_5 Z w2 u1 h0 n0) := by
  refine MetFree.of_bodySF (plainFor_of_name pn_1) hisR ?_
  intro p e s m args below meth c s₁ Bd hml0 hP hK
  obtain ⟨rfl, hZ, hh⟩ := hP
  have hx := Bd.exec
  have hby := Bd.bytes
  have hml : c.maxLocals = 2 := hml0
  have hown : s.vm.findClass "java/util/Objects" = some m.cls := findClass_of_methodNamed Bd.named
  have hnm := (name_of_methodNamed Bd.named Bd.method).1
  have X0 : Stand p l e ({ frames := 0, cells := 0, slots := 0, locals := 0 } : Room) s m #[(.ref w2), (.ref u1)] below meth c s₁ [] 0 0 := Stand.of_body Bd
  have e0 : s₁.heap = h0 := by rw [← hh, Bd.state]; rfl
  have N0 := Fr.nil n0
  have pre0 : ∀ t, SF p e below s₁ (mkF m 0 #[rv w2, rv u1] []) t → SF p e below s₁ (entryFrame m #[(.ref w2), (.ref u1)] 2) t := fun t k => castTop (ef_1 m w2 u1) k
  obtain ⟨fs, hr, hrun, hended, hW, hsame⟩ := X0.leave (v := some (.ref w2)) (fun h => by rw [Bd.returns] at h; cases h)
  refine ⟨_, _, pre0 _ ?_, hrun, hended, _, _, rfl, ?_, ⟨_, rfl⟩, hW, hsame.mono (by decide) (by decide)⟩
  · show SF p e below s₁ (mkF m 0 #[rv w2, rv u1] []) _
    refine XS.aloadN X0.here hx rfl (hb hby d9_0) rfl rfl ?_
    show SF p e below s₁ (mkF m 1 #[rv w2, rv u1] [(.ref w2)]) _
    refine XS.ifnonnullYes X0.here hx rfl (pc0 := 1) (pc' := 13) rfl (hb hby d9_1) rfl (by decide) (by decide) ?_
    show SF p e below s₁ (mkF m 13 #[rv w2, rv u1] []) _
    refine XS.aloadN X0.here hx rfl (hb hby d9_13) rfl rfl ?_
    show SF p e below s₁ (mkF m 14 #[rv w2, rv u1] [(.ref w2)]) _
    exact own_retR X0 hx Bd.returns rfl rfl (hb hby d9_14) hr
  · show Q9_5 Z w2 u1 h0 n0 _ s₁.heap _
    rw [e0]
    exact ⟨rfl, N0, rfl⟩
-- Division.init 
def Q7_6 (Z : State) (u1 : Addr) (w2 : Addr) (u2 : Addr) (u3 : Addr) (u4 : Int32) (h0 : Heap) (n0 : Nat) (v : Option Value) (h : Heap) (L : List Loc) : Prop := v = none ∧ Fr n0 L ∧ Keep h0 h [u1] ∧ Exa Z h u1 "com/example/clausewright/clausewright/Division" ∧ Fld Z h u1 "com/example/clausewright/clausewright/Division" "kind" "Lcom/example/clausewright/clausewright/Division$Kind;" (.ref w2) ∧ Fld Z h u1 "com/example/clausewright/clausewright/Division" "number" "Ljava/lang/String;" (.ref u2) ∧ Fld Z h u1 "com/example/clausewright/clausewright/Division" "heading" "Ljava/lang/String;" (.ref u3) ∧ Fld Z h u1 "com/example/clausewright/clausewright/Division" "line" "I" (.int u4)
set_option maxRecDepth 65536 in
set_option maxHeartbeats 40000000 in
theorem rm7_6 (l : Launch) (Z : State) (a0 : Array Value) (hw : HW Z a0) (ws : List Jvm.Cond) (u1 : Addr) (w2 : Addr) (u2 : Addr) (u3 : Addr) (u4 : Int32) (h0 : Heap) (n0 : Nat) (Z0 : n0 ≤ h0.size) (P1 : Exa Z h0 u1 "com/example/clausewright/clausewright/Division") (P2 : Fld Z h0 u1 "com/example/clausewright/clausewright/Division" "kind" "Lcom/example/clausewright/clausewright/Division$Kind;" .null) (P3 : Fld Z h0 u1 "com/example/clausewright/clausewright/Division" "number" "Ljava/lang/String;" .null) (P4 : Fld Z h0 u1 "com/example/clausewright/clausewright/Division" "heading" "Ljava/lang/String;" .null) (P5 : Fld Z h0 u1 "com/example/clausewright/clausewright/Division" "line" "I" (.int 0)) (P6 : n0 ≤ u1) :
    MFW l Z (⟨"com/example/clausewright/clausewright/Division", "<init>", "(Lcom/example/clausewright/clausewright/Division$Kind;Ljava/lang/String;Ljava/lang/String;I)V"⟩ : MethodName) (Jvm.Cond.code (⟨"com/example/clausewright/clausewright/Division", "<init>", "(Lcom/example/clausewright/clausewright/Division$Kind;Ljava/lang/String;Ljava/lang/String;I)V"⟩ : MethodName) prog_13_method_1_code 5 none) ws ({ frames := 2, cells := 6, slots := 80, locals := 24 } : Room) #[(.ref u1), (.ref w2), (.ref u2), (.ref u3), (.int u4)] h0 (Q7_6 Z u1 w2 u2 u3 u4 h0 n0) := by
  refine MetFree.of_bodySF (plainFor_of_name pn_2) hisR ?_
  intro p e s m args below meth c s₁ Bd hml0 hP hK
  obtain ⟨rfl, hZ, hh⟩ := hP
  have hx := Bd.exec
  have hby := Bd.bytes
  have hml : c.maxLocals = 5 := hml0
  have hown : s.vm.findClass "com/example/clausewright/clausewright/Division" = some m.cls := findClass_of_methodNamed Bd.named
  have hnm := (name_of_methodNamed Bd.named Bd.method).1
  have X0 : Stand p l e ({ frames := 2, cells := 6, slots := 80, locals := 24 } : Room) s m #[(.ref u1), (.ref w2), (.ref u2), (.ref u3), (.int u4)] below meth c s₁ [] 0 0 := Stand.of_body Bd
  have e0 : s₁.heap = h0 := by rw [← hh, Bd.state]; rfl
  have N0 := Fr.nil n0
  have pre0 : ∀ t, SF p e below s₁ (mkF m 0 #[rv u1, rv w2, rv u2, rv u3, iv u4] []) t → SF p e below s₁ (entryFrame m #[(.ref u1), (.ref w2), (.ref u2), (.ref u3), (.int u4)] 5) t := fun t k => castTop (ef_2 m u1 w2 u2 u3 u4) k
  obtain ⟨_, _, ⟨T1, L1, k1x, n1⟩, -, X1, ⟨Lc1, hQ1, l1, y1, z1⟩, st1⟩ := X0.specialBack hx (y := (⟨"java/lang/Record", "<init>", "()V"⟩ : MethodName)) rfl hown (mvT hZ (tw hw 43 rfl)) (mvT hZ (tw hw 44 rfl)) (mvT hZ (tw hw 47 rfl)) (by decide) (backOf (W := 0) (rm8_1 l Z a0 hw [] u1 h0 n0 Z0 ) hZ (tw hw 47 rfl) (tw hw 46 rfl) (by decide) (by decide)) (g := (mkF m 1 #[rv u1, rv w2, rv u2, rv u3, iv u4] [(.ref u1)])) rfl (by rw [hml]; rfl) (Steps.refl _) (a := u1) (argsL := []) (rest := []) (lenOf pd_1 rfl) rfl (by show 2 * 0 + _ ≤ _; exact Nat.le_of_eq rfl) (hb hby d7_1) (fun _ _ => ⟨rfl, e0, (by decide : 0 + 0 ≤ _), (by decide : 0 + 0 ≤ _)⟩)
  dsimp only [Pt.U, Pt.locs, Pt.cells, Pt.slots] at X1 l1 y1 z1 st1 hQ1
  subst l1 y1 z1
  obtain ⟨rfl, N1q, e1⟩ := hQ1
  have N1 := Fr.app N0 N1q
  have hwSA : ∀ d ∈ Bundle.stringAtoms, d.before a0 Z = true := fun d hd => hw d (own_strA d hd)
  have hS0 : s.Since s.vm h0.size := State.WarmedH.since (State.WarmedH.refl s) _
  have hk0 : h0.size ≤ h0.size := Nat.le_refl _
  obtain ⟨w5x, T2, h2, kq2, X2, e2, E2, hS2, hk2, hZ2, hown2, st2⟩ := ldcS (s := s) (vm0 := s.vm) X1 hx hZ hown (tw hw 49 rfl) hwSA e1 hS0 hk0 (g := (mkF m 5 #[rv u1, rv w2, rv u2, rv u3, iv u4] [(.ref w2)])) rfl (hb hby d7_5) (n := 16) (by decide) (by decide) (by decide) (by decide)
  have K2 : Keep h0 h2 [u1] := (Keep.refl h0 [u1]).ext E2
  have Z2 : n0 ≤ h2.size := Nat.le_trans Z0 E2.1
  obtain ⟨_, _, ⟨T3, L3, k3x, n3⟩, -, X3, ⟨Lc3, hQ3, l3, y3, z3⟩, st3⟩ := Jvm.LawKit.callS X2 hx (y := (⟨"java/util/Objects", "requireNonNull", "(Ljava/lang/Object;Ljava/lang/String;)Ljava/lang/Object;"⟩ : MethodName)) hown2 (mvT hZ2 (tw hw 50 rfl)) (mvT hZ2 (tw hw 51 rfl)) (mvT hZ2 (tw hw 52 rfl)) (mvT hZ2 (tw hw 53 rfl)) (by decide) (backOf (W := 0) (rm9_5 l Z a0 hw [] w2 w5x h2 n0 Z2 ) hZ2 (tw hw 53 rfl) (tw hw 52 rfl) (by decide) (by decide)) (g := (mkF m 7 #[rv u1, rv w2, rv u2, rv u3, iv u4] [(.ref w5x), (.ref w2)])) rfl (by rw [hml]; rfl) (argsL := [(.ref w2), (.ref w5x)]) (rest := []) (lenOf pd_2 rfl) rfl (by show 2 * 0 + _ ≤ _; exact Nat.le_of_eq rfl) (hb hby d7_7) (fun _ _ => ⟨rfl, e2, (by decide : 2 + 0 ≤ _), (by decide : 20 + 0 ≤ _)⟩)
  dsimp only [Pt.U, Pt.locs, Pt.cells, Pt.slots] at X3 l3 y3 z3 st3 hQ3
  subst l3 y3 z3
  obtain ⟨rfl, N3q, e3⟩ := hQ3
  have N3 := Fr.app N1 N3q
  obtain ⟨w6x, T4, h4, kq4, X4, e4, E4, hS4, hk4, hZ4, hown4, st4⟩ := ldcS (s := s) (vm0 := T2.vm) X3 hx hZ2 hown2 (tw hw 54 rfl) hwSA e3 hS2 hk2 (g := (mkF m 12 #[rv u1, rv w2, rv u2, rv u3, iv u4] [(.ref u2)])) rfl (hb hby d7_12) (n := 24) (by decide) (by decide) (by decide) (by decide)
  have K4 : Keep h0 h4 [u1] := K2.ext E4
  have Z4 : n0 ≤ h4.size := Nat.le_trans Z2 E4.1
  obtain ⟨_, _, ⟨T5, L5, k5x, n5⟩, -, X5, ⟨Lc5, hQ5, l5, y5, z5⟩, st5⟩ := Jvm.LawKit.callS X4 hx (y := (⟨"java/util/Objects", "requireNonNull", "(Ljava/lang/Object;Ljava/lang/String;)Ljava/lang/Object;"⟩ : MethodName)) hown4 (mvT hZ4 (tw hw 50 rfl)) (mvT hZ4 (tw hw 51 rfl)) (mvT hZ4 (tw hw 52 rfl)) (mvT hZ4 (tw hw 53 rfl)) (by decide) (backOf (W := 0) (rm9_3 l Z a0 hw [] u2 w6x h4 n0 Z4 ) hZ4 (tw hw 53 rfl) (tw hw 52 rfl) (by decide) (by decide)) (g := (mkF m 14 #[rv u1, rv w2, rv u2, rv u3, iv u4] [(.ref w6x), (.ref u2)])) rfl (by rw [hml]; rfl) (argsL := [(.ref u2), (.ref w6x)]) (rest := []) (lenOf pd_2 rfl) rfl (by show 2 * 0 + _ ≤ _; exact Nat.le_of_eq rfl) (hb hby d7_14) (fun _ _ => ⟨rfl, e4, (by decide : 4 + 0 ≤ _), (by decide : 48 + 0 ≤ _)⟩)
  dsimp only [Pt.U, Pt.locs, Pt.cells, Pt.slots] at X5 l5 y5 z5 st5 hQ5
  subst l5 y5 z5
  obtain ⟨rfl, N5q, e5⟩ := hQ5
  have N5 := Fr.app N3 N5q
  obtain ⟨w7x, T6, h6, kq6, X6, e6, E6, hS6, hk6, hZ6, hown6, st6⟩ := ldcS (s := s) (vm0 := T4.vm) X5 hx hZ4 hown4 (tw hw 55 rfl) hwSA e5 hS4 hk4 (g := (mkF m 19 #[rv u1, rv w2, rv u2, rv u3, iv u4] [(.ref u3)])) rfl (hb hby d7_19) (n := 28) (by decide) (by decide) (by decide) (by decide)
  have K6 : Keep h0 h6 [u1] := K4.ext E6
  have Z6 : n0 ≤ h6.size := Nat.le_trans Z4 E6.1
  obtain ⟨_, _, ⟨T7, L7, k7x, n7⟩, -, X7, ⟨Lc7, hQ7, l7, y7, z7⟩, st7⟩ := Jvm.LawKit.callS X6 hx (y := (⟨"java/util/Objects", "requireNonNull", "(Ljava/lang/Object;Ljava/lang/String;)Ljava/lang/Object;"⟩ : MethodName)) hown6 (mvT hZ6 (tw hw 50 rfl)) (mvT hZ6 (tw hw 51 rfl)) (mvT hZ6 (tw hw 52 rfl)) (mvT hZ6 (tw hw 53 rfl)) (by decide) (backOf (W := 0) (rm9_3 l Z a0 hw [] u3 w7x h6 n0 Z6 ) hZ6 (tw hw 53 rfl) (tw hw 52 rfl) (by decide) (by decide)) (g := (mkF m 21 #[rv u1, rv w2, rv u2, rv u3, iv u4] [(.ref w7x), (.ref u3)])) rfl (by rw [hml]; rfl) (argsL := [(.ref u3), (.ref w7x)]) (rest := []) (lenOf pd_2 rfl) rfl (by show 2 * 0 + _ ≤ _; exact Nat.le_of_eq rfl) (hb hby d7_21) (fun _ _ => ⟨rfl, e6, (by decide : 6 + 0 ≤ _), (by decide : 80 + 0 ≤ _)⟩)
  dsimp only [Pt.U, Pt.locs, Pt.cells, Pt.slots] at X7 l7 y7 z7 st7 hQ7
  subst l7 y7 z7
  obtain ⟨rfl, N7q, e7⟩ := hQ7
  have N7 := Fr.app N5 N7q
  have F1_8 : Exa Z h2 u1 "com/example/clausewright/clausewright/Division" := P1.ext E2
  have F2_9 : Exa Z h4 u1 "com/example/clausewright/clausewright/Division" := F1_8.ext E4
  have F3_10 : Exa Z h6 u1 "com/example/clausewright/clausewright/Division" := F2_9.ext E6
  have F1_11 : Fld Z h2 u1 "com/example/clausewright/clausewright/Division" "kind" "Lcom/example/clausewright/clausewright/Division$Kind;" .null := P2.ext E2
  have F2_12 : Fld Z h4 u1 "com/example/clausewright/clausewright/Division" "kind" "Lcom/example/clausewright/clausewright/Division$Kind;" .null := F1_11.ext E4
  have F3_13 : Fld Z h6 u1 "com/example/clausewright/clausewright/Division" "kind" "Lcom/example/clausewright/clausewright/Division$Kind;" .null := F2_12.ext E6
  have F1_14 : Fld Z h2 u1 "com/example/clausewright/clausewright/Division" "number" "Ljava/lang/String;" .null := P3.ext E2
  have F2_15 : Fld Z h4 u1 "com/example/clausewright/clausewright/Division" "number" "Ljava/lang/String;" .null := F1_14.ext E4
  have F3_16 : Fld Z h6 u1 "com/example/clausewright/clausewright/Division" "number" "Ljava/lang/String;" .null := F2_15.ext E6
  have F1_17 : Fld Z h2 u1 "com/example/clausewright/clausewright/Division" "heading" "Ljava/lang/String;" .null := P4.ext E2
  have F2_18 : Fld Z h4 u1 "com/example/clausewright/clausewright/Division" "heading" "Ljava/lang/String;" .null := F1_17.ext E4
  have F3_19 : Fld Z h6 u1 "com/example/clausewright/clausewright/Division" "heading" "Ljava/lang/String;" .null := F2_18.ext E6
  have F1_20 : Fld Z h2 u1 "com/example/clausewright/clausewright/Division" "line" "I" (.int 0) := P5.ext E2
  have F2_21 : Fld Z h4 u1 "com/example/clausewright/clausewright/Division" "line" "I" (.int 0) := F1_20.ext E4
  have F3_22 : Fld Z h6 u1 "com/example/clausewright/clausewright/Division" "line" "I" (.int 0) := F2_21.ext E6
  obtain ⟨T23, h23, X23, e23, W23, st23⟩ := putF X7 hx hZ6 hown6 (host := "") (Or.inl (tw hw 56 rfl)) Via.refl e7 F3_13 F3_10 (Or.inr ⟨(tw hw 57 rfl), rfl, hnm⟩) (tw hw 32 rfl) (ty := (.object "com/example/clausewright/clausewright/Division$Kind")) (by decide) rfl rfl (g := (mkF m 27 #[rv u1, rv w2, rv u2, rv u3, iv u4] [(.ref w2), (.ref u1)])) rfl rfl (hb hby d7_27)
  have K23 : Keep h0 h23 [u1] := K6.wr W23 (Or.inl (List.mem_of_getElem? (i := 0) rfl))
  have N23 := Fr.snoc X23 N7 P6
  have Fw23 : Fld Z h23 u1 "com/example/clausewright/clausewright/Division" "kind" "Lcom/example/clausewright/clausewright/Division$Kind;" (.ref w2) := F3_13.same W23
  have F4_24 : Exa Z h23 u1 "com/example/clausewright/clausewright/Division" := F3_10.wr W23
  have F4_25 : Fld Z h23 u1 "com/example/clausewright/clausewright/Division" "number" "Ljava/lang/String;" .null := F3_16.other W23 (Or.inr (slot_ne (Or.inr (tw hw 59 rfl)) (Or.inr (tw hw 57 rfl)) (by decide) (t := (.object "java/lang/String")) (t' := (.object "com/example/clausewright/clausewright/Division$Kind")) (by decide) (by decide)))
  have F4_26 : Fld Z h23 u1 "com/example/clausewright/clausewright/Division" "heading" "Ljava/lang/String;" .null := F3_19.other W23 (Or.inr (slot_ne (Or.inr (tw hw 61 rfl)) (Or.inr (tw hw 57 rfl)) (by decide) (t := (.object "java/lang/String")) (t' := (.object "com/example/clausewright/clausewright/Division$Kind")) (by decide) (by decide)))
  have F4_27 : Fld Z h23 u1 "com/example/clausewright/clausewright/Division" "line" "I" (.int 0) := F3_22.other W23 (Or.inr (slot_ne (Or.inr (tw hw 63 rfl)) (Or.inr (tw hw 57 rfl)) (by decide) (t := .int) (t' := (.object "com/example/clausewright/clausewright/Division$Kind")) (by decide) (by decide)))
  obtain ⟨T28, h28, X28, e28, W28, st28⟩ := putF X23 hx hZ6 hown6 (host := "") (Or.inl (tw hw 58 rfl)) Via.refl e23 F4_25 F4_24 (Or.inr ⟨(tw hw 59 rfl), rfl, hnm⟩) (tw hw 32 rfl) (ty := (.object "java/lang/String")) (by decide) rfl rfl (g := (mkF m 32 #[rv u1, rv w2, rv u2, rv u3, iv u4] [(.ref u2), (.ref u1)])) rfl rfl (hb hby d7_32)
  have K28 : Keep h0 h28 [u1] := K23.wr W28 (Or.inl (List.mem_of_getElem? (i := 0) rfl))
  have N28 := Fr.snoc X28 N23 P6
  have Fw28 : Fld Z h28 u1 "com/example/clausewright/clausewright/Division" "number" "Ljava/lang/String;" (.ref u2) := F4_25.same W28
  have F5_29 : Exa Z h28 u1 "com/example/clausewright/clausewright/Division" := F4_24.wr W28
  have F5_30 : Fld Z h28 u1 "com/example/clausewright/clausewright/Division" "heading" "Ljava/lang/String;" .null := F4_26.other W28 (Or.inr (slot_ne (Or.inr (tw hw 61 rfl)) (Or.inr (tw hw 59 rfl)) (by decide) (t := (.object "java/lang/String")) (t' := (.object "java/lang/String")) (by decide) (by decide)))
  have F5_31 : Fld Z h28 u1 "com/example/clausewright/clausewright/Division" "kind" "Lcom/example/clausewright/clausewright/Division$Kind;" (.ref w2) := Fw23.other W28 (Or.inr (slot_ne (Or.inr (tw hw 57 rfl)) (Or.inr (tw hw 59 rfl)) (by decide) (t := (.object "com/example/clausewright/clausewright/Division$Kind")) (t' := (.object "java/lang/String")) (by decide) (by decide)))
  have F5_32 : Fld Z h28 u1 "com/example/clausewright/clausewright/Division" "line" "I" (.int 0) := F4_27.other W28 (Or.inr (slot_ne (Or.inr (tw hw 63 rfl)) (Or.inr (tw hw 59 rfl)) (by decide) (t := .int) (t' := (.object "java/lang/String")) (by decide) (by decide)))
  obtain ⟨T33, h33, X33, e33, W33, st33⟩ := putF X28 hx hZ6 hown6 (host := "") (Or.inl (tw hw 60 rfl)) Via.refl e28 F5_30 F5_29 (Or.inr ⟨(tw hw 61 rfl), rfl, hnm⟩) (tw hw 32 rfl) (ty := (.object "java/lang/String")) (by decide) rfl rfl (g := (mkF m 37 #[rv u1, rv w2, rv u2, rv u3, iv u4] [(.ref u3), (.ref u1)])) rfl rfl (hb hby d7_37)
  have K33 : Keep h0 h33 [u1] := K28.wr W33 (Or.inl (List.mem_of_getElem? (i := 0) rfl))
  have N33 := Fr.snoc X33 N28 P6
  have Fw33 : Fld Z h33 u1 "com/example/clausewright/clausewright/Division" "heading" "Ljava/lang/String;" (.ref u3) := F5_30.same W33
  have F6_34 : Exa Z h33 u1 "com/example/clausewright/clausewright/Division" := F5_29.wr W33
  have F6_35 : Fld Z h33 u1 "com/example/clausewright/clausewright/Division" "line" "I" (.int 0) := F5_32.other W33 (Or.inr (slot_ne (Or.inr (tw hw 63 rfl)) (Or.inr (tw hw 61 rfl)) (by decide) (t := .int) (t' := (.object "java/lang/String")) (by decide) (by decide)))
  have F6_36 : Fld Z h33 u1 "com/example/clausewright/clausewright/Division" "kind" "Lcom/example/clausewright/clausewright/Division$Kind;" (.ref w2) := F5_31.other W33 (Or.inr (slot_ne (Or.inr (tw hw 57 rfl)) (Or.inr (tw hw 61 rfl)) (by decide) (t := (.object "com/example/clausewright/clausewright/Division$Kind")) (t' := (.object "java/lang/String")) (by decide) (by decide)))
  have F6_37 : Fld Z h33 u1 "com/example/clausewright/clausewright/Division" "number" "Ljava/lang/String;" (.ref u2) := Fw28.other W33 (Or.inr (slot_ne (Or.inr (tw hw 59 rfl)) (Or.inr (tw hw 61 rfl)) (by decide) (t := (.object "java/lang/String")) (t' := (.object "java/lang/String")) (by decide) (by decide)))
  obtain ⟨T38, h38, X38, e38, W38, st38⟩ := putF X33 hx hZ6 hown6 (host := "") (Or.inl (tw hw 62 rfl)) Via.refl e33 F6_35 F6_34 (Or.inr ⟨(tw hw 63 rfl), rfl, hnm⟩) (tw hw 32 rfl) (ty := .int) (by decide) rfl rfl (g := (mkF m 43 #[rv u1, rv w2, rv u2, rv u3, iv u4] [(.int u4), (.ref u1)])) rfl rfl (hb hby d7_43)
  have K38 : Keep h0 h38 [u1] := K33.wr W38 (Or.inl (List.mem_of_getElem? (i := 0) rfl))
  have N38 := Fr.snoc X38 N33 P6
  have Fw38 : Fld Z h38 u1 "com/example/clausewright/clausewright/Division" "line" "I" (.int u4) := F6_35.same W38
  have F7_39 : Exa Z h38 u1 "com/example/clausewright/clausewright/Division" := F6_34.wr W38
  have F7_40 : Fld Z h38 u1 "com/example/clausewright/clausewright/Division" "kind" "Lcom/example/clausewright/clausewright/Division$Kind;" (.ref w2) := F6_36.other W38 (Or.inr (slot_ne (Or.inr (tw hw 57 rfl)) (Or.inr (tw hw 63 rfl)) (by decide) (t := (.object "com/example/clausewright/clausewright/Division$Kind")) (t' := .int) (by decide) (by decide)))
  have F7_41 : Fld Z h38 u1 "com/example/clausewright/clausewright/Division" "number" "Ljava/lang/String;" (.ref u2) := F6_37.other W38 (Or.inr (slot_ne (Or.inr (tw hw 59 rfl)) (Or.inr (tw hw 63 rfl)) (by decide) (t := (.object "java/lang/String")) (t' := .int) (by decide) (by decide)))
  have F7_42 : Fld Z h38 u1 "com/example/clausewright/clausewright/Division" "heading" "Ljava/lang/String;" (.ref u3) := Fw33.other W38 (Or.inr (slot_ne (Or.inr (tw hw 61 rfl)) (Or.inr (tw hw 63 rfl)) (by decide) (t := (.object "java/lang/String")) (t' := .int) (by decide) (by decide)))
  have hkk23_4 : kq6 ≤ h23.size := Nat.le_trans hk6 (Keep.of_wr W23).1
  have hkk28_5 : kq6 ≤ h28.size := Nat.le_trans hkk23_4 (Keep.of_wr W28).1
  have hkk33_6 : kq6 ≤ h33.size := Nat.le_trans hkk28_5 (Keep.of_wr W33).1
  have hkk38_7 : kq6 ≤ h38.size := Nat.le_trans hkk33_6 (Keep.of_wr W38).1
  obtain ⟨fs, hr, hrun, hended, hRW⟩ := X38.leaveW hS6 (by rw [e38]; exact hkk38_7) (v := none) (fun _ => rfl)
  refine ⟨_, _, pre0 _ ?_, hrun, hended, _, _, rfl, ?_, hRW.1, hRW.2.1, hRW.2.2.1, hRW.2.2.2.mono (by decide) (by decide)⟩
  · show SF p e below s₁ (mkF m 0 #[rv u1, rv w2, rv u2, rv u3, iv u4] []) _
    refine XS.aloadN X0.here hx rfl (hb hby d7_0) rfl rfl ?_
    show SF p e below s₁ (mkF m 1 #[rv u1, rv w2, rv u2, rv u3, iv u4] [(.ref u1)]) _
    refine st1.trans ?_
    show SF p e below T1 (mkF m 4 #[rv u1, rv w2, rv u2, rv u3, iv u4] []) _
    refine XS.aloadN X1.here hx rfl (hb hby d7_4) rfl rfl ?_
    show SF p e below T1 (mkF m 5 #[rv u1, rv w2, rv u2, rv u3, iv u4] [(.ref w2)]) _
    refine st2 _ ?_
    show SF p e below T2 (mkF m 7 #[rv u1, rv w2, rv u2, rv u3, iv u4] [(.ref w5x), (.ref w2)]) _
    refine st3 _ ?_
    show SF p e below T3 (mkF m 10 #[rv u1, rv w2, rv u2, rv u3, iv u4] [(.ref w2)]) _
    refine XS.pop X3.here hx rfl (hb hby d7_10) rfl rfl ?_
    refine XS.aloadN X3.here hx rfl (hb hby d7_11) rfl rfl ?_
    show SF p e below T3 (mkF m 12 #[rv u1, rv w2, rv u2, rv u3, iv u4] [(.ref u2)]) _
    refine st4 _ ?_
    show SF p e below T4 (mkF m 14 #[rv u1, rv w2, rv u2, rv u3, iv u4] [(.ref w6x), (.ref u2)]) _
    refine st5 _ ?_
    show SF p e below T5 (mkF m 17 #[rv u1, rv w2, rv u2, rv u3, iv u4] [(.ref u2)]) _
    refine XS.pop X5.here hx rfl (hb hby d7_17) rfl rfl ?_
    refine XS.aloadN X5.here hx rfl (hb hby d7_18) rfl rfl ?_
    show SF p e below T5 (mkF m 19 #[rv u1, rv w2, rv u2, rv u3, iv u4] [(.ref u3)]) _
    refine st6 _ ?_
    show SF p e below T6 (mkF m 21 #[rv u1, rv w2, rv u2, rv u3, iv u4] [(.ref w7x), (.ref u3)]) _
    refine st7 _ ?_
    show SF p e below T7 (mkF m 24 #[rv u1, rv w2, rv u2, rv u3, iv u4] [(.ref u3)]) _
    refine XS.pop X7.here hx rfl (hb hby d7_24) rfl rfl ?_
    refine XS.aloadN X7.here hx rfl (hb hby d7_25) rfl rfl ?_
    show SF p e below T7 (mkF m 26 #[rv u1, rv w2, rv u2, rv u3, iv u4] [(.ref u1)]) _
    refine XS.aloadN X7.here hx rfl (hb hby d7_26) rfl rfl ?_
    show SF p e below T7 (mkF m 27 #[rv u1, rv w2, rv u2, rv u3, iv u4] [(.ref w2), (.ref u1)]) _
    refine st23 _ ?_
    show SF p e below T23 (mkF m 30 #[rv u1, rv w2, rv u2, rv u3, iv u4] []) _
    refine XS.aloadN X23.here hx rfl (hb hby d7_30) rfl rfl ?_
    refine XS.aloadN X23.here hx rfl (hb hby d7_31) rfl rfl ?_
    show SF p e below T23 (mkF m 32 #[rv u1, rv w2, rv u2, rv u3, iv u4] [(.ref u2), (.ref u1)]) _
    refine st28 _ ?_
    show SF p e below T28 (mkF m 35 #[rv u1, rv w2, rv u2, rv u3, iv u4] []) _
    refine XS.aloadN X28.here hx rfl (hb hby d7_35) rfl rfl ?_
    refine XS.aloadN X28.here hx rfl (hb hby d7_36) rfl rfl ?_
    show SF p e below T28 (mkF m 37 #[rv u1, rv w2, rv u2, rv u3, iv u4] [(.ref u3), (.ref u1)]) _
    refine st33 _ ?_
    show SF p e below T33 (mkF m 40 #[rv u1, rv w2, rv u2, rv u3, iv u4] []) _
    refine XS.aloadN X33.here hx rfl (hb hby d7_40) rfl rfl ?_
    refine XS.iload X33.here hx rfl (hb hby d7_41) rfl ?_
    show SF p e below T33 (mkF m 43 #[rv u1, rv w2, rv u2, rv u3, iv u4] [(.int u4), (.ref u1)]) _
    refine st38 _ ?_
    show SF p e below T38 (mkF m 46 #[rv u1, rv w2, rv u2, rv u3, iv u4] []) _
    exact X38.returnOut hx Bd.returns (hb hby d7_46) hr
  · show Q7_6 Z u1 w2 u2 u3 u4 h0 n0 _ T38.heap _
    rw [e38]
    exact ⟨rfl, N38, K38, F7_39, F7_40, F7_41, F7_42, Fw38⟩
theorem d10_0 : decode prog_10_method_1_code 0 = .ok (.aload_n 0, 1) := by decide +kernel
theorem d10_1 : decode prog_10_method_1_code 1 = .ok (.invokespecial 1, 3) := by decide +kernel
theorem d10_4 : decode prog_10_method_1_code 4 = .ok (.aload_n 1, 1) := by decide +kernel
theorem d10_5 : decode prog_10_method_1_code 5 = .ok (.ldc 7, 2) := by decide +kernel
theorem d10_7 : decode prog_10_method_1_code 7 = .ok (.invokestatic 9, 3) := by decide +kernel
-- Objects.requireNonNull 
def Q9_7 (Z : State) (w4 : Addr) (u1 : Addr) (h0 : Heap) (n0 : Nat) (v : Option Value) (h : Heap) (L : List Loc) : Prop := v = some (.ref w4) ∧ Fr n0 L ∧ h = h0
set_option maxRecDepth 65536 in
set_option maxHeartbeats 40000000 in
theorem rm9_7 (l : Launch) (Z : State) (a0 : Array Value) (hw : HW Z a0) (ws : List Jvm.Cond) (w4 : Addr) (u1 : Addr) (h0 : Heap) (n0 : Nat) (Z0 : n0 ≤ h0.size) :
    MF l Z (⟨"java/util/Objects", "requireNonNull", "(Ljava/lang/Object;Ljava/lang/String;)Ljava/lang/Object;"⟩ : MethodName) (Jvm.Cond.code (⟨"java/util/Objects", "requireNonNull", "(Ljava/lang/Object;Ljava/lang/String;)Ljava/lang/Object;"⟩ : MethodName) jdk_31_method_11_code 2 (some (.object "java/lang/Object"))) ws ({ frames := 0, cells := 0, slots := 0, locals := 0 } : Room) #[(.ref w4), (.ref u1)] h0 (Q9_7 Z w4 u1 h0 n0) := by
  refine MetFree.of_bodySF (plainFor_of_name pn_1) hisR ?_
  intro p e s m args below meth c s₁ Bd hml0 hP hK
  obtain ⟨rfl, hZ, hh⟩ := hP
  have hx := Bd.exec
  have hby := Bd.bytes
  have hml : c.maxLocals = 2 := hml0
  have hown : s.vm.findClass "java/util/Objects" = some m.cls := findClass_of_methodNamed Bd.named
  have hnm := (name_of_methodNamed Bd.named Bd.method).1
  have X0 : Stand p l e ({ frames := 0, cells := 0, slots := 0, locals := 0 } : Room) s m #[(.ref w4), (.ref u1)] below meth c s₁ [] 0 0 := Stand.of_body Bd
  have e0 : s₁.heap = h0 := by rw [← hh, Bd.state]; rfl
  have N0 := Fr.nil n0
  have pre0 : ∀ t, SF p e below s₁ (mkF m 0 #[rv w4, rv u1] []) t → SF p e below s₁ (entryFrame m #[(.ref w4), (.ref u1)] 2) t := fun t k => castTop (ef_1 m w4 u1) k
  obtain ⟨fs, hr, hrun, hended, hW, hsame⟩ := X0.leave (v := some (.ref w4)) (fun h => by rw [Bd.returns] at h; cases h)
  refine ⟨_, _, pre0 _ ?_, hrun, hended, _, _, rfl, ?_, ⟨_, rfl⟩, hW, hsame.mono (by decide) (by decide)⟩
  · show SF p e below s₁ (mkF m 0 #[rv w4, rv u1] []) _
    refine XS.aloadN X0.here hx rfl (hb hby d9_0) rfl rfl ?_
    show SF p e below s₁ (mkF m 1 #[rv w4, rv u1] [(.ref w4)]) _
    refine XS.ifnonnullYes X0.here hx rfl (pc0 := 1) (pc' := 13) rfl (hb hby d9_1) rfl (by decide) (by decide) ?_
    show SF p e below s₁ (mkF m 13 #[rv w4, rv u1] []) _
    refine XS.aloadN X0.here hx rfl (hb hby d9_13) rfl rfl ?_
    show SF p e below s₁ (mkF m 14 #[rv w4, rv u1] [(.ref w4)]) _
    exact own_retR X0 hx Bd.returns rfl rfl (hb hby d9_14) hr
  · show Q9_7 Z w4 u1 h0 n0 _ s₁.heap _
    rw [e0]
    exact ⟨rfl, N0, rfl⟩
theorem d10_10 : decode prog_10_method_1_code 10 = .ok (.pop, 1) := by decide +kernel
theorem d10_11 : decode prog_10_method_1_code 11 = .ok (.aload_n 0, 1) := by decide +kernel
theorem d10_12 : decode prog_10_method_1_code 12 = .ok (.aload_n 1, 1) := by decide +kernel
theorem d10_13 : decode prog_10_method_1_code 13 = .ok (.putfield 15, 3) := by decide +kernel
theorem d10_16 : decode prog_10_method_1_code 16 = .ok (.aload_n 0, 1) := by decide +kernel
theorem d10_17 : decode prog_10_method_1_code 17 = .ok (.aload_n 2, 1) := by decide +kernel
theorem d10_18 : decode prog_10_method_1_code 18 = .ok (.putfield 20, 3) := by decide +kernel
theorem d10_21 : decode prog_10_method_1_code 21 = .ok (.aload_n 0, 1) := by decide +kernel
theorem d10_22 : decode prog_10_method_1_code 22 = .ok (.aload_n 3, 1) := by decide +kernel
theorem d10_23 : decode prog_10_method_1_code 23 = .ok (.putfield 24, 3) := by decide +kernel
theorem d10_26 : decode prog_10_method_1_code 26 = .ok (.return_, 1) := by decide +kernel
theorem pn_3 : plainName "com/example/clausewright/clausewright/Difference" = true := by first | (simp [plainName, overriddenIn]; done) | decide +kernel
theorem ef_3 (m : MethodId) (x0 : Addr) (x1 : Addr) (x2 : Addr) : entryFrame m #[(.ref x0), (.ref x1), (.ref x2), .null] 4 = mkF m 0 #[.val (.ref x0), .val (.ref x1), .val (.ref x2), .val .null] [] := by first | (simp [entryFrame, mkF, argsToLocals, Value.category]; done) | rfl
-- Difference.init 
def Q10_8 (Z : State) (u1 : Addr) (w4 : Addr) (u2 : Addr) (h0 : Heap) (n0 : Nat) (v : Option Value) (h : Heap) (L : List Loc) : Prop := v = none ∧ Fr n0 L ∧ Keep h0 h [u1] ∧ Exa Z h u1 "com/example/clausewright/clausewright/Difference" ∧ Fld Z h u1 "com/example/clausewright/clausewright/Difference" "kind" "Lcom/example/clausewright/clausewright/Difference$Kind;" (.ref w4) ∧ Fld Z h u1 "com/example/clausewright/clausewright/Difference" "body" "Lcom/example/clausewright/clausewright/Division;" (.ref u2) ∧ Fld Z h u1 "com/example/clausewright/clausewright/Difference" "entry" "Lcom/example/clausewright/clausewright/Division;" .null
set_option maxRecDepth 65536 in
set_option maxHeartbeats 40000000 in
theorem rm10_8 (l : Launch) (Z : State) (a0 : Array Value) (hw : HW Z a0) (ws : List Jvm.Cond) (u1 : Addr) (w4 : Addr) (u2 : Addr) (h0 : Heap) (n0 : Nat) (Z0 : n0 ≤ h0.size) (P1 : Exa Z h0 u1 "com/example/clausewright/clausewright/Difference") (P2 : Fld Z h0 u1 "com/example/clausewright/clausewright/Difference" "kind" "Lcom/example/clausewright/clausewright/Difference$Kind;" .null) (P3 : Fld Z h0 u1 "com/example/clausewright/clausewright/Difference" "body" "Lcom/example/clausewright/clausewright/Division;" .null) (P4 : Fld Z h0 u1 "com/example/clausewright/clausewright/Difference" "entry" "Lcom/example/clausewright/clausewright/Division;" .null) (P5 : n0 ≤ u1) :
    MFW l Z (⟨"com/example/clausewright/clausewright/Difference", "<init>", "(Lcom/example/clausewright/clausewright/Difference$Kind;Lcom/example/clausewright/clausewright/Division;Lcom/example/clausewright/clausewright/Division;)V"⟩ : MethodName) (Jvm.Cond.code (⟨"com/example/clausewright/clausewright/Difference", "<init>", "(Lcom/example/clausewright/clausewright/Difference$Kind;Lcom/example/clausewright/clausewright/Division;Lcom/example/clausewright/clausewright/Division;)V"⟩ : MethodName) prog_10_method_1_code 4 none) ws ({ frames := 2, cells := 2, slots := 20, locals := 24 } : Room) #[(.ref u1), (.ref w4), (.ref u2), .null] h0 (Q10_8 Z u1 w4 u2 h0 n0) := by
  refine MetFree.of_bodySF (plainFor_of_name pn_3) hisR ?_
  intro p e s m args below meth c s₁ Bd hml0 hP hK
  obtain ⟨rfl, hZ, hh⟩ := hP
  have hx := Bd.exec
  have hby := Bd.bytes
  have hml : c.maxLocals = 4 := hml0
  have hown : s.vm.findClass "com/example/clausewright/clausewright/Difference" = some m.cls := findClass_of_methodNamed Bd.named
  have hnm := (name_of_methodNamed Bd.named Bd.method).1
  have X0 : Stand p l e ({ frames := 2, cells := 2, slots := 20, locals := 24 } : Room) s m #[(.ref u1), (.ref w4), (.ref u2), .null] below meth c s₁ [] 0 0 := Stand.of_body Bd
  have e0 : s₁.heap = h0 := by rw [← hh, Bd.state]; rfl
  have N0 := Fr.nil n0
  have pre0 : ∀ t, SF p e below s₁ (mkF m 0 #[rv u1, rv w4, rv u2, .val .null] []) t → SF p e below s₁ (entryFrame m #[(.ref u1), (.ref w4), (.ref u2), .null] 4) t := fun t k => castTop (ef_3 m u1 w4 u2) k
  obtain ⟨_, _, ⟨T1, L1, k1x, n1⟩, -, X1, ⟨Lc1, hQ1, l1, y1, z1⟩, st1⟩ := X0.specialBack hx (y := (⟨"java/lang/Record", "<init>", "()V"⟩ : MethodName)) rfl hown (mvT hZ (tw hw 75 rfl)) (mvT hZ (tw hw 44 rfl)) (mvT hZ (tw hw 47 rfl)) (by decide) (backOf (W := 0) (rm8_1 l Z a0 hw [] u1 h0 n0 Z0 ) hZ (tw hw 47 rfl) (tw hw 46 rfl) (by decide) (by decide)) (g := (mkF m 1 #[rv u1, rv w4, rv u2, .val .null] [(.ref u1)])) rfl (by rw [hml]; rfl) (Steps.refl _) (a := u1) (argsL := []) (rest := []) (lenOf pd_1 rfl) rfl (by show 2 * 0 + _ ≤ _; exact Nat.le_of_eq rfl) (hb hby d10_1) (fun _ _ => ⟨rfl, e0, (by decide : 0 + 0 ≤ _), (by decide : 0 + 0 ≤ _)⟩)
  dsimp only [Pt.U, Pt.locs, Pt.cells, Pt.slots] at X1 l1 y1 z1 st1 hQ1
  subst l1 y1 z1
  obtain ⟨rfl, N1q, e1⟩ := hQ1
  have N1 := Fr.app N0 N1q
  have hwSA : ∀ d ∈ Bundle.stringAtoms, d.before a0 Z = true := fun d hd => hw d (own_strA d hd)
  have hS0 : s.Since s.vm h0.size := State.WarmedH.since (State.WarmedH.refl s) _
  have hk0 : h0.size ≤ h0.size := Nat.le_refl _
  obtain ⟨w3x, T2, h2, kq2, X2, e2, E2, hS2, hk2, hZ2, hown2, st2⟩ := ldcS (s := s) (vm0 := s.vm) X1 hx hZ hown (tw hw 76 rfl) hwSA e1 hS0 hk0 (g := (mkF m 5 #[rv u1, rv w4, rv u2, .val .null] [(.ref w4)])) rfl (hb hby d10_5) (n := 16) (by decide) (by decide) (by decide) (by decide)
  have K2 : Keep h0 h2 [u1] := (Keep.refl h0 [u1]).ext E2
  have Z2 : n0 ≤ h2.size := Nat.le_trans Z0 E2.1
  obtain ⟨_, _, ⟨T3, L3, k3x, n3⟩, -, X3, ⟨Lc3, hQ3, l3, y3, z3⟩, st3⟩ := Jvm.LawKit.callS X2 hx (y := (⟨"java/util/Objects", "requireNonNull", "(Ljava/lang/Object;Ljava/lang/String;)Ljava/lang/Object;"⟩ : MethodName)) hown2 (mvT hZ2 (tw hw 77 rfl)) (mvT hZ2 (tw hw 51 rfl)) (mvT hZ2 (tw hw 52 rfl)) (mvT hZ2 (tw hw 53 rfl)) (by decide) (backOf (W := 0) (rm9_7 l Z a0 hw [] w4 w3x h2 n0 Z2 ) hZ2 (tw hw 53 rfl) (tw hw 52 rfl) (by decide) (by decide)) (g := (mkF m 7 #[rv u1, rv w4, rv u2, .val .null] [(.ref w3x), (.ref w4)])) rfl (by rw [hml]; rfl) (argsL := [(.ref w4), (.ref w3x)]) (rest := []) (lenOf pd_2 rfl) rfl (by show 2 * 0 + _ ≤ _; exact Nat.le_of_eq rfl) (hb hby d10_7) (fun _ _ => ⟨rfl, e2, (by decide : 2 + 0 ≤ _), (by decide : 20 + 0 ≤ _)⟩)
  dsimp only [Pt.U, Pt.locs, Pt.cells, Pt.slots] at X3 l3 y3 z3 st3 hQ3
  subst l3 y3 z3
  obtain ⟨rfl, N3q, e3⟩ := hQ3
  have N3 := Fr.app N1 N3q
  have F1_4 : Exa Z h2 u1 "com/example/clausewright/clausewright/Difference" := P1.ext E2
  have F1_5 : Fld Z h2 u1 "com/example/clausewright/clausewright/Difference" "kind" "Lcom/example/clausewright/clausewright/Difference$Kind;" .null := P2.ext E2
  have F1_6 : Fld Z h2 u1 "com/example/clausewright/clausewright/Difference" "body" "Lcom/example/clausewright/clausewright/Division;" .null := P3.ext E2
  have F1_7 : Fld Z h2 u1 "com/example/clausewright/clausewright/Difference" "entry" "Lcom/example/clausewright/clausewright/Division;" .null := P4.ext E2
  obtain ⟨T8, h8, X8, e8, W8, st8⟩ := putF X3 hx hZ2 hown2 (host := "") (Or.inl (tw hw 78 rfl)) Via.refl e3 F1_5 F1_4 (Or.inr ⟨(tw hw 79 rfl), rfl, hnm⟩) (tw hw 67 rfl) (ty := (.object "com/example/clausewright/clausewright/Difference$Kind")) (by decide) rfl rfl (g := (mkF m 13 #[rv u1, rv w4, rv u2, .val .null] [(.ref w4), (.ref u1)])) rfl rfl (hb hby d10_13)
  have K8 : Keep h0 h8 [u1] := K2.wr W8 (Or.inl (List.mem_of_getElem? (i := 0) rfl))
  have N8 := Fr.snoc X8 N3 P5
  have Fw8 : Fld Z h8 u1 "com/example/clausewright/clausewright/Difference" "kind" "Lcom/example/clausewright/clausewright/Difference$Kind;" (.ref w4) := F1_5.same W8
  have F2_9 : Exa Z h8 u1 "com/example/clausewright/clausewright/Difference" := F1_4.wr W8
  have F2_10 : Fld Z h8 u1 "com/example/clausewright/clausewright/Difference" "body" "Lcom/example/clausewright/clausewright/Division;" .null := F1_6.other W8 (Or.inr (slot_ne (Or.inr (tw hw 81 rfl)) (Or.inr (tw hw 79 rfl)) (by decide) (t := (.object "com/example/clausewright/clausewright/Division")) (t' := (.object "com/example/clausewright/clausewright/Difference$Kind")) (by decide) (by decide)))
  have F2_11 : Fld Z h8 u1 "com/example/clausewright/clausewright/Difference" "entry" "Lcom/example/clausewright/clausewright/Division;" .null := F1_7.other W8 (Or.inr (slot_ne (Or.inr (tw hw 83 rfl)) (Or.inr (tw hw 79 rfl)) (by decide) (t := (.object "com/example/clausewright/clausewright/Division")) (t' := (.object "com/example/clausewright/clausewright/Difference$Kind")) (by decide) (by decide)))
  obtain ⟨T12, h12, X12, e12, W12, st12⟩ := putF X8 hx hZ2 hown2 (host := "") (Or.inl (tw hw 80 rfl)) Via.refl e8 F2_10 F2_9 (Or.inr ⟨(tw hw 81 rfl), rfl, hnm⟩) (tw hw 67 rfl) (ty := (.object "com/example/clausewright/clausewright/Division")) (by decide) rfl rfl (g := (mkF m 18 #[rv u1, rv w4, rv u2, .val .null] [(.ref u2), (.ref u1)])) rfl rfl (hb hby d10_18)
  have K12 : Keep h0 h12 [u1] := K8.wr W12 (Or.inl (List.mem_of_getElem? (i := 0) rfl))
  have N12 := Fr.snoc X12 N8 P5
  have Fw12 : Fld Z h12 u1 "com/example/clausewright/clausewright/Difference" "body" "Lcom/example/clausewright/clausewright/Division;" (.ref u2) := F2_10.same W12
  have F3_13 : Exa Z h12 u1 "com/example/clausewright/clausewright/Difference" := F2_9.wr W12
  have F3_14 : Fld Z h12 u1 "com/example/clausewright/clausewright/Difference" "entry" "Lcom/example/clausewright/clausewright/Division;" .null := F2_11.other W12 (Or.inr (slot_ne (Or.inr (tw hw 83 rfl)) (Or.inr (tw hw 81 rfl)) (by decide) (t := (.object "com/example/clausewright/clausewright/Division")) (t' := (.object "com/example/clausewright/clausewright/Division")) (by decide) (by decide)))
  have F3_15 : Fld Z h12 u1 "com/example/clausewright/clausewright/Difference" "kind" "Lcom/example/clausewright/clausewright/Difference$Kind;" (.ref w4) := Fw8.other W12 (Or.inr (slot_ne (Or.inr (tw hw 79 rfl)) (Or.inr (tw hw 81 rfl)) (by decide) (t := (.object "com/example/clausewright/clausewright/Difference$Kind")) (t' := (.object "com/example/clausewright/clausewright/Division")) (by decide) (by decide)))
  obtain ⟨T16, h16, X16, e16, W16, st16⟩ := putF X12 hx hZ2 hown2 (host := "") (Or.inl (tw hw 82 rfl)) Via.refl e12 F3_14 F3_13 (Or.inr ⟨(tw hw 83 rfl), rfl, hnm⟩) (tw hw 67 rfl) (ty := (.object "com/example/clausewright/clausewright/Division")) (by decide) rfl rfl (g := (mkF m 23 #[rv u1, rv w4, rv u2, .val .null] [.null, (.ref u1)])) rfl rfl (hb hby d10_23)
  have K16 : Keep h0 h16 [u1] := K12.wr W16 (Or.inl (List.mem_of_getElem? (i := 0) rfl))
  have N16 := Fr.snoc X16 N12 P5
  have Fw16 : Fld Z h16 u1 "com/example/clausewright/clausewright/Difference" "entry" "Lcom/example/clausewright/clausewright/Division;" .null := F3_14.same W16
  have F4_17 : Exa Z h16 u1 "com/example/clausewright/clausewright/Difference" := F3_13.wr W16
  have F4_18 : Fld Z h16 u1 "com/example/clausewright/clausewright/Difference" "kind" "Lcom/example/clausewright/clausewright/Difference$Kind;" (.ref w4) := F3_15.other W16 (Or.inr (slot_ne (Or.inr (tw hw 79 rfl)) (Or.inr (tw hw 83 rfl)) (by decide) (t := (.object "com/example/clausewright/clausewright/Difference$Kind")) (t' := (.object "com/example/clausewright/clausewright/Division")) (by decide) (by decide)))
  have F4_19 : Fld Z h16 u1 "com/example/clausewright/clausewright/Difference" "body" "Lcom/example/clausewright/clausewright/Division;" (.ref u2) := Fw12.other W16 (Or.inr (slot_ne (Or.inr (tw hw 81 rfl)) (Or.inr (tw hw 83 rfl)) (by decide) (t := (.object "com/example/clausewright/clausewright/Division")) (t' := (.object "com/example/clausewright/clausewright/Division")) (by decide) (by decide)))
  have hkk8_2 : kq2 ≤ h8.size := Nat.le_trans hk2 (Keep.of_wr W8).1
  have hkk12_3 : kq2 ≤ h12.size := Nat.le_trans hkk8_2 (Keep.of_wr W12).1
  have hkk16_4 : kq2 ≤ h16.size := Nat.le_trans hkk12_3 (Keep.of_wr W16).1
  obtain ⟨fs, hr, hrun, hended, hRW⟩ := X16.leaveW hS2 (by rw [e16]; exact hkk16_4) (v := none) (fun _ => rfl)
  refine ⟨_, _, pre0 _ ?_, hrun, hended, _, _, rfl, ?_, hRW.1, hRW.2.1, hRW.2.2.1, hRW.2.2.2.mono (by decide) (by decide)⟩
  · show SF p e below s₁ (mkF m 0 #[rv u1, rv w4, rv u2, .val .null] []) _
    refine XS.aloadN X0.here hx rfl (hb hby d10_0) rfl rfl ?_
    show SF p e below s₁ (mkF m 1 #[rv u1, rv w4, rv u2, .val .null] [(.ref u1)]) _
    refine st1.trans ?_
    show SF p e below T1 (mkF m 4 #[rv u1, rv w4, rv u2, .val .null] []) _
    refine XS.aloadN X1.here hx rfl (hb hby d10_4) rfl rfl ?_
    show SF p e below T1 (mkF m 5 #[rv u1, rv w4, rv u2, .val .null] [(.ref w4)]) _
    refine st2 _ ?_
    show SF p e below T2 (mkF m 7 #[rv u1, rv w4, rv u2, .val .null] [(.ref w3x), (.ref w4)]) _
    refine st3 _ ?_
    show SF p e below T3 (mkF m 10 #[rv u1, rv w4, rv u2, .val .null] [(.ref w4)]) _
    refine XS.pop X3.here hx rfl (hb hby d10_10) rfl rfl ?_
    refine XS.aloadN X3.here hx rfl (hb hby d10_11) rfl rfl ?_
    show SF p e below T3 (mkF m 12 #[rv u1, rv w4, rv u2, .val .null] [(.ref u1)]) _
    refine XS.aloadN X3.here hx rfl (hb hby d10_12) rfl rfl ?_
    show SF p e below T3 (mkF m 13 #[rv u1, rv w4, rv u2, .val .null] [(.ref w4), (.ref u1)]) _
    refine st8 _ ?_
    show SF p e below T8 (mkF m 16 #[rv u1, rv w4, rv u2, .val .null] []) _
    refine XS.aloadN X8.here hx rfl (hb hby d10_16) rfl rfl ?_
    refine XS.aloadN X8.here hx rfl (hb hby d10_17) rfl rfl ?_
    show SF p e below T8 (mkF m 18 #[rv u1, rv w4, rv u2, .val .null] [(.ref u2), (.ref u1)]) _
    refine st12 _ ?_
    show SF p e below T12 (mkF m 21 #[rv u1, rv w4, rv u2, .val .null] []) _
    refine XS.aloadN X12.here hx rfl (hb hby d10_21) rfl rfl ?_
    refine XS.aloadN X12.here hx rfl (hb hby d10_22) rfl rfl ?_
    show SF p e below T12 (mkF m 23 #[rv u1, rv w4, rv u2, .val .null] [.null, (.ref u1)]) _
    refine st16 _ ?_
    show SF p e below T16 (mkF m 26 #[rv u1, rv w4, rv u2, .val .null] []) _
    exact X16.returnOut hx Bd.returns (hb hby d10_26) hr
  · show Q10_8 Z u1 w4 u2 h0 n0 _ T16.heap _
    rw [e16]
    exact ⟨rfl, N16, K16, F4_17, F4_18, F4_19, Fw16⟩
theorem pd_4 : parseMethodDescriptor "(Lcom/example/clausewright/clausewright/Difference$Kind;Lcom/example/clausewright/clausewright/Division;Lcom/example/clausewright/clausewright/Division;)V" = some ⟨[(.object "com/example/clausewright/clausewright/Difference$Kind"), (.object "com/example/clausewright/clausewright/Division"), (.object "com/example/clausewright/clausewright/Division")], none⟩ := by decide +kernel
theorem d11_0 : decode prog_10_method_2_code 0 = .ok (.aload_n 0, 1) := by decide +kernel
theorem d11_1 : decode prog_10_method_2_code 1 = .ok (.getfield 20, 3) := by decide +kernel
theorem d11_4 : decode prog_10_method_2_code 4 = .ok (.ifnull 13, 3) := by decide +kernel
theorem d11_7 : decode prog_10_method_2_code 7 = .ok (.aload_n 0, 1) := by decide +kernel
theorem d11_8 : decode prog_10_method_2_code 8 = .ok (.getfield 20, 3) := by decide +kernel
theorem d11_11 : decode prog_10_method_2_code 11 = .ok (.invokevirtual 27, 3) := by decide +kernel
theorem d12_0 : decode prog_13_method_7_code 0 = .ok (.aload_n 0, 1) := by decide +kernel
theorem d12_1 : decode prog_13_method_7_code 1 = .ok (.getfield 24, 3) := by decide +kernel
theorem d12_4 : decode prog_13_method_7_code 4 = .ok (.areturn, 1) := by decide +kernel
theorem ef_4 (m : MethodId) (x0 : Addr) : entryFrame m #[(.ref x0)] 1 = mkF m 0 #[.val (.ref x0)] [] := by first | (simp [entryFrame, mkF, argsToLocals, Value.category]; done) | rfl
-- Division.number 
def Q12_9 (Z : State) (u1 : Addr) (u2 : Addr) (h0 : Heap) (n0 : Nat) (v : Option Value) (h : Heap) (L : List Loc) : Prop := v = some (.ref u2) ∧ Fr n0 L ∧ h = h0
set_option maxRecDepth 65536 in
set_option maxHeartbeats 40000000 in
theorem rm12_9 (l : Launch) (Z : State) (a0 : Array Value) (hw : HW Z a0) (ws : List Jvm.Cond) (u1 : Addr) (u2 : Addr) (h0 : Heap) (n0 : Nat) (Z0 : n0 ≤ h0.size) (P1 : Fld Z h0 u1 "com/example/clausewright/clausewright/Division" "number" "Ljava/lang/String;" (.ref u2)) :
    MF l Z (⟨"com/example/clausewright/clausewright/Division", "number", "()Ljava/lang/String;"⟩ : MethodName) (Jvm.Cond.code (⟨"com/example/clausewright/clausewright/Division", "number", "()Ljava/lang/String;"⟩ : MethodName) prog_13_method_7_code 1 (some (.object "java/lang/String"))) ws ({ frames := 0, cells := 0, slots := 0, locals := 0 } : Room) #[(.ref u1)] h0 (Q12_9 Z u1 u2 h0 n0) := by
  refine MetFree.of_bodySF (plainFor_of_name pn_2) hisR ?_
  intro p e s m args below meth c s₁ Bd hml0 hP hK
  obtain ⟨rfl, hZ, hh⟩ := hP
  have hx := Bd.exec
  have hby := Bd.bytes
  have hml : c.maxLocals = 1 := hml0
  have hown : s.vm.findClass "com/example/clausewright/clausewright/Division" = some m.cls := findClass_of_methodNamed Bd.named
  have hnm := (name_of_methodNamed Bd.named Bd.method).1
  have X0 : Stand p l e ({ frames := 0, cells := 0, slots := 0, locals := 0 } : Room) s m #[(.ref u1)] below meth c s₁ [] 0 0 := Stand.of_body Bd
  have e0 : s₁.heap = h0 := by rw [← hh, Bd.state]; rfl
  have N0 := Fr.nil n0
  have pre0 : ∀ t, SF p e below s₁ (mkF m 0 #[rv u1] []) t → SF p e below s₁ (entryFrame m #[(.ref u1)] 1) t := fun t k => castTop (ef_4 m u1) k
  obtain ⟨T1, X1, e1, st1⟩ := getF X0 hx hZ hown (host := "") (Or.inl (tw hw 58 rfl)) Via.refl e0 P1 (g := (mkF m 1 #[rv u1] [(.ref u1)])) rfl rfl (hb hby d12_1)
  obtain ⟨fs, hr, hrun, hended, hW, hsame⟩ := X1.leave (v := some (.ref u2)) (fun h => by rw [Bd.returns] at h; cases h)
  refine ⟨_, _, pre0 _ ?_, hrun, hended, _, _, rfl, ?_, ⟨_, rfl⟩, hW, hsame.mono (by decide) (by decide)⟩
  · show SF p e below s₁ (mkF m 0 #[rv u1] []) _
    refine XS.aloadN X0.here hx rfl (hb hby d12_0) rfl rfl ?_
    show SF p e below s₁ (mkF m 1 #[rv u1] [(.ref u1)]) _
    refine st1 _ ?_
    show SF p e below T1 (mkF m 4 #[rv u1] [(.ref u2)]) _
    exact own_retR X1 hx Bd.returns rfl rfl (hb hby d12_4) hr
  · show Q12_9 Z u1 u2 h0 n0 _ T1.heap _
    rw [e1]
    exact ⟨rfl, N0, rfl⟩
theorem pd_5 : parseMethodDescriptor "()Ljava/lang/String;" = some ⟨[], some (.object "java/lang/String")⟩ := by decide +kernel
theorem d11_14 : decode prog_10_method_2_code 14 = .ok (.goto 10, 3) := by decide +kernel
theorem d11_24 : decode prog_10_method_2_code 24 = .ok (.areturn, 1) := by decide +kernel
theorem ef_5 (m : MethodId) (x0 : Addr) : entryFrame m #[(.ref x0)] 1 = mkF m 0 #[.val (.ref x0)] [] := by first | (simp [entryFrame, mkF, argsToLocals, Value.category]; done) | rfl
-- Difference.number 
def Q11_10 (Z : State) (u1 : Addr) (u2 : Addr) (u3 : Addr) (h0 : Heap) (n0 : Nat) (v : Option Value) (h : Heap) (L : List Loc) : Prop := v = some (.ref u3) ∧ Fr n0 L ∧ h = h0
set_option maxRecDepth 65536 in
set_option maxHeartbeats 40000000 in
theorem rm11_10 (l : Launch) (Z : State) (a0 : Array Value) (hw : HW Z a0) (ws : List Jvm.Cond) (u1 : Addr) (u2 : Addr) (u3 : Addr) (h0 : Heap) (n0 : Nat) (Z0 : n0 ≤ h0.size) (P1 : Fld Z h0 u1 "com/example/clausewright/clausewright/Difference" "body" "Lcom/example/clausewright/clausewright/Division;" (.ref u2)) (P2 : Exa Z h0 u2 "com/example/clausewright/clausewright/Division") (P3 : Fld Z h0 u2 "com/example/clausewright/clausewright/Division" "number" "Ljava/lang/String;" (.ref u3)) :
    MF l Z (⟨"com/example/clausewright/clausewright/Difference", "number", "()Ljava/lang/String;"⟩ : MethodName) (Jvm.Cond.code (⟨"com/example/clausewright/clausewright/Difference", "number", "()Ljava/lang/String;"⟩ : MethodName) prog_10_method_2_code 1 (some (.object "java/lang/String"))) ws ({ frames := 1, cells := 0, slots := 0, locals := 12 } : Room) #[(.ref u1)] h0 (Q11_10 Z u1 u2 u3 h0 n0) := by
  refine MetFree.of_bodySF (plainFor_of_name pn_3) hisR ?_
  intro p e s m args below meth c s₁ Bd hml0 hP hK
  obtain ⟨rfl, hZ, hh⟩ := hP
  have hx := Bd.exec
  have hby := Bd.bytes
  have hml : c.maxLocals = 1 := hml0
  have hown : s.vm.findClass "com/example/clausewright/clausewright/Difference" = some m.cls := findClass_of_methodNamed Bd.named
  have hnm := (name_of_methodNamed Bd.named Bd.method).1
  have X0 : Stand p l e ({ frames := 1, cells := 0, slots := 0, locals := 12 } : Room) s m #[(.ref u1)] below meth c s₁ [] 0 0 := Stand.of_body Bd
  have e0 : s₁.heap = h0 := by rw [← hh, Bd.state]; rfl
  have N0 := Fr.nil n0
  have pre0 : ∀ t, SF p e below s₁ (mkF m 0 #[rv u1] []) t → SF p e below s₁ (entryFrame m #[(.ref u1)] 1) t := fun t k => castTop (ef_5 m u1) k
  obtain ⟨T1, X1, e1, st1⟩ := getF X0 hx hZ hown (host := "") (Or.inl (tw hw 80 rfl)) Via.refl e0 P1 (g := (mkF m 1 #[rv u1] [(.ref u1)])) rfl rfl (hb hby d11_1)
  obtain ⟨T2, X2, e2, st2⟩ := getF X1 hx hZ hown (host := "") (Or.inl (tw hw 80 rfl)) Via.refl e1 P1 (g := (mkF m 8 #[rv u1] [(.ref u1)])) rfl rfl (hb hby d11_8)
  obtain ⟨cq3, kq3, q3a, q3b, q3c⟩ := isOf hZ e2 P2
  obtain ⟨_, _, ⟨T3, L3, k3x, n3⟩, -, X3, ⟨Lc3, hQ3, l3, y3, z3⟩, st3⟩ := X2.virtualBack hx (y := (⟨"com/example/clausewright/clausewright/Division", "number", "()Ljava/lang/String;"⟩ : MethodName)) (z := (⟨"com/example/clausewright/clausewright/Division", "number", "()Ljava/lang/String;"⟩ : MethodName)) hown (mvT hZ (tw hw 89 rfl)) (mvT hZ (tw hw 90 rfl)) (notFace_of_selects (args := #[]) (mvT hZ (tw hw 92 rfl))) (mvT hZ (tw hw 92 rfl)) (mvT hZ (tw hw 91 rfl)) (by decide) (backOf (W := 0) (rm12_9 l Z a0 hw [] u2 u3 h0 n0 Z0 P3) hZ (tw hw 93 rfl) (tw hw 33 rfl) (by decide) (by decide)) q3a q3c (g := (mkF m 11 #[rv u1] [(.ref u2)])) rfl (by rw [hml]; rfl) (Steps.refl _) (argsL := []) (rest := []) (lenOf pd_5 rfl) rfl (by show 2 * 0 + _ ≤ _; exact Nat.le_of_eq rfl) (hb hby d11_11) (fun _ _ => ⟨rfl, e2, (by decide : 0 + 0 ≤ _), (by decide : 0 + 0 ≤ _)⟩)
  dsimp only [Pt.U, Pt.locs, Pt.cells, Pt.slots] at X3 l3 y3 z3 st3 hQ3
  subst l3 y3 z3
  obtain ⟨rfl, N3q, e3⟩ := hQ3
  have N3 := Fr.app N0 N3q
  obtain ⟨fs, hr, hrun, hended, hW, hsame⟩ := X3.leave (v := some (.ref u3)) (fun h => by rw [Bd.returns] at h; cases h)
  refine ⟨_, _, pre0 _ ?_, hrun, hended, _, _, rfl, ?_, ⟨_, rfl⟩, hW, hsame.mono (by decide) (by decide)⟩
  · show SF p e below s₁ (mkF m 0 #[rv u1] []) _
    refine XS.aloadN X0.here hx rfl (hb hby d11_0) rfl rfl ?_
    show SF p e below s₁ (mkF m 1 #[rv u1] [(.ref u1)]) _
    refine st1 _ ?_
    show SF p e below T1 (mkF m 4 #[rv u1] [(.ref u2)]) _
    refine XS.ifnullNo X1.here hx rfl (hb hby d11_4) rfl ?_
    show SF p e below T1 (mkF m 7 #[rv u1] []) _
    refine XS.aloadN X1.here hx rfl (hb hby d11_7) rfl rfl ?_
    show SF p e below T1 (mkF m 8 #[rv u1] [(.ref u1)]) _
    refine st2 _ ?_
    show SF p e below T2 (mkF m 11 #[rv u1] [(.ref u2)]) _
    refine st3.trans ?_
    show SF p e below T3 (mkF m 14 #[rv u1] [(.ref u3)]) _
    refine XS.goto X3.here hx rfl (pc0 := 14) (pc' := 24) rfl (hb hby d11_14) (by decide) (by decide) ?_
    show SF p e below T3 (mkF m 24 #[rv u1] [(.ref u3)]) _
    exact own_retR X3 hx Bd.returns rfl rfl (hb hby d11_24) hr
  · show Q11_10 Z u1 u2 u3 h0 n0 _ T3.heap _
    rw [e3]
    exact ⟨rfl, N3, rfl⟩
theorem d13_0 : decode jdk_42_method_66_code 0 = .ok (.aload_n 0, 1) := by decide +kernel
theorem d13_1 : decode jdk_42_method_66_code 1 = .ok (.aload_n 1, 1) := by decide +kernel
theorem d13_2 : decode jdk_42_method_66_code 2 = .ok (.if_acmp .ne 5, 3) := by decide +kernel
theorem d13_5 : decode jdk_42_method_66_code 5 = .ok (.iconst 1, 1) := by decide +kernel
theorem d13_6 : decode jdk_42_method_66_code 6 = .ok (.ireturn, 1) := by decide +kernel
theorem pn_4 : plainName "java/lang/String" = true := by first | (simp [plainName, overriddenIn]; done) | decide +kernel
theorem ef_6 (m : MethodId) (x0 : Addr) (x1 : Addr) : entryFrame m #[(.ref x0), (.ref x1)] 3 = mkF m 0 #[.val (.ref x0), .val (.ref x1), .unset] [] := by first | (simp [entryFrame, mkF, argsToLocals, Value.category]; done) | rfl
-- String.equals 
def Q13_11 (Z : State) (u1 : Addr) (h0 : Heap) (n0 : Nat) (v : Option Value) (h : Heap) (L : List Loc) : Prop := v = some (.int 1) ∧ Fr n0 L ∧ h = h0
set_option maxRecDepth 65536 in
set_option maxHeartbeats 40000000 in
theorem rm13_11 (l : Launch) (Z : State) (a0 : Array Value) (hw : HW Z a0) (ws : List Jvm.Cond) (u1 : Addr) (h0 : Heap) (n0 : Nat) (Z0 : n0 ≤ h0.size) :
    MF l Z (⟨"java/lang/String", "equals", "(Ljava/lang/Object;)Z"⟩ : MethodName) (Jvm.Cond.code (⟨"java/lang/String", "equals", "(Ljava/lang/Object;)Z"⟩ : MethodName) jdk_42_method_66_code 3 (some .boolean)) ws ({ frames := 0, cells := 0, slots := 0, locals := 0 } : Room) #[(.ref u1), (.ref u1)] h0 (Q13_11 Z u1 h0 n0) := by
  refine MetFree.of_bodySF (plainFor_of_name pn_4) hisR ?_
  intro p e s m args below meth c s₁ Bd hml0 hP hK
  obtain ⟨rfl, hZ, hh⟩ := hP
  have hx := Bd.exec
  have hby := Bd.bytes
  have hml : c.maxLocals = 3 := hml0
  have hown : s.vm.findClass "java/lang/String" = some m.cls := findClass_of_methodNamed Bd.named
  have hnm := (name_of_methodNamed Bd.named Bd.method).1
  have X0 : Stand p l e ({ frames := 0, cells := 0, slots := 0, locals := 0 } : Room) s m #[(.ref u1), (.ref u1)] below meth c s₁ [] 0 0 := Stand.of_body Bd
  have e0 : s₁.heap = h0 := by rw [← hh, Bd.state]; rfl
  have N0 := Fr.nil n0
  have pre0 : ∀ t, SF p e below s₁ (mkF m 0 #[rv u1, rv u1, .unset] []) t → SF p e below s₁ (entryFrame m #[(.ref u1), (.ref u1)] 3) t := fun t k => castTop (ef_6 m u1 u1) k
  obtain ⟨fs, hr, hrun, hended, hW, hsame⟩ := X0.leave (v := some (.int 1)) (fun h => by rw [Bd.returns] at h; cases h)
  refine ⟨_, _, pre0 _ ?_, hrun, hended, _, _, rfl, ?_, ⟨_, rfl⟩, hW, hsame.mono (by decide) (by decide)⟩
  · show SF p e below s₁ (mkF m 0 #[rv u1, rv u1, .unset] []) _
    refine XS.aloadN X0.here hx rfl (hb hby d13_0) rfl rfl ?_
    refine XS.aloadN X0.here hx rfl (hb hby d13_1) rfl rfl ?_
    show SF p e below s₁ (mkF m 2 #[rv u1, rv u1, .unset] [(.ref u1), (.ref u1)]) _
    refine Jvm.RoadKit.acmp (g := (mkF m 2 #[rv u1, rv u1, .unset] [(.ref u1), (.ref u1)])) X0 hx rfl rfl rfl (pc0 := 2) (pc' := 5) (same := true) rfl (hb hby d13_2) rfl (decide_eq_true rfl) (by decide) (by decide) ?_
    show SF p e below s₁ (mkF m 5 #[rv u1, rv u1, .unset] []) _
    refine XS.iconst X0.here hx rfl (hb hby d13_5) ?_
    show SF p e below s₁ (mkF m 6 #[rv u1, rv u1, .unset] [(.int 1)]) _
    exact retN X0 hx (t := .boolean) Bd.returns (by simp) (hb hby d13_6) hr
  · show Q13_11 Z u1 h0 n0 _ s₁.heap _
    rw [e0]
    exact ⟨rfl, N0, rfl⟩
theorem pd_6 : parseMethodDescriptor "(Ljava/lang/Object;)Z" = some ⟨[(.object "java/lang/Object")], some .boolean⟩ := by decide +kernel
-- Objects.requireNonNull 
def Q9_12 (Z : State) (w5 : Addr) (u1 : Addr) (h0 : Heap) (n0 : Nat) (v : Option Value) (h : Heap) (L : List Loc) : Prop := v = some (.ref w5) ∧ Fr n0 L ∧ h = h0
set_option maxRecDepth 65536 in
set_option maxHeartbeats 40000000 in
theorem rm9_12 (l : Launch) (Z : State) (a0 : Array Value) (hw : HW Z a0) (ws : List Jvm.Cond) (w5 : Addr) (u1 : Addr) (h0 : Heap) (n0 : Nat) (Z0 : n0 ≤ h0.size) :
    MF l Z (⟨"java/util/Objects", "requireNonNull", "(Ljava/lang/Object;Ljava/lang/String;)Ljava/lang/Object;"⟩ : MethodName) (Jvm.Cond.code (⟨"java/util/Objects", "requireNonNull", "(Ljava/lang/Object;Ljava/lang/String;)Ljava/lang/Object;"⟩ : MethodName) jdk_31_method_11_code 2 (some (.object "java/lang/Object"))) ws ({ frames := 0, cells := 0, slots := 0, locals := 0 } : Room) #[(.ref w5), (.ref u1)] h0 (Q9_12 Z w5 u1 h0 n0) := by
  refine MetFree.of_bodySF (plainFor_of_name pn_1) hisR ?_
  intro p e s m args below meth c s₁ Bd hml0 hP hK
  obtain ⟨rfl, hZ, hh⟩ := hP
  have hx := Bd.exec
  have hby := Bd.bytes
  have hml : c.maxLocals = 2 := hml0
  have hown : s.vm.findClass "java/util/Objects" = some m.cls := findClass_of_methodNamed Bd.named
  have hnm := (name_of_methodNamed Bd.named Bd.method).1
  have X0 : Stand p l e ({ frames := 0, cells := 0, slots := 0, locals := 0 } : Room) s m #[(.ref w5), (.ref u1)] below meth c s₁ [] 0 0 := Stand.of_body Bd
  have e0 : s₁.heap = h0 := by rw [← hh, Bd.state]; rfl
  have N0 := Fr.nil n0
  have pre0 : ∀ t, SF p e below s₁ (mkF m 0 #[rv w5, rv u1] []) t → SF p e below s₁ (entryFrame m #[(.ref w5), (.ref u1)] 2) t := fun t k => castTop (ef_1 m w5 u1) k
  obtain ⟨fs, hr, hrun, hended, hW, hsame⟩ := X0.leave (v := some (.ref w5)) (fun h => by rw [Bd.returns] at h; cases h)
  refine ⟨_, _, pre0 _ ?_, hrun, hended, _, _, rfl, ?_, ⟨_, rfl⟩, hW, hsame.mono (by decide) (by decide)⟩
  · show SF p e below s₁ (mkF m 0 #[rv w5, rv u1] []) _
    refine XS.aloadN X0.here hx rfl (hb hby d9_0) rfl rfl ?_
    show SF p e below s₁ (mkF m 1 #[rv w5, rv u1] [(.ref w5)]) _
    refine XS.ifnonnullYes X0.here hx rfl (pc0 := 1) (pc' := 13) rfl (hb hby d9_1) rfl (by decide) (by decide) ?_
    show SF p e below s₁ (mkF m 13 #[rv w5, rv u1] []) _
    refine XS.aloadN X0.here hx rfl (hb hby d9_13) rfl rfl ?_
    show SF p e below s₁ (mkF m 14 #[rv w5, rv u1] [(.ref w5)]) _
    exact own_retR X0 hx Bd.returns rfl rfl (hb hby d9_14) hr
  · show Q9_12 Z w5 u1 h0 n0 _ s₁.heap _
    rw [e0]
    exact ⟨rfl, N0, rfl⟩
theorem ef_7 (m : MethodId) (x0 : Addr) (x1 : Addr) (x3 : Addr) : entryFrame m #[(.ref x0), (.ref x1), .null, (.ref x3)] 4 = mkF m 0 #[.val (.ref x0), .val (.ref x1), .val .null, .val (.ref x3)] [] := by first | (simp [entryFrame, mkF, argsToLocals, Value.category]; done) | rfl
-- Difference.init 
def Q10_13 (Z : State) (u1 : Addr) (w5 : Addr) (u2 : Addr) (h0 : Heap) (n0 : Nat) (v : Option Value) (h : Heap) (L : List Loc) : Prop := v = none ∧ Fr n0 L ∧ Keep h0 h [u1] ∧ Exa Z h u1 "com/example/clausewright/clausewright/Difference" ∧ Fld Z h u1 "com/example/clausewright/clausewright/Difference" "kind" "Lcom/example/clausewright/clausewright/Difference$Kind;" (.ref w5) ∧ Fld Z h u1 "com/example/clausewright/clausewright/Difference" "body" "Lcom/example/clausewright/clausewright/Division;" .null ∧ Fld Z h u1 "com/example/clausewright/clausewright/Difference" "entry" "Lcom/example/clausewright/clausewright/Division;" (.ref u2)
set_option maxRecDepth 65536 in
set_option maxHeartbeats 40000000 in
theorem rm10_13 (l : Launch) (Z : State) (a0 : Array Value) (hw : HW Z a0) (ws : List Jvm.Cond) (u1 : Addr) (w5 : Addr) (u2 : Addr) (h0 : Heap) (n0 : Nat) (Z0 : n0 ≤ h0.size) (P1 : Exa Z h0 u1 "com/example/clausewright/clausewright/Difference") (P2 : Fld Z h0 u1 "com/example/clausewright/clausewright/Difference" "kind" "Lcom/example/clausewright/clausewright/Difference$Kind;" .null) (P3 : Fld Z h0 u1 "com/example/clausewright/clausewright/Difference" "body" "Lcom/example/clausewright/clausewright/Division;" .null) (P4 : Fld Z h0 u1 "com/example/clausewright/clausewright/Difference" "entry" "Lcom/example/clausewright/clausewright/Division;" .null) (P5 : n0 ≤ u1) :
    MFW l Z (⟨"com/example/clausewright/clausewright/Difference", "<init>", "(Lcom/example/clausewright/clausewright/Difference$Kind;Lcom/example/clausewright/clausewright/Division;Lcom/example/clausewright/clausewright/Division;)V"⟩ : MethodName) (Jvm.Cond.code (⟨"com/example/clausewright/clausewright/Difference", "<init>", "(Lcom/example/clausewright/clausewright/Difference$Kind;Lcom/example/clausewright/clausewright/Division;Lcom/example/clausewright/clausewright/Division;)V"⟩ : MethodName) prog_10_method_1_code 4 none) ws ({ frames := 2, cells := 2, slots := 20, locals := 24 } : Room) #[(.ref u1), (.ref w5), .null, (.ref u2)] h0 (Q10_13 Z u1 w5 u2 h0 n0) := by
  refine MetFree.of_bodySF (plainFor_of_name pn_3) hisR ?_
  intro p e s m args below meth c s₁ Bd hml0 hP hK
  obtain ⟨rfl, hZ, hh⟩ := hP
  have hx := Bd.exec
  have hby := Bd.bytes
  have hml : c.maxLocals = 4 := hml0
  have hown : s.vm.findClass "com/example/clausewright/clausewright/Difference" = some m.cls := findClass_of_methodNamed Bd.named
  have hnm := (name_of_methodNamed Bd.named Bd.method).1
  have X0 : Stand p l e ({ frames := 2, cells := 2, slots := 20, locals := 24 } : Room) s m #[(.ref u1), (.ref w5), .null, (.ref u2)] below meth c s₁ [] 0 0 := Stand.of_body Bd
  have e0 : s₁.heap = h0 := by rw [← hh, Bd.state]; rfl
  have N0 := Fr.nil n0
  have pre0 : ∀ t, SF p e below s₁ (mkF m 0 #[rv u1, rv w5, .val .null, rv u2] []) t → SF p e below s₁ (entryFrame m #[(.ref u1), (.ref w5), .null, (.ref u2)] 4) t := fun t k => castTop (ef_7 m u1 w5 u2) k
  obtain ⟨_, _, ⟨T1, L1, k1x, n1⟩, -, X1, ⟨Lc1, hQ1, l1, y1, z1⟩, st1⟩ := X0.specialBack hx (y := (⟨"java/lang/Record", "<init>", "()V"⟩ : MethodName)) rfl hown (mvT hZ (tw hw 75 rfl)) (mvT hZ (tw hw 44 rfl)) (mvT hZ (tw hw 47 rfl)) (by decide) (backOf (W := 0) (rm8_1 l Z a0 hw [] u1 h0 n0 Z0 ) hZ (tw hw 47 rfl) (tw hw 46 rfl) (by decide) (by decide)) (g := (mkF m 1 #[rv u1, rv w5, .val .null, rv u2] [(.ref u1)])) rfl (by rw [hml]; rfl) (Steps.refl _) (a := u1) (argsL := []) (rest := []) (lenOf pd_1 rfl) rfl (by show 2 * 0 + _ ≤ _; exact Nat.le_of_eq rfl) (hb hby d10_1) (fun _ _ => ⟨rfl, e0, (by decide : 0 + 0 ≤ _), (by decide : 0 + 0 ≤ _)⟩)
  dsimp only [Pt.U, Pt.locs, Pt.cells, Pt.slots] at X1 l1 y1 z1 st1 hQ1
  subst l1 y1 z1
  obtain ⟨rfl, N1q, e1⟩ := hQ1
  have N1 := Fr.app N0 N1q
  have hwSA : ∀ d ∈ Bundle.stringAtoms, d.before a0 Z = true := fun d hd => hw d (own_strA d hd)
  have hS0 : s.Since s.vm h0.size := State.WarmedH.since (State.WarmedH.refl s) _
  have hk0 : h0.size ≤ h0.size := Nat.le_refl _
  obtain ⟨w3x, T2, h2, kq2, X2, e2, E2, hS2, hk2, hZ2, hown2, st2⟩ := ldcS (s := s) (vm0 := s.vm) X1 hx hZ hown (tw hw 76 rfl) hwSA e1 hS0 hk0 (g := (mkF m 5 #[rv u1, rv w5, .val .null, rv u2] [(.ref w5)])) rfl (hb hby d10_5) (n := 16) (by decide) (by decide) (by decide) (by decide)
  have K2 : Keep h0 h2 [u1] := (Keep.refl h0 [u1]).ext E2
  have Z2 : n0 ≤ h2.size := Nat.le_trans Z0 E2.1
  obtain ⟨_, _, ⟨T3, L3, k3x, n3⟩, -, X3, ⟨Lc3, hQ3, l3, y3, z3⟩, st3⟩ := Jvm.LawKit.callS X2 hx (y := (⟨"java/util/Objects", "requireNonNull", "(Ljava/lang/Object;Ljava/lang/String;)Ljava/lang/Object;"⟩ : MethodName)) hown2 (mvT hZ2 (tw hw 77 rfl)) (mvT hZ2 (tw hw 51 rfl)) (mvT hZ2 (tw hw 52 rfl)) (mvT hZ2 (tw hw 53 rfl)) (by decide) (backOf (W := 0) (rm9_12 l Z a0 hw [] w5 w3x h2 n0 Z2 ) hZ2 (tw hw 53 rfl) (tw hw 52 rfl) (by decide) (by decide)) (g := (mkF m 7 #[rv u1, rv w5, .val .null, rv u2] [(.ref w3x), (.ref w5)])) rfl (by rw [hml]; rfl) (argsL := [(.ref w5), (.ref w3x)]) (rest := []) (lenOf pd_2 rfl) rfl (by show 2 * 0 + _ ≤ _; exact Nat.le_of_eq rfl) (hb hby d10_7) (fun _ _ => ⟨rfl, e2, (by decide : 2 + 0 ≤ _), (by decide : 20 + 0 ≤ _)⟩)
  dsimp only [Pt.U, Pt.locs, Pt.cells, Pt.slots] at X3 l3 y3 z3 st3 hQ3
  subst l3 y3 z3
  obtain ⟨rfl, N3q, e3⟩ := hQ3
  have N3 := Fr.app N1 N3q
  have F1_4 : Exa Z h2 u1 "com/example/clausewright/clausewright/Difference" := P1.ext E2
  have F1_5 : Fld Z h2 u1 "com/example/clausewright/clausewright/Difference" "kind" "Lcom/example/clausewright/clausewright/Difference$Kind;" .null := P2.ext E2
  have F1_6 : Fld Z h2 u1 "com/example/clausewright/clausewright/Difference" "body" "Lcom/example/clausewright/clausewright/Division;" .null := P3.ext E2
  have F1_7 : Fld Z h2 u1 "com/example/clausewright/clausewright/Difference" "entry" "Lcom/example/clausewright/clausewright/Division;" .null := P4.ext E2
  obtain ⟨T8, h8, X8, e8, W8, st8⟩ := putF X3 hx hZ2 hown2 (host := "") (Or.inl (tw hw 78 rfl)) Via.refl e3 F1_5 F1_4 (Or.inr ⟨(tw hw 79 rfl), rfl, hnm⟩) (tw hw 67 rfl) (ty := (.object "com/example/clausewright/clausewright/Difference$Kind")) (by decide) rfl rfl (g := (mkF m 13 #[rv u1, rv w5, .val .null, rv u2] [(.ref w5), (.ref u1)])) rfl rfl (hb hby d10_13)
  have K8 : Keep h0 h8 [u1] := K2.wr W8 (Or.inl (List.mem_of_getElem? (i := 0) rfl))
  have N8 := Fr.snoc X8 N3 P5
  have Fw8 : Fld Z h8 u1 "com/example/clausewright/clausewright/Difference" "kind" "Lcom/example/clausewright/clausewright/Difference$Kind;" (.ref w5) := F1_5.same W8
  have F2_9 : Exa Z h8 u1 "com/example/clausewright/clausewright/Difference" := F1_4.wr W8
  have F2_10 : Fld Z h8 u1 "com/example/clausewright/clausewright/Difference" "body" "Lcom/example/clausewright/clausewright/Division;" .null := F1_6.other W8 (Or.inr (slot_ne (Or.inr (tw hw 81 rfl)) (Or.inr (tw hw 79 rfl)) (by decide) (t := (.object "com/example/clausewright/clausewright/Division")) (t' := (.object "com/example/clausewright/clausewright/Difference$Kind")) (by decide) (by decide)))
  have F2_11 : Fld Z h8 u1 "com/example/clausewright/clausewright/Difference" "entry" "Lcom/example/clausewright/clausewright/Division;" .null := F1_7.other W8 (Or.inr (slot_ne (Or.inr (tw hw 83 rfl)) (Or.inr (tw hw 79 rfl)) (by decide) (t := (.object "com/example/clausewright/clausewright/Division")) (t' := (.object "com/example/clausewright/clausewright/Difference$Kind")) (by decide) (by decide)))
  obtain ⟨T12, h12, X12, e12, W12, st12⟩ := putF X8 hx hZ2 hown2 (host := "") (Or.inl (tw hw 80 rfl)) Via.refl e8 F2_10 F2_9 (Or.inr ⟨(tw hw 81 rfl), rfl, hnm⟩) (tw hw 67 rfl) (ty := (.object "com/example/clausewright/clausewright/Division")) (by decide) rfl rfl (g := (mkF m 18 #[rv u1, rv w5, .val .null, rv u2] [.null, (.ref u1)])) rfl rfl (hb hby d10_18)
  have K12 : Keep h0 h12 [u1] := K8.wr W12 (Or.inl (List.mem_of_getElem? (i := 0) rfl))
  have N12 := Fr.snoc X12 N8 P5
  have Fw12 : Fld Z h12 u1 "com/example/clausewright/clausewright/Difference" "body" "Lcom/example/clausewright/clausewright/Division;" .null := F2_10.same W12
  have F3_13 : Exa Z h12 u1 "com/example/clausewright/clausewright/Difference" := F2_9.wr W12
  have F3_14 : Fld Z h12 u1 "com/example/clausewright/clausewright/Difference" "entry" "Lcom/example/clausewright/clausewright/Division;" .null := F2_11.other W12 (Or.inr (slot_ne (Or.inr (tw hw 83 rfl)) (Or.inr (tw hw 81 rfl)) (by decide) (t := (.object "com/example/clausewright/clausewright/Division")) (t' := (.object "com/example/clausewright/clausewright/Division")) (by decide) (by decide)))
  have F3_15 : Fld Z h12 u1 "com/example/clausewright/clausewright/Difference" "kind" "Lcom/example/clausewright/clausewright/Difference$Kind;" (.ref w5) := Fw8.other W12 (Or.inr (slot_ne (Or.inr (tw hw 79 rfl)) (Or.inr (tw hw 81 rfl)) (by decide) (t := (.object "com/example/clausewright/clausewright/Difference$Kind")) (t' := (.object "com/example/clausewright/clausewright/Division")) (by decide) (by decide)))
  obtain ⟨T16, h16, X16, e16, W16, st16⟩ := putF X12 hx hZ2 hown2 (host := "") (Or.inl (tw hw 82 rfl)) Via.refl e12 F3_14 F3_13 (Or.inr ⟨(tw hw 83 rfl), rfl, hnm⟩) (tw hw 67 rfl) (ty := (.object "com/example/clausewright/clausewright/Division")) (by decide) rfl rfl (g := (mkF m 23 #[rv u1, rv w5, .val .null, rv u2] [(.ref u2), (.ref u1)])) rfl rfl (hb hby d10_23)
  have K16 : Keep h0 h16 [u1] := K12.wr W16 (Or.inl (List.mem_of_getElem? (i := 0) rfl))
  have N16 := Fr.snoc X16 N12 P5
  have Fw16 : Fld Z h16 u1 "com/example/clausewright/clausewright/Difference" "entry" "Lcom/example/clausewright/clausewright/Division;" (.ref u2) := F3_14.same W16
  have F4_17 : Exa Z h16 u1 "com/example/clausewright/clausewright/Difference" := F3_13.wr W16
  have F4_18 : Fld Z h16 u1 "com/example/clausewright/clausewright/Difference" "kind" "Lcom/example/clausewright/clausewright/Difference$Kind;" (.ref w5) := F3_15.other W16 (Or.inr (slot_ne (Or.inr (tw hw 79 rfl)) (Or.inr (tw hw 83 rfl)) (by decide) (t := (.object "com/example/clausewright/clausewright/Difference$Kind")) (t' := (.object "com/example/clausewright/clausewright/Division")) (by decide) (by decide)))
  have F4_19 : Fld Z h16 u1 "com/example/clausewright/clausewright/Difference" "body" "Lcom/example/clausewright/clausewright/Division;" .null := Fw12.other W16 (Or.inr (slot_ne (Or.inr (tw hw 81 rfl)) (Or.inr (tw hw 83 rfl)) (by decide) (t := (.object "com/example/clausewright/clausewright/Division")) (t' := (.object "com/example/clausewright/clausewright/Division")) (by decide) (by decide)))
  have hkk8_2 : kq2 ≤ h8.size := Nat.le_trans hk2 (Keep.of_wr W8).1
  have hkk12_3 : kq2 ≤ h12.size := Nat.le_trans hkk8_2 (Keep.of_wr W12).1
  have hkk16_4 : kq2 ≤ h16.size := Nat.le_trans hkk12_3 (Keep.of_wr W16).1
  obtain ⟨fs, hr, hrun, hended, hRW⟩ := X16.leaveW hS2 (by rw [e16]; exact hkk16_4) (v := none) (fun _ => rfl)
  refine ⟨_, _, pre0 _ ?_, hrun, hended, _, _, rfl, ?_, hRW.1, hRW.2.1, hRW.2.2.1, hRW.2.2.2.mono (by decide) (by decide)⟩
  · show SF p e below s₁ (mkF m 0 #[rv u1, rv w5, .val .null, rv u2] []) _
    refine XS.aloadN X0.here hx rfl (hb hby d10_0) rfl rfl ?_
    show SF p e below s₁ (mkF m 1 #[rv u1, rv w5, .val .null, rv u2] [(.ref u1)]) _
    refine st1.trans ?_
    show SF p e below T1 (mkF m 4 #[rv u1, rv w5, .val .null, rv u2] []) _
    refine XS.aloadN X1.here hx rfl (hb hby d10_4) rfl rfl ?_
    show SF p e below T1 (mkF m 5 #[rv u1, rv w5, .val .null, rv u2] [(.ref w5)]) _
    refine st2 _ ?_
    show SF p e below T2 (mkF m 7 #[rv u1, rv w5, .val .null, rv u2] [(.ref w3x), (.ref w5)]) _
    refine st3 _ ?_
    show SF p e below T3 (mkF m 10 #[rv u1, rv w5, .val .null, rv u2] [(.ref w5)]) _
    refine XS.pop X3.here hx rfl (hb hby d10_10) rfl rfl ?_
    refine XS.aloadN X3.here hx rfl (hb hby d10_11) rfl rfl ?_
    show SF p e below T3 (mkF m 12 #[rv u1, rv w5, .val .null, rv u2] [(.ref u1)]) _
    refine XS.aloadN X3.here hx rfl (hb hby d10_12) rfl rfl ?_
    show SF p e below T3 (mkF m 13 #[rv u1, rv w5, .val .null, rv u2] [(.ref w5), (.ref u1)]) _
    refine st8 _ ?_
    show SF p e below T8 (mkF m 16 #[rv u1, rv w5, .val .null, rv u2] []) _
    refine XS.aloadN X8.here hx rfl (hb hby d10_16) rfl rfl ?_
    refine XS.aloadN X8.here hx rfl (hb hby d10_17) rfl rfl ?_
    show SF p e below T8 (mkF m 18 #[rv u1, rv w5, .val .null, rv u2] [.null, (.ref u1)]) _
    refine st12 _ ?_
    show SF p e below T12 (mkF m 21 #[rv u1, rv w5, .val .null, rv u2] []) _
    refine XS.aloadN X12.here hx rfl (hb hby d10_21) rfl rfl ?_
    refine XS.aloadN X12.here hx rfl (hb hby d10_22) rfl rfl ?_
    show SF p e below T12 (mkF m 23 #[rv u1, rv w5, .val .null, rv u2] [(.ref u2), (.ref u1)]) _
    refine st16 _ ?_
    show SF p e below T16 (mkF m 26 #[rv u1, rv w5, .val .null, rv u2] []) _
    exact X16.returnOut hx Bd.returns (hb hby d10_26) hr
  · show Q10_13 Z u1 w5 u2 h0 n0 _ T16.heap _
    rw [e16]
    exact ⟨rfl, N16, K16, F4_17, F4_18, F4_19, Fw16⟩
theorem d11_17 : decode prog_10_method_2_code 17 = .ok (.aload_n 0, 1) := by decide +kernel
theorem d11_18 : decode prog_10_method_2_code 18 = .ok (.getfield 24, 3) := by decide +kernel
theorem d11_21 : decode prog_10_method_2_code 21 = .ok (.invokevirtual 27, 3) := by decide +kernel
-- Difference.number 
def Q11_14 (Z : State) (u1 : Addr) (u2 : Addr) (u3 : Addr) (h0 : Heap) (n0 : Nat) (v : Option Value) (h : Heap) (L : List Loc) : Prop := v = some (.ref u3) ∧ Fr n0 L ∧ h = h0
set_option maxRecDepth 65536 in
set_option maxHeartbeats 40000000 in
theorem rm11_14 (l : Launch) (Z : State) (a0 : Array Value) (hw : HW Z a0) (ws : List Jvm.Cond) (u1 : Addr) (u2 : Addr) (u3 : Addr) (h0 : Heap) (n0 : Nat) (Z0 : n0 ≤ h0.size) (P1 : Fld Z h0 u1 "com/example/clausewright/clausewright/Difference" "body" "Lcom/example/clausewright/clausewright/Division;" .null) (P2 : Fld Z h0 u1 "com/example/clausewright/clausewright/Difference" "entry" "Lcom/example/clausewright/clausewright/Division;" (.ref u2)) (P3 : Exa Z h0 u2 "com/example/clausewright/clausewright/Division") (P4 : Fld Z h0 u2 "com/example/clausewright/clausewright/Division" "number" "Ljava/lang/String;" (.ref u3)) :
    MF l Z (⟨"com/example/clausewright/clausewright/Difference", "number", "()Ljava/lang/String;"⟩ : MethodName) (Jvm.Cond.code (⟨"com/example/clausewright/clausewright/Difference", "number", "()Ljava/lang/String;"⟩ : MethodName) prog_10_method_2_code 1 (some (.object "java/lang/String"))) ws ({ frames := 1, cells := 0, slots := 0, locals := 12 } : Room) #[(.ref u1)] h0 (Q11_14 Z u1 u2 u3 h0 n0) := by
  refine MetFree.of_bodySF (plainFor_of_name pn_3) hisR ?_
  intro p e s m args below meth c s₁ Bd hml0 hP hK
  obtain ⟨rfl, hZ, hh⟩ := hP
  have hx := Bd.exec
  have hby := Bd.bytes
  have hml : c.maxLocals = 1 := hml0
  have hown : s.vm.findClass "com/example/clausewright/clausewright/Difference" = some m.cls := findClass_of_methodNamed Bd.named
  have hnm := (name_of_methodNamed Bd.named Bd.method).1
  have X0 : Stand p l e ({ frames := 1, cells := 0, slots := 0, locals := 12 } : Room) s m #[(.ref u1)] below meth c s₁ [] 0 0 := Stand.of_body Bd
  have e0 : s₁.heap = h0 := by rw [← hh, Bd.state]; rfl
  have N0 := Fr.nil n0
  have pre0 : ∀ t, SF p e below s₁ (mkF m 0 #[rv u1] []) t → SF p e below s₁ (entryFrame m #[(.ref u1)] 1) t := fun t k => castTop (ef_5 m u1) k
  obtain ⟨T1, X1, e1, st1⟩ := getF X0 hx hZ hown (host := "") (Or.inl (tw hw 80 rfl)) Via.refl e0 P1 (g := (mkF m 1 #[rv u1] [(.ref u1)])) rfl rfl (hb hby d11_1)
  obtain ⟨T2, X2, e2, st2⟩ := getF X1 hx hZ hown (host := "") (Or.inl (tw hw 82 rfl)) Via.refl e1 P2 (g := (mkF m 18 #[rv u1] [(.ref u1)])) rfl rfl (hb hby d11_18)
  obtain ⟨cq3, kq3, q3a, q3b, q3c⟩ := isOf hZ e2 P3
  obtain ⟨_, _, ⟨T3, L3, k3x, n3⟩, -, X3, ⟨Lc3, hQ3, l3, y3, z3⟩, st3⟩ := X2.virtualBack hx (y := (⟨"com/example/clausewright/clausewright/Division", "number", "()Ljava/lang/String;"⟩ : MethodName)) (z := (⟨"com/example/clausewright/clausewright/Division", "number", "()Ljava/lang/String;"⟩ : MethodName)) hown (mvT hZ (tw hw 89 rfl)) (mvT hZ (tw hw 90 rfl)) (notFace_of_selects (args := #[]) (mvT hZ (tw hw 92 rfl))) (mvT hZ (tw hw 92 rfl)) (mvT hZ (tw hw 91 rfl)) (by decide) (backOf (W := 0) (rm12_9 l Z a0 hw [] u2 u3 h0 n0 Z0 P4) hZ (tw hw 93 rfl) (tw hw 33 rfl) (by decide) (by decide)) q3a q3c (g := (mkF m 21 #[rv u1] [(.ref u2)])) rfl (by rw [hml]; rfl) (Steps.refl _) (argsL := []) (rest := []) (lenOf pd_5 rfl) rfl (by show 2 * 0 + _ ≤ _; exact Nat.le_of_eq rfl) (hb hby d11_21) (fun _ _ => ⟨rfl, e2, (by decide : 0 + 0 ≤ _), (by decide : 0 + 0 ≤ _)⟩)
  dsimp only [Pt.U, Pt.locs, Pt.cells, Pt.slots] at X3 l3 y3 z3 st3 hQ3
  subst l3 y3 z3
  obtain ⟨rfl, N3q, e3⟩ := hQ3
  have N3 := Fr.app N0 N3q
  obtain ⟨fs, hr, hrun, hended, hW, hsame⟩ := X3.leave (v := some (.ref u3)) (fun h => by rw [Bd.returns] at h; cases h)
  refine ⟨_, _, pre0 _ ?_, hrun, hended, _, _, rfl, ?_, ⟨_, rfl⟩, hW, hsame.mono (by decide) (by decide)⟩
  · show SF p e below s₁ (mkF m 0 #[rv u1] []) _
    refine XS.aloadN X0.here hx rfl (hb hby d11_0) rfl rfl ?_
    show SF p e below s₁ (mkF m 1 #[rv u1] [(.ref u1)]) _
    refine st1 _ ?_
    show SF p e below T1 (mkF m 4 #[rv u1] [.null]) _
    refine XS.ifnullYes X1.here hx rfl (pc0 := 4) (pc' := 17) rfl (hb hby d11_4) rfl (by decide) (by decide) ?_
    show SF p e below T1 (mkF m 17 #[rv u1] []) _
    refine XS.aloadN X1.here hx rfl (hb hby d11_17) rfl rfl ?_
    show SF p e below T1 (mkF m 18 #[rv u1] [(.ref u1)]) _
    refine st2 _ ?_
    show SF p e below T2 (mkF m 21 #[rv u1] [(.ref u2)]) _
    refine st3.trans ?_
    show SF p e below T3 (mkF m 24 #[rv u1] [(.ref u3)]) _
    exact own_retR X3 hx Bd.returns rfl rfl (hb hby d11_24) hr
  · show Q11_14 Z u1 u2 u3 h0 n0 _ T3.heap _
    rw [e3]
    exact ⟨rfl, N3, rfl⟩
-- Objects.requireNonNull 
def Q9_15 (Z : State) (w3 : Addr) (u1 : Addr) (h0 : Heap) (n0 : Nat) (v : Option Value) (h : Heap) (L : List Loc) : Prop := v = some (.ref w3) ∧ Fr n0 L ∧ h = h0
set_option maxRecDepth 65536 in
set_option maxHeartbeats 40000000 in
theorem rm9_15 (l : Launch) (Z : State) (a0 : Array Value) (hw : HW Z a0) (ws : List Jvm.Cond) (w3 : Addr) (u1 : Addr) (h0 : Heap) (n0 : Nat) (Z0 : n0 ≤ h0.size) :
    MF l Z (⟨"java/util/Objects", "requireNonNull", "(Ljava/lang/Object;Ljava/lang/String;)Ljava/lang/Object;"⟩ : MethodName) (Jvm.Cond.code (⟨"java/util/Objects", "requireNonNull", "(Ljava/lang/Object;Ljava/lang/String;)Ljava/lang/Object;"⟩ : MethodName) jdk_31_method_11_code 2 (some (.object "java/lang/Object"))) ws ({ frames := 0, cells := 0, slots := 0, locals := 0 } : Room) #[(.ref w3), (.ref u1)] h0 (Q9_15 Z w3 u1 h0 n0) := by
  refine MetFree.of_bodySF (plainFor_of_name pn_1) hisR ?_
  intro p e s m args below meth c s₁ Bd hml0 hP hK
  obtain ⟨rfl, hZ, hh⟩ := hP
  have hx := Bd.exec
  have hby := Bd.bytes
  have hml : c.maxLocals = 2 := hml0
  have hown : s.vm.findClass "java/util/Objects" = some m.cls := findClass_of_methodNamed Bd.named
  have hnm := (name_of_methodNamed Bd.named Bd.method).1
  have X0 : Stand p l e ({ frames := 0, cells := 0, slots := 0, locals := 0 } : Room) s m #[(.ref w3), (.ref u1)] below meth c s₁ [] 0 0 := Stand.of_body Bd
  have e0 : s₁.heap = h0 := by rw [← hh, Bd.state]; rfl
  have N0 := Fr.nil n0
  have pre0 : ∀ t, SF p e below s₁ (mkF m 0 #[rv w3, rv u1] []) t → SF p e below s₁ (entryFrame m #[(.ref w3), (.ref u1)] 2) t := fun t k => castTop (ef_1 m w3 u1) k
  obtain ⟨fs, hr, hrun, hended, hW, hsame⟩ := X0.leave (v := some (.ref w3)) (fun h => by rw [Bd.returns] at h; cases h)
  refine ⟨_, _, pre0 _ ?_, hrun, hended, _, _, rfl, ?_, ⟨_, rfl⟩, hW, hsame.mono (by decide) (by decide)⟩
  · show SF p e below s₁ (mkF m 0 #[rv w3, rv u1] []) _
    refine XS.aloadN X0.here hx rfl (hb hby d9_0) rfl rfl ?_
    show SF p e below s₁ (mkF m 1 #[rv w3, rv u1] [(.ref w3)]) _
    refine XS.ifnonnullYes X0.here hx rfl (pc0 := 1) (pc' := 13) rfl (hb hby d9_1) rfl (by decide) (by decide) ?_
    show SF p e below s₁ (mkF m 13 #[rv w3, rv u1] []) _
    refine XS.aloadN X0.here hx rfl (hb hby d9_13) rfl rfl ?_
    show SF p e below s₁ (mkF m 14 #[rv w3, rv u1] [(.ref w3)]) _
    exact own_retR X0 hx Bd.returns rfl rfl (hb hby d9_14) hr
  · show Q9_15 Z w3 u1 h0 n0 _ s₁.heap _
    rw [e0]
    exact ⟨rfl, N0, rfl⟩
theorem ef_8 (m : MethodId) (x0 : Addr) (x1 : Addr) (x2 : Addr) (x3 : Addr) : entryFrame m #[(.ref x0), (.ref x1), (.ref x2), (.ref x3)] 4 = mkF m 0 #[.val (.ref x0), .val (.ref x1), .val (.ref x2), .val (.ref x3)] [] := by first | (simp [entryFrame, mkF, argsToLocals, Value.category]; done) | rfl
-- Difference.init 
def Q10_16 (Z : State) (u1 : Addr) (w3 : Addr) (u2 : Addr) (u3 : Addr) (h0 : Heap) (n0 : Nat) (v : Option Value) (h : Heap) (L : List Loc) : Prop := v = none ∧ Fr n0 L ∧ Keep h0 h [u1] ∧ Exa Z h u1 "com/example/clausewright/clausewright/Difference" ∧ Fld Z h u1 "com/example/clausewright/clausewright/Difference" "kind" "Lcom/example/clausewright/clausewright/Difference$Kind;" (.ref w3) ∧ Fld Z h u1 "com/example/clausewright/clausewright/Difference" "body" "Lcom/example/clausewright/clausewright/Division;" (.ref u2) ∧ Fld Z h u1 "com/example/clausewright/clausewright/Difference" "entry" "Lcom/example/clausewright/clausewright/Division;" (.ref u3)
set_option maxRecDepth 65536 in
set_option maxHeartbeats 40000000 in
theorem rm10_16 (l : Launch) (Z : State) (a0 : Array Value) (hw : HW Z a0) (ws : List Jvm.Cond) (u1 : Addr) (w3 : Addr) (u2 : Addr) (u3 : Addr) (h0 : Heap) (n0 : Nat) (Z0 : n0 ≤ h0.size) (P1 : Exa Z h0 u1 "com/example/clausewright/clausewright/Difference") (P2 : Fld Z h0 u1 "com/example/clausewright/clausewright/Difference" "kind" "Lcom/example/clausewright/clausewright/Difference$Kind;" .null) (P3 : Fld Z h0 u1 "com/example/clausewright/clausewright/Difference" "body" "Lcom/example/clausewright/clausewright/Division;" .null) (P4 : Fld Z h0 u1 "com/example/clausewright/clausewright/Difference" "entry" "Lcom/example/clausewright/clausewright/Division;" .null) (P5 : n0 ≤ u1) :
    MFW l Z (⟨"com/example/clausewright/clausewright/Difference", "<init>", "(Lcom/example/clausewright/clausewright/Difference$Kind;Lcom/example/clausewright/clausewright/Division;Lcom/example/clausewright/clausewright/Division;)V"⟩ : MethodName) (Jvm.Cond.code (⟨"com/example/clausewright/clausewright/Difference", "<init>", "(Lcom/example/clausewright/clausewright/Difference$Kind;Lcom/example/clausewright/clausewright/Division;Lcom/example/clausewright/clausewright/Division;)V"⟩ : MethodName) prog_10_method_1_code 4 none) ws ({ frames := 2, cells := 2, slots := 20, locals := 24 } : Room) #[(.ref u1), (.ref w3), (.ref u2), (.ref u3)] h0 (Q10_16 Z u1 w3 u2 u3 h0 n0) := by
  refine MetFree.of_bodySF (plainFor_of_name pn_3) hisR ?_
  intro p e s m args below meth c s₁ Bd hml0 hP hK
  obtain ⟨rfl, hZ, hh⟩ := hP
  have hx := Bd.exec
  have hby := Bd.bytes
  have hml : c.maxLocals = 4 := hml0
  have hown : s.vm.findClass "com/example/clausewright/clausewright/Difference" = some m.cls := findClass_of_methodNamed Bd.named
  have hnm := (name_of_methodNamed Bd.named Bd.method).1
  have X0 : Stand p l e ({ frames := 2, cells := 2, slots := 20, locals := 24 } : Room) s m #[(.ref u1), (.ref w3), (.ref u2), (.ref u3)] below meth c s₁ [] 0 0 := Stand.of_body Bd
  have e0 : s₁.heap = h0 := by rw [← hh, Bd.state]; rfl
  have N0 := Fr.nil n0
  have pre0 : ∀ t, SF p e below s₁ (mkF m 0 #[rv u1, rv w3, rv u2, rv u3] []) t → SF p e below s₁ (entryFrame m #[(.ref u1), (.ref w3), (.ref u2), (.ref u3)] 4) t := fun t k => castTop (ef_8 m u1 w3 u2 u3) k
  obtain ⟨_, _, ⟨T1, L1, k1x, n1⟩, -, X1, ⟨Lc1, hQ1, l1, y1, z1⟩, st1⟩ := X0.specialBack hx (y := (⟨"java/lang/Record", "<init>", "()V"⟩ : MethodName)) rfl hown (mvT hZ (tw hw 75 rfl)) (mvT hZ (tw hw 44 rfl)) (mvT hZ (tw hw 47 rfl)) (by decide) (backOf (W := 0) (rm8_1 l Z a0 hw [] u1 h0 n0 Z0 ) hZ (tw hw 47 rfl) (tw hw 46 rfl) (by decide) (by decide)) (g := (mkF m 1 #[rv u1, rv w3, rv u2, rv u3] [(.ref u1)])) rfl (by rw [hml]; rfl) (Steps.refl _) (a := u1) (argsL := []) (rest := []) (lenOf pd_1 rfl) rfl (by show 2 * 0 + _ ≤ _; exact Nat.le_of_eq rfl) (hb hby d10_1) (fun _ _ => ⟨rfl, e0, (by decide : 0 + 0 ≤ _), (by decide : 0 + 0 ≤ _)⟩)
  dsimp only [Pt.U, Pt.locs, Pt.cells, Pt.slots] at X1 l1 y1 z1 st1 hQ1
  subst l1 y1 z1
  obtain ⟨rfl, N1q, e1⟩ := hQ1
  have N1 := Fr.app N0 N1q
  have hwSA : ∀ d ∈ Bundle.stringAtoms, d.before a0 Z = true := fun d hd => hw d (own_strA d hd)
  have hS0 : s.Since s.vm h0.size := State.WarmedH.since (State.WarmedH.refl s) _
  have hk0 : h0.size ≤ h0.size := Nat.le_refl _
  obtain ⟨w4x, T2, h2, kq2, X2, e2, E2, hS2, hk2, hZ2, hown2, st2⟩ := ldcS (s := s) (vm0 := s.vm) X1 hx hZ hown (tw hw 76 rfl) hwSA e1 hS0 hk0 (g := (mkF m 5 #[rv u1, rv w3, rv u2, rv u3] [(.ref w3)])) rfl (hb hby d10_5) (n := 16) (by decide) (by decide) (by decide) (by decide)
  have K2 : Keep h0 h2 [u1] := (Keep.refl h0 [u1]).ext E2
  have Z2 : n0 ≤ h2.size := Nat.le_trans Z0 E2.1
  obtain ⟨_, _, ⟨T3, L3, k3x, n3⟩, -, X3, ⟨Lc3, hQ3, l3, y3, z3⟩, st3⟩ := Jvm.LawKit.callS X2 hx (y := (⟨"java/util/Objects", "requireNonNull", "(Ljava/lang/Object;Ljava/lang/String;)Ljava/lang/Object;"⟩ : MethodName)) hown2 (mvT hZ2 (tw hw 77 rfl)) (mvT hZ2 (tw hw 51 rfl)) (mvT hZ2 (tw hw 52 rfl)) (mvT hZ2 (tw hw 53 rfl)) (by decide) (backOf (W := 0) (rm9_15 l Z a0 hw [] w3 w4x h2 n0 Z2 ) hZ2 (tw hw 53 rfl) (tw hw 52 rfl) (by decide) (by decide)) (g := (mkF m 7 #[rv u1, rv w3, rv u2, rv u3] [(.ref w4x), (.ref w3)])) rfl (by rw [hml]; rfl) (argsL := [(.ref w3), (.ref w4x)]) (rest := []) (lenOf pd_2 rfl) rfl (by show 2 * 0 + _ ≤ _; exact Nat.le_of_eq rfl) (hb hby d10_7) (fun _ _ => ⟨rfl, e2, (by decide : 2 + 0 ≤ _), (by decide : 20 + 0 ≤ _)⟩)
  dsimp only [Pt.U, Pt.locs, Pt.cells, Pt.slots] at X3 l3 y3 z3 st3 hQ3
  subst l3 y3 z3
  obtain ⟨rfl, N3q, e3⟩ := hQ3
  have N3 := Fr.app N1 N3q
  have F1_4 : Exa Z h2 u1 "com/example/clausewright/clausewright/Difference" := P1.ext E2
  have F1_5 : Fld Z h2 u1 "com/example/clausewright/clausewright/Difference" "kind" "Lcom/example/clausewright/clausewright/Difference$Kind;" .null := P2.ext E2
  have F1_6 : Fld Z h2 u1 "com/example/clausewright/clausewright/Difference" "body" "Lcom/example/clausewright/clausewright/Division;" .null := P3.ext E2
  have F1_7 : Fld Z h2 u1 "com/example/clausewright/clausewright/Difference" "entry" "Lcom/example/clausewright/clausewright/Division;" .null := P4.ext E2
  obtain ⟨T8, h8, X8, e8, W8, st8⟩ := putF X3 hx hZ2 hown2 (host := "") (Or.inl (tw hw 78 rfl)) Via.refl e3 F1_5 F1_4 (Or.inr ⟨(tw hw 79 rfl), rfl, hnm⟩) (tw hw 67 rfl) (ty := (.object "com/example/clausewright/clausewright/Difference$Kind")) (by decide) rfl rfl (g := (mkF m 13 #[rv u1, rv w3, rv u2, rv u3] [(.ref w3), (.ref u1)])) rfl rfl (hb hby d10_13)
  have K8 : Keep h0 h8 [u1] := K2.wr W8 (Or.inl (List.mem_of_getElem? (i := 0) rfl))
  have N8 := Fr.snoc X8 N3 P5
  have Fw8 : Fld Z h8 u1 "com/example/clausewright/clausewright/Difference" "kind" "Lcom/example/clausewright/clausewright/Difference$Kind;" (.ref w3) := F1_5.same W8
  have F2_9 : Exa Z h8 u1 "com/example/clausewright/clausewright/Difference" := F1_4.wr W8
  have F2_10 : Fld Z h8 u1 "com/example/clausewright/clausewright/Difference" "body" "Lcom/example/clausewright/clausewright/Division;" .null := F1_6.other W8 (Or.inr (slot_ne (Or.inr (tw hw 81 rfl)) (Or.inr (tw hw 79 rfl)) (by decide) (t := (.object "com/example/clausewright/clausewright/Division")) (t' := (.object "com/example/clausewright/clausewright/Difference$Kind")) (by decide) (by decide)))
  have F2_11 : Fld Z h8 u1 "com/example/clausewright/clausewright/Difference" "entry" "Lcom/example/clausewright/clausewright/Division;" .null := F1_7.other W8 (Or.inr (slot_ne (Or.inr (tw hw 83 rfl)) (Or.inr (tw hw 79 rfl)) (by decide) (t := (.object "com/example/clausewright/clausewright/Division")) (t' := (.object "com/example/clausewright/clausewright/Difference$Kind")) (by decide) (by decide)))
  obtain ⟨T12, h12, X12, e12, W12, st12⟩ := putF X8 hx hZ2 hown2 (host := "") (Or.inl (tw hw 80 rfl)) Via.refl e8 F2_10 F2_9 (Or.inr ⟨(tw hw 81 rfl), rfl, hnm⟩) (tw hw 67 rfl) (ty := (.object "com/example/clausewright/clausewright/Division")) (by decide) rfl rfl (g := (mkF m 18 #[rv u1, rv w3, rv u2, rv u3] [(.ref u2), (.ref u1)])) rfl rfl (hb hby d10_18)
  have K12 : Keep h0 h12 [u1] := K8.wr W12 (Or.inl (List.mem_of_getElem? (i := 0) rfl))
  have N12 := Fr.snoc X12 N8 P5
  have Fw12 : Fld Z h12 u1 "com/example/clausewright/clausewright/Difference" "body" "Lcom/example/clausewright/clausewright/Division;" (.ref u2) := F2_10.same W12
  have F3_13 : Exa Z h12 u1 "com/example/clausewright/clausewright/Difference" := F2_9.wr W12
  have F3_14 : Fld Z h12 u1 "com/example/clausewright/clausewright/Difference" "entry" "Lcom/example/clausewright/clausewright/Division;" .null := F2_11.other W12 (Or.inr (slot_ne (Or.inr (tw hw 83 rfl)) (Or.inr (tw hw 81 rfl)) (by decide) (t := (.object "com/example/clausewright/clausewright/Division")) (t' := (.object "com/example/clausewright/clausewright/Division")) (by decide) (by decide)))
  have F3_15 : Fld Z h12 u1 "com/example/clausewright/clausewright/Difference" "kind" "Lcom/example/clausewright/clausewright/Difference$Kind;" (.ref w3) := Fw8.other W12 (Or.inr (slot_ne (Or.inr (tw hw 79 rfl)) (Or.inr (tw hw 81 rfl)) (by decide) (t := (.object "com/example/clausewright/clausewright/Difference$Kind")) (t' := (.object "com/example/clausewright/clausewright/Division")) (by decide) (by decide)))
  obtain ⟨T16, h16, X16, e16, W16, st16⟩ := putF X12 hx hZ2 hown2 (host := "") (Or.inl (tw hw 82 rfl)) Via.refl e12 F3_14 F3_13 (Or.inr ⟨(tw hw 83 rfl), rfl, hnm⟩) (tw hw 67 rfl) (ty := (.object "com/example/clausewright/clausewright/Division")) (by decide) rfl rfl (g := (mkF m 23 #[rv u1, rv w3, rv u2, rv u3] [(.ref u3), (.ref u1)])) rfl rfl (hb hby d10_23)
  have K16 : Keep h0 h16 [u1] := K12.wr W16 (Or.inl (List.mem_of_getElem? (i := 0) rfl))
  have N16 := Fr.snoc X16 N12 P5
  have Fw16 : Fld Z h16 u1 "com/example/clausewright/clausewright/Difference" "entry" "Lcom/example/clausewright/clausewright/Division;" (.ref u3) := F3_14.same W16
  have F4_17 : Exa Z h16 u1 "com/example/clausewright/clausewright/Difference" := F3_13.wr W16
  have F4_18 : Fld Z h16 u1 "com/example/clausewright/clausewright/Difference" "kind" "Lcom/example/clausewright/clausewright/Difference$Kind;" (.ref w3) := F3_15.other W16 (Or.inr (slot_ne (Or.inr (tw hw 79 rfl)) (Or.inr (tw hw 83 rfl)) (by decide) (t := (.object "com/example/clausewright/clausewright/Difference$Kind")) (t' := (.object "com/example/clausewright/clausewright/Division")) (by decide) (by decide)))
  have F4_19 : Fld Z h16 u1 "com/example/clausewright/clausewright/Difference" "body" "Lcom/example/clausewright/clausewright/Division;" (.ref u2) := Fw12.other W16 (Or.inr (slot_ne (Or.inr (tw hw 81 rfl)) (Or.inr (tw hw 83 rfl)) (by decide) (t := (.object "com/example/clausewright/clausewright/Division")) (t' := (.object "com/example/clausewright/clausewright/Division")) (by decide) (by decide)))
  have hkk8_2 : kq2 ≤ h8.size := Nat.le_trans hk2 (Keep.of_wr W8).1
  have hkk12_3 : kq2 ≤ h12.size := Nat.le_trans hkk8_2 (Keep.of_wr W12).1
  have hkk16_4 : kq2 ≤ h16.size := Nat.le_trans hkk12_3 (Keep.of_wr W16).1
  obtain ⟨fs, hr, hrun, hended, hRW⟩ := X16.leaveW hS2 (by rw [e16]; exact hkk16_4) (v := none) (fun _ => rfl)
  refine ⟨_, _, pre0 _ ?_, hrun, hended, _, _, rfl, ?_, hRW.1, hRW.2.1, hRW.2.2.1, hRW.2.2.2.mono (by decide) (by decide)⟩
  · show SF p e below s₁ (mkF m 0 #[rv u1, rv w3, rv u2, rv u3] []) _
    refine XS.aloadN X0.here hx rfl (hb hby d10_0) rfl rfl ?_
    show SF p e below s₁ (mkF m 1 #[rv u1, rv w3, rv u2, rv u3] [(.ref u1)]) _
    refine st1.trans ?_
    show SF p e below T1 (mkF m 4 #[rv u1, rv w3, rv u2, rv u3] []) _
    refine XS.aloadN X1.here hx rfl (hb hby d10_4) rfl rfl ?_
    show SF p e below T1 (mkF m 5 #[rv u1, rv w3, rv u2, rv u3] [(.ref w3)]) _
    refine st2 _ ?_
    show SF p e below T2 (mkF m 7 #[rv u1, rv w3, rv u2, rv u3] [(.ref w4x), (.ref w3)]) _
    refine st3 _ ?_
    show SF p e below T3 (mkF m 10 #[rv u1, rv w3, rv u2, rv u3] [(.ref w3)]) _
    refine XS.pop X3.here hx rfl (hb hby d10_10) rfl rfl ?_
    refine XS.aloadN X3.here hx rfl (hb hby d10_11) rfl rfl ?_
    show SF p e below T3 (mkF m 12 #[rv u1, rv w3, rv u2, rv u3] [(.ref u1)]) _
    refine XS.aloadN X3.here hx rfl (hb hby d10_12) rfl rfl ?_
    show SF p e below T3 (mkF m 13 #[rv u1, rv w3, rv u2, rv u3] [(.ref w3), (.ref u1)]) _
    refine st8 _ ?_
    show SF p e below T8 (mkF m 16 #[rv u1, rv w3, rv u2, rv u3] []) _
    refine XS.aloadN X8.here hx rfl (hb hby d10_16) rfl rfl ?_
    refine XS.aloadN X8.here hx rfl (hb hby d10_17) rfl rfl ?_
    show SF p e below T8 (mkF m 18 #[rv u1, rv w3, rv u2, rv u3] [(.ref u2), (.ref u1)]) _
    refine st12 _ ?_
    show SF p e below T12 (mkF m 21 #[rv u1, rv w3, rv u2, rv u3] []) _
    refine XS.aloadN X12.here hx rfl (hb hby d10_21) rfl rfl ?_
    refine XS.aloadN X12.here hx rfl (hb hby d10_22) rfl rfl ?_
    show SF p e below T12 (mkF m 23 #[rv u1, rv w3, rv u2, rv u3] [(.ref u3), (.ref u1)]) _
    refine st16 _ ?_
    show SF p e below T16 (mkF m 26 #[rv u1, rv w3, rv u2, rv u3] []) _
    exact X16.returnOut hx Bd.returns (hb hby d10_26) hr
  · show Q10_16 Z u1 w3 u2 u3 h0 n0 _ T16.heap _
    rw [e16]
    exact ⟨rfl, N16, K16, F4_17, F4_18, F4_19, Fw16⟩
theorem pn_5 : plainName "com/example/clausewright/clausewright/DifferenceNumberPinLaw" = true := by first | (simp [plainName, overriddenIn]; done) | decide +kernel
theorem ef_9 (m : MethodId) (x0 : Int32) (x1 : Int32) (x2 : Int32) : entryFrame m #[(.int x0), (.int x1), (.int x2)] maxLocals = mkF m 0 #[.val (.int x0), .val (.int x1), .val (.int x2), .unset, .unset, .unset, .unset, .unset, .unset, .unset, .unset] [] := by first | (simp [entryFrame, mkF, argsToLocals, Value.category, maxLocals]; done) | rfl
set_option maxRecDepth 65536 in
set_option maxHeartbeats 400000000 in
theorem rm0 (l : Launch) (Z : State) (a0 : Array Value) (hw : HW Z a0) (ws : List Jvm.Cond) (p0s : Int32) (p1s : Int32) (p2s : Int32) (GC : Int32) (GF : Value) (w1 : Addr) (w2 : Addr) (w3 : Addr) (w4 : Addr) (w5 : Addr) (h0 : Heap) (n0 : Nat) (Z0 : n0 ≤ h0.size) (O0 : Old Z n0 h0) (Sg0 : Sta Z Z.heap "java/lang/String" "COMPACT_STRINGS" "Z" (.int GC)) (Sg1 : Sta Z Z.heap "jdk/internal/util/Preconditions" "SIOOBE_FORMATTER" "Ljava/util/function/BiFunction;" GF) (rGF : GF.isRef = true) (nzGC : ¬ (GC = (0 : Int32))) (Sg4 : Sta Z Z.heap "com/example/clausewright/clausewright/Division$Kind" "ARTICLE" "Lcom/example/clausewright/clausewright/Division$Kind;" (.ref w1)) (E_w1 : Exa Z Z.heap w1 "com/example/clausewright/clausewright/Division$Kind") (Sg6 : Sta Z Z.heap "com/example/clausewright/clausewright/Division$Kind" "SECTION" "Lcom/example/clausewright/clausewright/Division$Kind;" (.ref w2)) (E_w2 : Exa Z Z.heap w2 "com/example/clausewright/clausewright/Division$Kind") (Sg8 : Sta Z Z.heap "com/example/clausewright/clausewright/Difference$Kind" "HEADING_DIFFERS" "Lcom/example/clausewright/clausewright/Difference$Kind;" (.ref w3)) (E_w3 : Exa Z Z.heap w3 "com/example/clausewright/clausewright/Difference$Kind") (Sg10 : Sta Z Z.heap "com/example/clausewright/clausewright/Difference$Kind" "MISSING_FROM_TOC" "Lcom/example/clausewright/clausewright/Difference$Kind;" (.ref w4)) (E_w4 : Exa Z Z.heap w4 "com/example/clausewright/clausewright/Difference$Kind") (Sg12 : Sta Z Z.heap "com/example/clausewright/clausewright/Difference$Kind" "MISSING_FROM_BODY" "Lcom/example/clausewright/clausewright/Difference$Kind;" (.ref w5)) (E_w5 : Exa Z Z.heap w5 "com/example/clausewright/clausewright/Difference$Kind") :
    MFW l Z x (Jvm.Cond.code x code maxLocals ret) ws room_1 #[(.int p0s), (.int p1s), (.int p2s)] h0 (fun v _ L => v = some (.int (1 : Int32)) ∧ Fr n0 L) := by
  refine MetFree.of_bodySF (plainFor_of_name pn_5) hisR ?_
  intro p e s m args below meth c s₁ Bd hml0 hP hK
  obtain ⟨rfl, hZ, hh⟩ := hP
  have hx := Bd.exec
  have hby := Bd.bytes
  have hml : c.maxLocals = 11 := hml0
  have hown : s.vm.findClass "com/example/clausewright/clausewright/DifferenceNumberPinLaw" = some m.cls := findClass_of_methodNamed Bd.named
  have hnm := (name_of_methodNamed Bd.named Bd.method).1
  have X0 : Stand p l e room_1 s m #[(.int p0s), (.int p1s), (.int p2s)] below meth c s₁ [] 0 0 := Stand.of_body Bd
  have e0 : s₁.heap = h0 := by rw [← hh, Bd.state]; rfl
  have N0 := Fr.nil n0
  have pre0 : ∀ t, SF p e below s₁ (mkF m 0 #[iv p0s, iv p1s, iv p2s, .unset, .unset, .unset, .unset, .unset, .unset, .unset, .unset] []) t → SF p e below s₁ (entryFrame m #[(.int p0s), (.int p1s), (.int p2s)] maxLocals) t := fun t k => castTop (ef_9 m p0s p1s p2s) k
  have hre := Bd.returns
  have hlk : meth.locks = false := by first | assumption | exact BodyLoose.notSynchronized Bd | exact Body.notSynchronized Bd
  show FineW p e below s n0 _
  obtain ⟨T1, h1, X1, e1, E1, A1, D1, -, st1⟩ := newO X0 hx hZ hown (tw hw 0 rfl) (tw hw 1 rfl) (tw hw 2 rfl) e0 (g := (mkF m 0 #[iv p0s, iv p1s, iv p2s, .unset, .unset, .unset, .unset, .unset, .unset, .unset, .unset] [])) rfl (hb hby at_0) (by decide) (by decide)
  obtain ⟨b1, g1⟩ : ∃ z, z = h0.size := ⟨_, rfl⟩
  rw [← g1] at A1 D1 st1
  have Fn2 : Fld Z h1 b1 "java/lang/String" "coder" "B" (.int 0) := D1 (Or.inr (tw hw 27 rfl)) (ty := .byte) (by decide)
  have Fn3 : Fld Z h1 b1 "java/lang/String" "value" "[B" .null := D1 (Or.inr (tw hw 29 rfl)) (ty := (.array .byte)) (by decide)
  obtain ⟨T4, h4, k2, X4, e4, E4, A4, st4⟩ := newP X1 hx hZ (tw hw 3 rfl) e1 (g := (mkF m 5 #[iv p0s, iv p1s, iv p2s, .unset, .unset, .unset, .unset, .unset, .unset, .unset, .unset] [(.int 2), (.ref b1), (.ref b1)])) rfl (hb hby at_5) rfl (by decide) (cap := 2) (by decide) (by decide) (by decide) (by decide)
  obtain ⟨b3, g4⟩ : ∃ z, z = h1.size := ⟨_, rfl⟩
  rw [← g4] at A4 st4
  have V4 : Arv Z h4 b3 k2 .char (2 : Int32) [(.int 0), (.int 0)] (.int (0 : Int32)) := (Arv.new A4 (by decide)).pad (pad_rep [] (.int (0 : Int32)) 2)
  obtain ⟨cl5, Ar5, q5, S5, N5z, H5, G5⟩ := id V4
  have hin5 : ¬ ((0 : Int32) < 0 ∨ cl5.slots.size ≤ ((0 : Int32)).toNatClampNeg) := inb_of S5 ⟨by decide, by decide⟩
  obtain ⟨T6, h6, X6, e6, W6, st6⟩ := stC X4 hx hZ e4 Ar5 (j := (0 : Int32)) hin5 (g := (mkF m 15 #[iv p0s, iv p1s, iv p2s, .unset, .unset, .unset, .unset, .unset, .unset, .unset, .unset] [(.int ((p0s &&& (255 : Int32)).toUInt32.toUInt16.toUInt32.toInt32)), (.int 0), (.ref b3), (.ref b3), (.ref b1), (.ref b1)])) rfl rfl (hb hby at_15)
  have Z1 : n0 ≤ h1.size := Nat.le_trans Z0 E1.1
  have g_b3 : n0 ≤ b3 := Nat.le_trans Z1 (Nat.le_of_eq g4.symm)
  have N6 := Fr.snoc X6 N0 g_b3
  have V6 : Arv Z h6 b3 k2 .char (2 : Int32) [(.int (nar .char ((p0s &&& (255 : Int32)).toUInt32.toUInt16.toUInt32.toInt32))), (.int 0)] (.int (0 : Int32)) := Arv.set Ar5 q5 S5 N5z H5 G5 (fits_nar_char _) W6 0 rfl (Nat.le_of_ble_eq_true rfl)
  obtain ⟨cl7, Ar7, q7, S7, N7z, H7, G7⟩ := id V6
  have hin7 : ¬ ((1 : Int32) < 0 ∨ cl7.slots.size ≤ ((1 : Int32)).toNatClampNeg) := inb_of S7 ⟨by decide, by decide⟩
  obtain ⟨T8, h8, X8, e8, W8, st8⟩ := stC X6 hx hZ e6 Ar7 (j := (1 : Int32)) hin7 (g := (mkF m 27 #[iv p0s, iv p1s, iv p2s, .unset, .unset, .unset, .unset, .unset, .unset, .unset, .unset] [(.int ((((p0s.toUInt32 >>> ((8 : Int32) &&& 31).toUInt32).toInt32) &&& (255 : Int32)).toUInt32.toUInt16.toUInt32.toInt32)), (.int 1), (.ref b3), (.ref b3), (.ref b1), (.ref b1)])) rfl rfl (hb hby at_27)
  have N8 := Fr.snoc X8 N6 g_b3
  have V8 : Arv Z h8 b3 k2 .char (2 : Int32) [(.int (nar .char ((p0s &&& (255 : Int32)).toUInt32.toUInt16.toUInt32.toInt32))), (.int (nar .char ((((p0s.toUInt32 >>> ((8 : Int32) &&& 31).toUInt32).toInt32) &&& (255 : Int32)).toUInt32.toUInt16.toUInt32.toInt32)))] (.int (0 : Int32)) := Arv.set Ar7 q7 S7 N7z H7 G7 (fits_nar_char _) W8 1 rfl (Nat.le_of_ble_eq_true rfl)
  have F2_9 : Exa Z h4 b1 "java/lang/String" := A1.ext E4
  have F3_10 : Exa Z h6 b1 "java/lang/String" := F2_9.wr W6
  have F4_11 : Exa Z h8 b1 "java/lang/String" := F3_10.wr W8
  have F2_12 : Fld Z h4 b1 "java/lang/String" "value" "[B" .null := Fn3.ext E4
  have F3_13 : Fld Z h6 b1 "java/lang/String" "value" "[B" .null := F2_12.other W6 (Or.inl (Nat.ne_of_lt (Nat.lt_of_lt_of_le A1.lt (Nat.le_of_eq g4.symm))))
  have F4_14 : Fld Z h8 b1 "java/lang/String" "value" "[B" .null := F3_13.other W8 (Or.inl (Nat.ne_of_lt (Nat.lt_of_lt_of_le A1.lt (Nat.le_of_eq g4.symm))))
  have F2_15 : Fld Z h4 b1 "java/lang/String" "coder" "B" (.int 0) := Fn2.ext E4
  have F3_16 : Fld Z h6 b1 "java/lang/String" "coder" "B" (.int 0) := F2_15.other W6 (Or.inl (Nat.ne_of_lt (Nat.lt_of_lt_of_le A1.lt (Nat.le_of_eq g4.symm))))
  have F4_17 : Fld Z h8 b1 "java/lang/String" "coder" "B" (.int 0) := F3_16.other W8 (Or.inl (Nat.ne_of_lt (Nat.lt_of_lt_of_le A1.lt (Nat.le_of_eq g4.symm))))
  have hwwords : ∀ d ∈ StrChars.Road.words, d.before a0 Z = true := fun d hd => hw d (own_words d hd)
  have hp18 : ∀ c ∈ ([(nar .char ((p0s &&& (255 : Int32)).toUInt32.toUInt16.toUInt32.toInt32)), (nar .char ((((p0s.toUInt32 >>> ((8 : Int32) &&& 31).toUInt32).toInt32) &&& (255 : Int32)).toUInt32.toUInt16.toUInt32.toInt32))] : List Int32), ¬ c < 0 ∧ ¬ (255 : Int32) < c := by
    intro c hc
    simp only [List.mem_cons, List.not_mem_nil, or_false] at hc
    rcases hc with rfl | rfl
    · exact own_chars p0s
    · exact own_chars ((p0s.toUInt32 >>> ((8 : Int32) &&& 31).toUInt32).toInt32)
  have O1 : Old Z n0 h1 := O0.ext E1
  have O4 : Old Z n0 h4 := O1.ext E4
  have O6 : Old Z n0 h6 := O4.wr W6 g_b3
  have O8 : Old Z n0 h8 := O6.wr W8 g_b3
  have g_b1 : n0 ≤ b1 := Nat.le_trans Z0 (Nat.le_of_eq g1.symm)
  have Z4 : n0 ≤ h4.size := Nat.le_trans Z1 E4.1
  have Z6 : n0 ≤ h6.size := Nat.le_trans Z4 (Keep.of_wr W6).1
  have Z8 : n0 ≤ h8.size := Nat.le_trans Z6 (Keep.of_wr W8).1
  obtain ⟨_, _, ⟨T19, L19, k19x, n19⟩, -, X19, ⟨Lc19, hQ19, l19, y19, z19⟩, st19⟩ := X8.specialBack hx (y := (⟨"java/lang/String", "<init>", "([C)V"⟩ : MethodName)) rfl hown (mvT hZ (tw hw 4 rfl)) (mvT hZ (tw hw 5 rfl)) (mvT hZ (tw hw 6 rfl)) (by decide) (StrChars.Road.backV (W := 1) hZ hwwords (kI := 4) (tw hw 1 rfl) (cs := ([(nar .char ((p0s &&& (255 : Int32)).toUInt32.toUInt16.toUInt32.toInt32)), (nar .char ((((p0s.toUInt32 >>> ((8 : Int32) &&& 31).toUInt32).toInt32) &&& (255 : Int32)).toUInt32.toUInt16.toUInt32.toInt32))] : List Int32)) (bs := ((([(nar .char ((p0s &&& (255 : Int32)).toUInt32.toUInt16.toUInt32.toInt32)), (nar .char ((((p0s.toUInt32 >>> ((8 : Int32) &&& 31).toUInt32).toInt32) &&& (255 : Int32)).toUInt32.toUInt16.toUInt32.toInt32))] : List Int32)).map (fun c => c.toInt8.toInt32))) (n := 2) g_b1 Z8 F4_11 F4_14 F4_17 V8 (Sg0.ext O8.2) nzGC rfl rfl (by decide) (by decide) hp18 rfl (by decide) (by decide)) (g := (mkF m 28 #[iv p0s, iv p1s, iv p2s, .unset, .unset, .unset, .unset, .unset, .unset, .unset, .unset] [(.ref b3), (.ref b1), (.ref b1)])) rfl (by rw [hml]; rfl) (Steps.refl _) (a := b1) (argsL := [(.ref b3)]) (rest := [(.ref b1)]) (lenOf pd_0 rfl) rfl (by show 2 * 0 + _ ≤ _; exact Nat.le_of_eq rfl) (hb hby at_28) (fun _ _ => ⟨rfl, e8, (by decide : 2 + 1 ≤ _), (by decide : 6 + 2 ≤ _)⟩)
  dsimp only [Pt.U, Pt.locs, Pt.cells, Pt.slots] at X19 l19 y19 z19 st19 hQ19
  subst l19 y19 z19
  obtain ⟨rfl, N19q, K19c, Fx19, Fc19, b4, k5, gt19, bz_b4, ne19, Fv19, Va19⟩ := hQ19
  have N19 := Fr.app N8 N19q
  obtain ⟨T20, h20, X20, e20, E20, A20, D20, -, st20⟩ := newO X19 hx hZ hown (tw hw 0 rfl) (tw hw 1 rfl) (tw hw 2 rfl) rfl (g := (mkF m 32 #[iv p0s, iv p1s, iv p2s, rv b1, .unset, .unset, .unset, .unset, .unset, .unset, .unset] [])) rfl (hb hby at_32) (by decide) (by decide)
  obtain ⟨b6, g20⟩ : ∃ z, z = T19.heap.size := ⟨_, rfl⟩
  rw [← g20] at A20 D20 st20
  have Fn21 : Fld Z h20 b6 "java/lang/String" "coder" "B" (.int 0) := D20 (Or.inr (tw hw 27 rfl)) (ty := .byte) (by decide)
  have Fn22 : Fld Z h20 b6 "java/lang/String" "value" "[B" .null := D20 (Or.inr (tw hw 29 rfl)) (ty := (.array .byte)) (by decide)
  obtain ⟨T23, h23, k7, X23, e23, E23, A23, st23⟩ := newP X20 hx hZ (tw hw 3 rfl) e20 (g := (mkF m 37 #[iv p0s, iv p1s, iv p2s, rv b1, .unset, .unset, .unset, .unset, .unset, .unset, .unset] [(.int 2), (.ref b6), (.ref b6)])) rfl (hb hby at_37) rfl (by decide) (cap := 2) (by decide) (by decide) (by decide) (by decide)
  obtain ⟨b8, g23⟩ : ∃ z, z = h20.size := ⟨_, rfl⟩
  rw [← g23] at A23 st23
  have V23 : Arv Z h23 b8 k7 .char (2 : Int32) [(.int 0), (.int 0)] (.int (0 : Int32)) := (Arv.new A23 (by decide)).pad (pad_rep [] (.int (0 : Int32)) 2)
  obtain ⟨cl24, Ar24, q24, S24, N24z, H24, G24⟩ := id V23
  have hin24 : ¬ ((0 : Int32) < 0 ∨ cl24.slots.size ≤ ((0 : Int32)).toNatClampNeg) := inb_of S24 ⟨by decide, by decide⟩
  obtain ⟨T25, h25, X25, e25, W25, st25⟩ := stC X23 hx hZ e23 Ar24 (j := (0 : Int32)) hin24 (g := (mkF m 47 #[iv p0s, iv p1s, iv p2s, rv b1, .unset, .unset, .unset, .unset, .unset, .unset, .unset] [(.int ((p1s &&& (255 : Int32)).toUInt32.toUInt16.toUInt32.toInt32)), (.int 0), (.ref b8), (.ref b8), (.ref b6), (.ref b6)])) rfl rfl (hb hby at_47)
  have Z19 : n0 ≤ T19.heap.size := Nat.le_trans Z8 K19c.1
  have Z20 : n0 ≤ h20.size := Nat.le_trans Z19 E20.1
  have g_b8 : n0 ≤ b8 := Nat.le_trans Z20 (Nat.le_of_eq g23.symm)
  have N25 := Fr.snoc X25 N19 g_b8
  have V25 : Arv Z h25 b8 k7 .char (2 : Int32) [(.int (nar .char ((p1s &&& (255 : Int32)).toUInt32.toUInt16.toUInt32.toInt32))), (.int 0)] (.int (0 : Int32)) := Arv.set Ar24 q24 S24 N24z H24 G24 (fits_nar_char _) W25 0 rfl (Nat.le_of_ble_eq_true rfl)
  obtain ⟨cl26, Ar26, q26, S26, N26z, H26, G26⟩ := id V25
  have hin26 : ¬ ((1 : Int32) < 0 ∨ cl26.slots.size ≤ ((1 : Int32)).toNatClampNeg) := inb_of S26 ⟨by decide, by decide⟩
  obtain ⟨T27, h27, X27, e27, W27, st27⟩ := stC X25 hx hZ e25 Ar26 (j := (1 : Int32)) hin26 (g := (mkF m 59 #[iv p0s, iv p1s, iv p2s, rv b1, .unset, .unset, .unset, .unset, .unset, .unset, .unset] [(.int ((((p1s.toUInt32 >>> ((8 : Int32) &&& 31).toUInt32).toInt32) &&& (255 : Int32)).toUInt32.toUInt16.toUInt32.toInt32)), (.int 1), (.ref b8), (.ref b8), (.ref b6), (.ref b6)])) rfl rfl (hb hby at_59)
  have N27 := Fr.snoc X27 N25 g_b8
  have V27 : Arv Z h27 b8 k7 .char (2 : Int32) [(.int (nar .char ((p1s &&& (255 : Int32)).toUInt32.toUInt16.toUInt32.toInt32))), (.int (nar .char ((((p1s.toUInt32 >>> ((8 : Int32) &&& 31).toUInt32).toInt32) &&& (255 : Int32)).toUInt32.toUInt16.toUInt32.toInt32)))] (.int (0 : Int32)) := Arv.set Ar26 q26 S26 N26z H26 G26 (fits_nar_char _) W27 1 rfl (Nat.le_of_ble_eq_true rfl)
  have F7_28 : Exa Z h23 b6 "java/lang/String" := A20.ext E23
  have F8_29 : Exa Z h25 b6 "java/lang/String" := F7_28.wr W25
  have F9_30 : Exa Z h27 b6 "java/lang/String" := F8_29.wr W27
  have F7_31 : Fld Z h23 b6 "java/lang/String" "value" "[B" .null := Fn22.ext E23
  have F8_32 : Fld Z h25 b6 "java/lang/String" "value" "[B" .null := F7_31.other W25 (Or.inl (Nat.ne_of_lt (Nat.lt_of_lt_of_le A20.lt (Nat.le_of_eq g23.symm))))
  have F9_33 : Fld Z h27 b6 "java/lang/String" "value" "[B" .null := F8_32.other W27 (Or.inl (Nat.ne_of_lt (Nat.lt_of_lt_of_le A20.lt (Nat.le_of_eq g23.symm))))
  have F7_34 : Fld Z h23 b6 "java/lang/String" "coder" "B" (.int 0) := Fn21.ext E23
  have F8_35 : Fld Z h25 b6 "java/lang/String" "coder" "B" (.int 0) := F7_34.other W25 (Or.inl (Nat.ne_of_lt (Nat.lt_of_lt_of_le A20.lt (Nat.le_of_eq g23.symm))))
  have F9_36 : Fld Z h27 b6 "java/lang/String" "coder" "B" (.int 0) := F8_35.other W27 (Or.inl (Nat.ne_of_lt (Nat.lt_of_lt_of_le A20.lt (Nat.le_of_eq g23.symm))))
  have hp37 : ∀ c ∈ ([(nar .char ((p1s &&& (255 : Int32)).toUInt32.toUInt16.toUInt32.toInt32)), (nar .char ((((p1s.toUInt32 >>> ((8 : Int32) &&& 31).toUInt32).toInt32) &&& (255 : Int32)).toUInt32.toUInt16.toUInt32.toInt32))] : List Int32), ¬ c < 0 ∧ ¬ (255 : Int32) < c := by
    intro c hc
    simp only [List.mem_cons, List.not_mem_nil, or_false] at hc
    rcases hc with rfl | rfl
    · exact own_chars p1s
    · exact own_chars ((p1s.toUInt32 >>> ((8 : Int32) &&& 31).toUInt32).toInt32)
  have O19 : Old Z n0 T19.heap := O8.keep K19c (allS g_b1 all0)
  have O20 : Old Z n0 h20 := O19.ext E20
  have O23 : Old Z n0 h23 := O20.ext E23
  have O25 : Old Z n0 h25 := O23.wr W25 g_b8
  have O27 : Old Z n0 h27 := O25.wr W27 g_b8
  have g_b6 : n0 ≤ b6 := Nat.le_trans Z19 (Nat.le_of_eq g20.symm)
  have Z23 : n0 ≤ h23.size := Nat.le_trans Z20 E23.1
  have Z25 : n0 ≤ h25.size := Nat.le_trans Z23 (Keep.of_wr W25).1
  have Z27 : n0 ≤ h27.size := Nat.le_trans Z25 (Keep.of_wr W27).1
  obtain ⟨_, _, ⟨T38, L38, k38x, n38⟩, -, X38, ⟨Lc38, hQ38, l38, y38, z38⟩, st38⟩ := X27.specialBack hx (y := (⟨"java/lang/String", "<init>", "([C)V"⟩ : MethodName)) rfl hown (mvT hZ (tw hw 4 rfl)) (mvT hZ (tw hw 5 rfl)) (mvT hZ (tw hw 6 rfl)) (by decide) (StrChars.Road.backV (W := 1) hZ hwwords (kI := 4) (tw hw 1 rfl) (cs := ([(nar .char ((p1s &&& (255 : Int32)).toUInt32.toUInt16.toUInt32.toInt32)), (nar .char ((((p1s.toUInt32 >>> ((8 : Int32) &&& 31).toUInt32).toInt32) &&& (255 : Int32)).toUInt32.toUInt16.toUInt32.toInt32))] : List Int32)) (bs := ((([(nar .char ((p1s &&& (255 : Int32)).toUInt32.toUInt16.toUInt32.toInt32)), (nar .char ((((p1s.toUInt32 >>> ((8 : Int32) &&& 31).toUInt32).toInt32) &&& (255 : Int32)).toUInt32.toUInt16.toUInt32.toInt32))] : List Int32)).map (fun c => c.toInt8.toInt32))) (n := 2) g_b6 Z27 F9_30 F9_33 F9_36 V27 (Sg0.ext O27.2) nzGC rfl rfl (by decide) (by decide) hp37 rfl (by decide) (by decide)) (g := (mkF m 60 #[iv p0s, iv p1s, iv p2s, rv b1, .unset, .unset, .unset, .unset, .unset, .unset, .unset] [(.ref b8), (.ref b6), (.ref b6)])) rfl (by rw [hml]; rfl) (Steps.refl _) (a := b6) (argsL := [(.ref b8)]) (rest := [(.ref b6)]) (lenOf pd_0 rfl) rfl (by show 2 * 0 + _ ≤ _; exact Nat.le_of_eq rfl) (hb hby at_60) (fun _ _ => ⟨rfl, e27, (by decide : 5 + 1 ≤ _), (by decide : 14 + 2 ≤ _)⟩)
  dsimp only [Pt.U, Pt.locs, Pt.cells, Pt.slots] at X38 l38 y38 z38 st38 hQ38
  subst l38 y38 z38
  obtain ⟨rfl, N38q, K38c, Fx38, Fc38, b9, k10, gt38, bz_b9, ne38, Fv38, Va38⟩ := hQ38
  have N38 := Fr.app N27 N38q
  have pre1 : ∀ t, SF p e below T38 (mkF m 71 #[iv p0s, iv p1s, iv p2s, rv b1, rv b6, .unset, .unset, .unset, .unset, .unset, .unset] [(.int ((p2s &&& (2147483647 : Int32)) % (3 : Int32)))]) t → SF p e below s₁ (mkF m 0 #[iv p0s, iv p1s, iv p2s, .unset, .unset, .unset, .unset, .unset, .unset, .unset, .unset] []) t := fun t k => by
    show SF p e below s₁ (mkF m 0 #[iv p0s, iv p1s, iv p2s, .unset, .unset, .unset, .unset, .unset, .unset, .unset, .unset] []) _
    refine st1 _ ?_
    show SF p e below T1 (mkF m 3 #[iv p0s, iv p1s, iv p2s, .unset, .unset, .unset, .unset, .unset, .unset, .unset, .unset] [(.ref b1)]) _
    refine XS.dup X1.here hx rfl (hb hby at_3) rfl rfl ?_
    refine XS.iconst X1.here hx rfl (hb hby at_4) ?_
    show SF p e below T1 (mkF m 5 #[iv p0s, iv p1s, iv p2s, .unset, .unset, .unset, .unset, .unset, .unset, .unset, .unset] [(.int 2), (.ref b1), (.ref b1)]) _
    refine st4 _ ?_
    show SF p e below T4 (mkF m 7 #[iv p0s, iv p1s, iv p2s, .unset, .unset, .unset, .unset, .unset, .unset, .unset, .unset] [(.ref b3), (.ref b1), (.ref b1)]) _
    refine XS.dup X4.here hx rfl (hb hby at_7) rfl rfl ?_
    refine XS.iconst X4.here hx rfl (hb hby at_8) ?_
    show SF p e below T4 (mkF m 9 #[iv p0s, iv p1s, iv p2s, .unset, .unset, .unset, .unset, .unset, .unset, .unset, .unset] [(.int 0), (.ref b3), (.ref b3), (.ref b1), (.ref b1)]) _
    refine XS.iloadN X4.here hx rfl (hb hby at_9) rfl ?_
    refine XS.sipush X4.here hx rfl (hb hby at_10) ?_
    show SF p e below T4 (mkF m 13 #[iv p0s, iv p1s, iv p2s, .unset, .unset, .unset, .unset, .unset, .unset, .unset, .unset] [(.int 255), (.int p0s), (.int 0), (.ref b3), (.ref b3), (.ref b1), (.ref b1)]) _
    refine XS.iand X4.here hx rfl (hb hby at_13) rfl ?_
    show SF p e below T4 (mkF m 14 #[iv p0s, iv p1s, iv p2s, .unset, .unset, .unset, .unset, .unset, .unset, .unset, .unset] [(.int (p0s &&& (255 : Int32))), (.int 0), (.ref b3), (.ref b3), (.ref b1), (.ref b1)]) _
    refine XS.i2c X4.here hx rfl (hb hby at_14) rfl ?_
    show SF p e below T4 (mkF m 15 #[iv p0s, iv p1s, iv p2s, .unset, .unset, .unset, .unset, .unset, .unset, .unset, .unset] [(.int ((p0s &&& (255 : Int32)).toUInt32.toUInt16.toUInt32.toInt32)), (.int 0), (.ref b3), (.ref b3), (.ref b1), (.ref b1)]) _
    refine st6 _ ?_
    show SF p e below T6 (mkF m 16 #[iv p0s, iv p1s, iv p2s, .unset, .unset, .unset, .unset, .unset, .unset, .unset, .unset] [(.ref b3), (.ref b1), (.ref b1)]) _
    refine XS.dup X6.here hx rfl (hb hby at_16) rfl rfl ?_
    refine XS.iconst X6.here hx rfl (hb hby at_17) ?_
    show SF p e below T6 (mkF m 18 #[iv p0s, iv p1s, iv p2s, .unset, .unset, .unset, .unset, .unset, .unset, .unset, .unset] [(.int 1), (.ref b3), (.ref b3), (.ref b1), (.ref b1)]) _
    refine XS.iloadN X6.here hx rfl (hb hby at_18) rfl ?_
    refine XS.bipush X6.here hx rfl (hb hby at_19) ?_
    show SF p e below T6 (mkF m 21 #[iv p0s, iv p1s, iv p2s, .unset, .unset, .unset, .unset, .unset, .unset, .unset, .unset] [(.int 8), (.int p0s), (.int 1), (.ref b3), (.ref b3), (.ref b1), (.ref b1)]) _
    refine XS.iushr X6.here hx rfl (hb hby at_21) rfl ?_
    show SF p e below T6 (mkF m 22 #[iv p0s, iv p1s, iv p2s, .unset, .unset, .unset, .unset, .unset, .unset, .unset, .unset] [(.int ((p0s.toUInt32 >>> ((8 : Int32) &&& 31).toUInt32).toInt32)), (.int 1), (.ref b3), (.ref b3), (.ref b1), (.ref b1)]) _
    refine XS.sipush X6.here hx rfl (hb hby at_22) ?_
    show SF p e below T6 (mkF m 25 #[iv p0s, iv p1s, iv p2s, .unset, .unset, .unset, .unset, .unset, .unset, .unset, .unset] [(.int 255), (.int ((p0s.toUInt32 >>> ((8 : Int32) &&& 31).toUInt32).toInt32)), (.int 1), (.ref b3), (.ref b3), (.ref b1), (.ref b1)]) _
    refine XS.iand X6.here hx rfl (hb hby at_25) rfl ?_
    show SF p e below T6 (mkF m 26 #[iv p0s, iv p1s, iv p2s, .unset, .unset, .unset, .unset, .unset, .unset, .unset, .unset] [(.int (((p0s.toUInt32 >>> ((8 : Int32) &&& 31).toUInt32).toInt32) &&& (255 : Int32))), (.int 1), (.ref b3), (.ref b3), (.ref b1), (.ref b1)]) _
    refine XS.i2c X6.here hx rfl (hb hby at_26) rfl ?_
    show SF p e below T6 (mkF m 27 #[iv p0s, iv p1s, iv p2s, .unset, .unset, .unset, .unset, .unset, .unset, .unset, .unset] [(.int ((((p0s.toUInt32 >>> ((8 : Int32) &&& 31).toUInt32).toInt32) &&& (255 : Int32)).toUInt32.toUInt16.toUInt32.toInt32)), (.int 1), (.ref b3), (.ref b3), (.ref b1), (.ref b1)]) _
    refine st8 _ ?_
    show SF p e below T8 (mkF m 28 #[iv p0s, iv p1s, iv p2s, .unset, .unset, .unset, .unset, .unset, .unset, .unset, .unset] [(.ref b3), (.ref b1), (.ref b1)]) _
    refine st19.trans ?_
    show SF p e below T19 (mkF m 31 #[iv p0s, iv p1s, iv p2s, .unset, .unset, .unset, .unset, .unset, .unset, .unset, .unset] [(.ref b1)]) _
    refine XS.astoreN X19.here hx rfl (hb hby at_31) rfl rfl (l' := #[iv p0s, iv p1s, iv p2s, rv b1, .unset, .unset, .unset, .unset, .unset, .unset, .unset]) rfl ?_
    show SF p e below T19 (mkF m 32 #[iv p0s, iv p1s, iv p2s, rv b1, .unset, .unset, .unset, .unset, .unset, .unset, .unset] []) _
    refine st20 _ ?_
    show SF p e below T20 (mkF m 35 #[iv p0s, iv p1s, iv p2s, rv b1, .unset, .unset, .unset, .unset, .unset, .unset, .unset] [(.ref b6)]) _
    refine XS.dup X20.here hx rfl (hb hby at_35) rfl rfl ?_
    refine XS.iconst X20.here hx rfl (hb hby at_36) ?_
    show SF p e below T20 (mkF m 37 #[iv p0s, iv p1s, iv p2s, rv b1, .unset, .unset, .unset, .unset, .unset, .unset, .unset] [(.int 2), (.ref b6), (.ref b6)]) _
    refine st23 _ ?_
    show SF p e below T23 (mkF m 39 #[iv p0s, iv p1s, iv p2s, rv b1, .unset, .unset, .unset, .unset, .unset, .unset, .unset] [(.ref b8), (.ref b6), (.ref b6)]) _
    refine XS.dup X23.here hx rfl (hb hby at_39) rfl rfl ?_
    refine XS.iconst X23.here hx rfl (hb hby at_40) ?_
    show SF p e below T23 (mkF m 41 #[iv p0s, iv p1s, iv p2s, rv b1, .unset, .unset, .unset, .unset, .unset, .unset, .unset] [(.int 0), (.ref b8), (.ref b8), (.ref b6), (.ref b6)]) _
    refine XS.iloadN X23.here hx rfl (hb hby at_41) rfl ?_
    refine XS.sipush X23.here hx rfl (hb hby at_42) ?_
    show SF p e below T23 (mkF m 45 #[iv p0s, iv p1s, iv p2s, rv b1, .unset, .unset, .unset, .unset, .unset, .unset, .unset] [(.int 255), (.int p1s), (.int 0), (.ref b8), (.ref b8), (.ref b6), (.ref b6)]) _
    refine XS.iand X23.here hx rfl (hb hby at_45) rfl ?_
    show SF p e below T23 (mkF m 46 #[iv p0s, iv p1s, iv p2s, rv b1, .unset, .unset, .unset, .unset, .unset, .unset, .unset] [(.int (p1s &&& (255 : Int32))), (.int 0), (.ref b8), (.ref b8), (.ref b6), (.ref b6)]) _
    refine XS.i2c X23.here hx rfl (hb hby at_46) rfl ?_
    show SF p e below T23 (mkF m 47 #[iv p0s, iv p1s, iv p2s, rv b1, .unset, .unset, .unset, .unset, .unset, .unset, .unset] [(.int ((p1s &&& (255 : Int32)).toUInt32.toUInt16.toUInt32.toInt32)), (.int 0), (.ref b8), (.ref b8), (.ref b6), (.ref b6)]) _
    refine st25 _ ?_
    show SF p e below T25 (mkF m 48 #[iv p0s, iv p1s, iv p2s, rv b1, .unset, .unset, .unset, .unset, .unset, .unset, .unset] [(.ref b8), (.ref b6), (.ref b6)]) _
    refine XS.dup X25.here hx rfl (hb hby at_48) rfl rfl ?_
    refine XS.iconst X25.here hx rfl (hb hby at_49) ?_
    show SF p e below T25 (mkF m 50 #[iv p0s, iv p1s, iv p2s, rv b1, .unset, .unset, .unset, .unset, .unset, .unset, .unset] [(.int 1), (.ref b8), (.ref b8), (.ref b6), (.ref b6)]) _
    refine XS.iloadN X25.here hx rfl (hb hby at_50) rfl ?_
    refine XS.bipush X25.here hx rfl (hb hby at_51) ?_
    show SF p e below T25 (mkF m 53 #[iv p0s, iv p1s, iv p2s, rv b1, .unset, .unset, .unset, .unset, .unset, .unset, .unset] [(.int 8), (.int p1s), (.int 1), (.ref b8), (.ref b8), (.ref b6), (.ref b6)]) _
    refine XS.iushr X25.here hx rfl (hb hby at_53) rfl ?_
    show SF p e below T25 (mkF m 54 #[iv p0s, iv p1s, iv p2s, rv b1, .unset, .unset, .unset, .unset, .unset, .unset, .unset] [(.int ((p1s.toUInt32 >>> ((8 : Int32) &&& 31).toUInt32).toInt32)), (.int 1), (.ref b8), (.ref b8), (.ref b6), (.ref b6)]) _
    refine XS.sipush X25.here hx rfl (hb hby at_54) ?_
    show SF p e below T25 (mkF m 57 #[iv p0s, iv p1s, iv p2s, rv b1, .unset, .unset, .unset, .unset, .unset, .unset, .unset] [(.int 255), (.int ((p1s.toUInt32 >>> ((8 : Int32) &&& 31).toUInt32).toInt32)), (.int 1), (.ref b8), (.ref b8), (.ref b6), (.ref b6)]) _
    refine XS.iand X25.here hx rfl (hb hby at_57) rfl ?_
    show SF p e below T25 (mkF m 58 #[iv p0s, iv p1s, iv p2s, rv b1, .unset, .unset, .unset, .unset, .unset, .unset, .unset] [(.int (((p1s.toUInt32 >>> ((8 : Int32) &&& 31).toUInt32).toInt32) &&& (255 : Int32))), (.int 1), (.ref b8), (.ref b8), (.ref b6), (.ref b6)]) _
    refine XS.i2c X25.here hx rfl (hb hby at_58) rfl ?_
    show SF p e below T25 (mkF m 59 #[iv p0s, iv p1s, iv p2s, rv b1, .unset, .unset, .unset, .unset, .unset, .unset, .unset] [(.int ((((p1s.toUInt32 >>> ((8 : Int32) &&& 31).toUInt32).toInt32) &&& (255 : Int32)).toUInt32.toUInt16.toUInt32.toInt32)), (.int 1), (.ref b8), (.ref b8), (.ref b6), (.ref b6)]) _
    refine st27 _ ?_
    show SF p e below T27 (mkF m 60 #[iv p0s, iv p1s, iv p2s, rv b1, .unset, .unset, .unset, .unset, .unset, .unset, .unset] [(.ref b8), (.ref b6), (.ref b6)]) _
    refine st38.trans ?_
    show SF p e below T38 (mkF m 63 #[iv p0s, iv p1s, iv p2s, rv b1, .unset, .unset, .unset, .unset, .unset, .unset, .unset] [(.ref b6)]) _
    refine XS.astore X38.here hx rfl (hb hby at_63) rfl rfl (l' := #[iv p0s, iv p1s, iv p2s, rv b1, rv b6, .unset, .unset, .unset, .unset, .unset, .unset]) rfl ?_
    refine XS.iloadN X38.here hx rfl (hb hby at_65) rfl ?_
    show SF p e below T38 (mkF m 66 #[iv p0s, iv p1s, iv p2s, rv b1, rv b6, .unset, .unset, .unset, .unset, .unset, .unset] [(.int p2s)]) _
    refine X38.ldcInt hx hown (mvT hZ (tw hw 30 rfl)) (g := (mkF m 66 #[iv p0s, iv p1s, iv p2s, rv b1, rv b6, .unset, .unset, .unset, .unset, .unset, .unset] [(.int p2s)])) rfl (hb hby at_66) _ ?_
    show SF p e below T38 (mkF m 68 #[iv p0s, iv p1s, iv p2s, rv b1, rv b6, .unset, .unset, .unset, .unset, .unset, .unset] [(.int 2147483647), (.int p2s)]) _
    refine XS.iand X38.here hx rfl (hb hby at_68) rfl ?_
    show SF p e below T38 (mkF m 69 #[iv p0s, iv p1s, iv p2s, rv b1, rv b6, .unset, .unset, .unset, .unset, .unset, .unset] [(.int (p2s &&& (2147483647 : Int32)))]) _
    refine XS.iconst X38.here hx rfl (hb hby at_69) ?_
    show SF p e below T38 (mkF m 70 #[iv p0s, iv p1s, iv p2s, rv b1, rv b6, .unset, .unset, .unset, .unset, .unset, .unset] [(.int 3), (.int (p2s &&& (2147483647 : Int32)))]) _
    refine iremM X38 hx rfl (hb hby at_70) rfl (by decide) ?_
    exact k
  rcases own_mod3 p2s with hc1 | hc1 | hc1
  · obtain ⟨T39, h39, X39, e39, E39, A39, D39, -, st39⟩ := newO X38 hx hZ hown (tw hw 31 rfl) (tw hw 32 rfl) (tw hw 33 rfl) rfl (g := (mkF m 73 #[iv p0s, iv p1s, iv p2s, rv b1, rv b6, iv 0, .unset, .unset, .unset, .unset, .unset] [])) rfl (hb hby at_73) (by decide) (by decide)
    obtain ⟨b11, g39⟩ : ∃ z, z = T38.heap.size := ⟨_, rfl⟩
    rw [← g39] at A39 D39 st39
    have Fn40 : Fld Z h39 b11 "com/example/clausewright/clausewright/Division" "kind" "Lcom/example/clausewright/clausewright/Division$Kind;" .null := D39 (Or.inr (tw hw 57 rfl)) (ty := (.object "com/example/clausewright/clausewright/Division$Kind")) (by decide)
    have Fn41 : Fld Z h39 b11 "com/example/clausewright/clausewright/Division" "number" "Ljava/lang/String;" .null := D39 (Or.inr (tw hw 59 rfl)) (ty := (.object "java/lang/String")) (by decide)
    have Fn42 : Fld Z h39 b11 "com/example/clausewright/clausewright/Division" "heading" "Ljava/lang/String;" .null := D39 (Or.inr (tw hw 61 rfl)) (ty := (.object "java/lang/String")) (by decide)
    have Fn43 : Fld Z h39 b11 "com/example/clausewright/clausewright/Division" "line" "I" (.int 0) := D39 (Or.inr (tw hw 63 rfl)) (ty := .int) (by decide)
    have O38 : Old Z n0 T38.heap := O27.keep K38c (allS g_b6 all0)
    have O39 : Old Z n0 h39 := O38.ext E39
    obtain ⟨T44, X44, e44, st44⟩ := getS2 X39 hx hZ hown (host := "") (Or.inl (tw hw 34 rfl)) Via.refl e39 (Sg4.ext O39.2) (g := (mkF m 77 #[iv p0s, iv p1s, iv p2s, rv b1, rv b6, iv 0, .unset, .unset, .unset, .unset, .unset] [(.ref b11), (.ref b11)])) rfl (hb hby at_77)
    have hwSA : ∀ d ∈ Bundle.stringAtoms, d.before a0 Z = true := fun d hd => hw d (own_strA d hd)
    have hS0 : s.Since s.vm h39.size := State.WarmedH.since (State.WarmedH.refl s) _
    have hk0 : h39.size ≤ h39.size := Nat.le_refl _
    obtain ⟨b12, T45, h45, kq45, X45, e45, E45, hS45, hk45, hZ45, hown45, st45⟩ := ldcS (s := s) (vm0 := s.vm) X44 hx hZ hown (tw hw 37 rfl) hwSA e44 hS0 hk0 (g := (mkF m 81 #[iv p0s, iv p1s, iv p2s, rv b1, rv b6, iv 0, .unset, .unset, .unset, .unset, .unset] [(.ref b1), (.ref w1), (.ref b11), (.ref b11)])) rfl (hb hby at_81) (n := 0) (by decide) (by decide) (by decide) (by decide)
    have F12_47 : Exa Z h45 b11 "com/example/clausewright/clausewright/Division" := A39.ext E45
    have F12_48 : Fld Z h45 b11 "com/example/clausewright/clausewright/Division" "kind" "Lcom/example/clausewright/clausewright/Division$Kind;" .null := Fn40.ext E45
    have F12_49 : Fld Z h45 b11 "com/example/clausewright/clausewright/Division" "number" "Ljava/lang/String;" .null := Fn41.ext E45
    have F12_50 : Fld Z h45 b11 "com/example/clausewright/clausewright/Division" "heading" "Ljava/lang/String;" .null := Fn42.ext E45
    have F12_51 : Fld Z h45 b11 "com/example/clausewright/clausewright/Division" "line" "I" (.int 0) := Fn43.ext E45
    have Z38 : n0 ≤ T38.heap.size := Nat.le_trans Z27 K38c.1
    have g_b11 : n0 ≤ b11 := Nat.le_trans Z38 (Nat.le_of_eq g39.symm)
    have Z39 : n0 ≤ h39.size := Nat.le_trans Z38 E39.1
    have Z45 : n0 ≤ h45.size := Nat.le_trans Z39 E45.1
    obtain ⟨_, _, ⟨T46, L46, k46x, n46⟩, -, X46, hS46, hgr46, ⟨Lc46, hQ46, l46, y46, z46⟩, st46⟩ := X45.specialBackS hx (y := (⟨"com/example/clausewright/clausewright/Division", "<init>", "(Lcom/example/clausewright/clausewright/Division$Kind;Ljava/lang/String;Ljava/lang/String;I)V"⟩ : MethodName)) rfl hown45 (mvT hZ45 (tw hw 40 rfl)) (mvT hZ45 (tw hw 41 rfl)) (mvT hZ45 (tw hw 42 rfl)) (by decide) (backOfS (W := 1) (rm7_4 l Z a0 hw [] b11 w1 b1 b12 p0s h45 n0 Z45 F12_47 F12_48 F12_49 F12_50 F12_51 g_b11) hZ45 (tw hw 42 rfl) (tw hw 33 rfl) (by decide) (by decide)) (g := (mkF m 84 #[iv p0s, iv p1s, iv p2s, rv b1, rv b6, iv 0, .unset, .unset, .unset, .unset, .unset] [(.int p0s), (.ref b12), (.ref b1), (.ref w1), (.ref b11), (.ref b11)])) rfl (by rw [hml]; rfl) (Steps.refl _) (a := b11) (argsL := [(.ref w1), (.ref b1), (.ref b12), (.int p0s)]) (rest := [(.ref b11)]) (lenOf pd_3 rfl) rfl (by show 2 * 0 + _ ≤ _; exact Nat.le_of_eq rfl) (hb hby at_84) (fun _ _ => ⟨rfl, e45, (by decide : 9 + 6 ≤ _), (by decide : 24 + 80 ≤ _)⟩)
    dsimp only [Pt.U, Pt.locs, Pt.cells, Pt.slots] at X46 l46 y46 z46 st46 hQ46 hS46 hgr46
    subst l46 y46 z46
    obtain ⟨Xw46, hSw46, hZ46, hown46⟩ := rebS hS45 (n1 := T45.heap.size) (by rw [e45]; exact hk45) X46 hS46 hgr46 hZ45 hown45
    obtain ⟨rfl, N46q, K46c, Fq46_0, Fq46_1, Fq46_2, Fq46_3, Fq46_4⟩ := hQ46
    have N46 := Fr.app N38 N46q
    have hk46 : T46.heap.size ≤ T46.heap.size := Nat.le_refl _
    obtain ⟨T52, h52, X52, e52, E52, A52, D52, -, st52⟩ := newO Xw46 hx hZ46 hown46 (tw hw 31 rfl) (tw hw 32 rfl) (tw hw 33 rfl) rfl (g := (mkF m 89 #[iv p0s, iv p1s, iv p2s, rv b1, rv b6, iv 0, rv b11, .unset, .unset, .unset, .unset] [])) rfl (hb hby at_89) (by decide) (by decide)
    obtain ⟨b16, g52⟩ : ∃ z, z = T46.heap.size := ⟨_, rfl⟩
    rw [← g52] at A52 D52 st52
    have Fn53 : Fld Z h52 b16 "com/example/clausewright/clausewright/Division" "kind" "Lcom/example/clausewright/clausewright/Division$Kind;" .null := D52 (Or.inr (tw hw 57 rfl)) (ty := (.object "com/example/clausewright/clausewright/Division$Kind")) (by decide)
    have Fn54 : Fld Z h52 b16 "com/example/clausewright/clausewright/Division" "number" "Ljava/lang/String;" .null := D52 (Or.inr (tw hw 59 rfl)) (ty := (.object "java/lang/String")) (by decide)
    have Fn55 : Fld Z h52 b16 "com/example/clausewright/clausewright/Division" "heading" "Ljava/lang/String;" .null := D52 (Or.inr (tw hw 61 rfl)) (ty := (.object "java/lang/String")) (by decide)
    have Fn56 : Fld Z h52 b16 "com/example/clausewright/clausewright/Division" "line" "I" (.int 0) := D52 (Or.inr (tw hw 63 rfl)) (ty := .int) (by decide)
    have O45 : Old Z n0 h45 := O39.ext E45
    have O46 : Old Z n0 T46.heap := O45.keep K46c (allS g_b11 all0)
    have O52 : Old Z n0 h52 := O46.ext E52
    obtain ⟨T57, X57, e57, st57⟩ := getS2 X52 hx hZ46 hown46 (host := "") (Or.inl (tw hw 64 rfl)) Via.refl e52 (Sg6.ext O52.2) (g := (mkF m 93 #[iv p0s, iv p1s, iv p2s, rv b1, rv b6, iv 0, rv b11, .unset, .unset, .unset, .unset] [(.ref b16), (.ref b16)])) rfl (hb hby at_93)
    have hkk52_14 : T46.heap.size ≤ h52.size := Nat.le_trans hk46 E52.1
    obtain ⟨b17, T58, h58, kq58, X58, e58, E58, hS58, hk58, hZ58, hown58, st58⟩ := ldcS (s := s) (vm0 := T46.vm) X57 hx hZ46 hown46 (tw hw 37 rfl) hwSA e57 hSw46 hkk52_14 (g := (mkF m 98 #[iv p0s, iv p1s, iv p2s, rv b1, rv b6, iv 0, rv b11, .unset, .unset, .unset, .unset] [(.ref b6), (.ref w2), (.ref b16), (.ref b16)])) rfl (hb hby at_98) (n := 0) (by decide) (by decide) (by decide) (by decide)
    have F15_60 : Exa Z h58 b16 "com/example/clausewright/clausewright/Division" := A52.ext E58
    have F15_61 : Fld Z h58 b16 "com/example/clausewright/clausewright/Division" "kind" "Lcom/example/clausewright/clausewright/Division$Kind;" .null := Fn53.ext E58
    have F15_62 : Fld Z h58 b16 "com/example/clausewright/clausewright/Division" "number" "Ljava/lang/String;" .null := Fn54.ext E58
    have F15_63 : Fld Z h58 b16 "com/example/clausewright/clausewright/Division" "heading" "Ljava/lang/String;" .null := Fn55.ext E58
    have F15_64 : Fld Z h58 b16 "com/example/clausewright/clausewright/Division" "line" "I" (.int 0) := Fn56.ext E58
    have Z46 : n0 ≤ T46.heap.size := Nat.le_trans Z45 K46c.1
    have g_b16 : n0 ≤ b16 := Nat.le_trans Z46 (Nat.le_of_eq g52.symm)
    have Z52 : n0 ≤ h52.size := Nat.le_trans Z46 E52.1
    have Z58 : n0 ≤ h58.size := Nat.le_trans Z52 E58.1
    obtain ⟨_, _, ⟨T59, L59, k59x, n59⟩, -, X59, hS59, hgr59, ⟨Lc59, hQ59, l59, y59, z59⟩, st59⟩ := X58.specialBackS hx (y := (⟨"com/example/clausewright/clausewright/Division", "<init>", "(Lcom/example/clausewright/clausewright/Division$Kind;Ljava/lang/String;Ljava/lang/String;I)V"⟩ : MethodName)) rfl hown58 (mvT hZ58 (tw hw 40 rfl)) (mvT hZ58 (tw hw 41 rfl)) (mvT hZ58 (tw hw 42 rfl)) (by decide) (backOfS (W := 1) (rm7_6 l Z a0 hw [] b16 w2 b6 b17 p1s h58 n0 Z58 F15_60 F15_61 F15_62 F15_63 F15_64 g_b16) hZ58 (tw hw 42 rfl) (tw hw 33 rfl) (by decide) (by decide)) (g := (mkF m 101 #[iv p0s, iv p1s, iv p2s, rv b1, rv b6, iv 0, rv b11, .unset, .unset, .unset, .unset] [(.int p1s), (.ref b17), (.ref b6), (.ref w2), (.ref b16), (.ref b16)])) rfl (by rw [hml]; rfl) (Steps.refl _) (a := b16) (argsL := [(.ref w2), (.ref b6), (.ref b17), (.int p1s)]) (rest := [(.ref b16)]) (lenOf pd_3 rfl) rfl (by show 2 * 0 + _ ≤ _; exact Nat.le_of_eq rfl) (hb hby at_101) (fun _ _ => ⟨rfl, e58, (by decide : 18 + 6 ≤ _), (by decide : 112 + 80 ≤ _)⟩)
    dsimp only [Pt.U, Pt.locs, Pt.cells, Pt.slots] at X59 l59 y59 z59 st59 hQ59 hS59 hgr59
    subst l59 y59 z59
    obtain ⟨Xw59, hSw59, hZ59, hown59⟩ := rebS hS58 (n1 := T58.heap.size) (by rw [e58]; exact hk58) X59 hS59 hgr59 hZ58 hown58
    obtain ⟨rfl, N59q, K59c, Fq59_0, Fq59_1, Fq59_2, Fq59_3, Fq59_4⟩ := hQ59
    have N59 := Fr.app N46 N59q
    have hk59 : T59.heap.size ≤ T59.heap.size := Nat.le_refl _
    obtain ⟨T65, h65, X65, e65, E65, A65, D65, -, st65⟩ := newO Xw59 hx hZ59 hown59 (tw hw 66 rfl) (tw hw 67 rfl) (tw hw 68 rfl) rfl (g := (mkF m 111 #[iv p0s, iv p1s, iv p2s, rv b1, rv b6, iv 0, rv b11, rv b16, .unset, .unset, .unset] [])) rfl (hb hby at_111) (by decide) (by decide)
    obtain ⟨b21, g65⟩ : ∃ z, z = T59.heap.size := ⟨_, rfl⟩
    rw [← g65] at A65 D65 st65
    have Fn66 : Fld Z h65 b21 "com/example/clausewright/clausewright/Difference" "kind" "Lcom/example/clausewright/clausewright/Difference$Kind;" .null := D65 (Or.inr (tw hw 79 rfl)) (ty := (.object "com/example/clausewright/clausewright/Difference$Kind")) (by decide)
    have Fn67 : Fld Z h65 b21 "com/example/clausewright/clausewright/Difference" "body" "Lcom/example/clausewright/clausewright/Division;" .null := D65 (Or.inr (tw hw 81 rfl)) (ty := (.object "com/example/clausewright/clausewright/Division")) (by decide)
    have Fn68 : Fld Z h65 b21 "com/example/clausewright/clausewright/Difference" "entry" "Lcom/example/clausewright/clausewright/Division;" .null := D65 (Or.inr (tw hw 83 rfl)) (ty := (.object "com/example/clausewright/clausewright/Division")) (by decide)
    have O58 : Old Z n0 h58 := O52.ext E58
    have O59 : Old Z n0 T59.heap := O58.keep K59c (allS g_b16 all0)
    have O65 : Old Z n0 h65 := O59.ext E65
    obtain ⟨T69, X69, e69, st69⟩ := getS2 X65 hx hZ59 hown59 (host := "") (Or.inl (tw hw 99 rfl)) Via.refl e65 (Sg10.ext O65.2) (g := (mkF m 115 #[iv p0s, iv p1s, iv p2s, rv b1, rv b6, iv 0, rv b11, rv b16, .unset, .unset, .unset] [(.ref b21), (.ref b21)])) rfl (hb hby at_115)
    have Z59 : n0 ≤ T59.heap.size := Nat.le_trans Z58 K59c.1
    have g_b21 : n0 ≤ b21 := Nat.le_trans Z59 (Nat.le_of_eq g65.symm)
    have Z65 : n0 ≤ h65.size := Nat.le_trans Z59 E65.1
    obtain ⟨_, _, ⟨T70, L70, k70x, n70⟩, -, X70, hS70, hgr70, ⟨Lc70, hQ70, l70, y70, z70⟩, st70⟩ := X69.specialBackS hx (y := (⟨"com/example/clausewright/clausewright/Difference", "<init>", "(Lcom/example/clausewright/clausewright/Difference$Kind;Lcom/example/clausewright/clausewright/Division;Lcom/example/clausewright/clausewright/Division;)V"⟩ : MethodName)) rfl hown59 (mvT hZ59 (tw hw 72 rfl)) (mvT hZ59 (tw hw 73 rfl)) (mvT hZ59 (tw hw 74 rfl)) (by decide) (backOfS (W := 1) (rm10_8 l Z a0 hw [] b21 w4 b11 h65 n0 Z65 A65 Fn66 Fn67 Fn68 g_b21) hZ59 (tw hw 74 rfl) (tw hw 68 rfl) (by decide) (by decide)) (g := (mkF m 121 #[iv p0s, iv p1s, iv p2s, rv b1, rv b6, iv 0, rv b11, rv b16, .unset, .unset, .unset] [.null, (.ref b11), (.ref w4), (.ref b21), (.ref b21)])) rfl (by rw [hml]; rfl) (Steps.refl _) (a := b21) (argsL := [(.ref w4), (.ref b11), .null]) (rest := [(.ref b21)]) (lenOf pd_4 rfl) rfl (by show 2 * 0 + _ ≤ _; exact Nat.le_of_eq rfl) (hb hby at_121) (fun _ _ => ⟨rfl, e69, (by decide : 25 + 2 ≤ _), (by decide : 195 + 20 ≤ _)⟩)
    dsimp only [Pt.U, Pt.locs, Pt.cells, Pt.slots] at X70 l70 y70 z70 st70 hQ70 hS70 hgr70
    subst l70 y70 z70
    have hkk65_17 : T59.heap.size ≤ h65.size := Nat.le_trans hk59 E65.1
    obtain ⟨Xw70, hSw70, hZ70, hown70⟩ := rebS hSw59 (n1 := T69.heap.size) (by rw [e69]; exact hkk65_17) X70 hS70 hgr70 hZ59 hown59
    obtain ⟨rfl, N70q, K70c, Fq70_0, Fq70_1, Fq70_2, Fq70_3⟩ := hQ70
    have N70 := Fr.app N59 N70q
    have hk70 : T70.heap.size ≤ T70.heap.size := Nat.le_refl _
    have F14_72 : Exa Z h52 b11 "com/example/clausewright/clausewright/Division" := Fq46_0.ext E52
    have F15_73 : Exa Z h58 b11 "com/example/clausewright/clausewright/Division" := F14_72.ext E58
    have F16_74 : Exa Z T59.heap b11 "com/example/clausewright/clausewright/Division" := F15_73.keep K59c
    have F17_75 : Exa Z h65 b11 "com/example/clausewright/clausewright/Division" := F16_74.ext E65
    have F18_76 : Exa Z T70.heap b11 "com/example/clausewright/clausewright/Division" := F17_75.keep K70c
    have F14_77 : Fld Z h52 b11 "com/example/clausewright/clausewright/Division" "number" "Ljava/lang/String;" (.ref b1) := Fq46_2.ext E52
    have F15_78 : Fld Z h58 b11 "com/example/clausewright/clausewright/Division" "number" "Ljava/lang/String;" (.ref b1) := F14_77.ext E58
    have lt_b11_12 : b11 < h45.size := Nat.lt_of_lt_of_le A39.lt E45.1
    have lt_b11_13 : b11 < T46.heap.size := Nat.lt_of_lt_of_le lt_b11_12 K46c.1
    have F16_79 : Fld Z T59.heap b11 "com/example/clausewright/clausewright/Division" "number" "Ljava/lang/String;" (.ref b1) := F15_78.keep K59c (ninS (Nat.ne_of_lt (Nat.lt_of_lt_of_le lt_b11_13 (Nat.le_of_eq g52.symm))) nin0)
    have F17_80 : Fld Z h65 b11 "com/example/clausewright/clausewright/Division" "number" "Ljava/lang/String;" (.ref b1) := F16_79.ext E65
    have lt_b11_14 : b11 < h52.size := Nat.lt_of_lt_of_le lt_b11_13 E52.1
    have lt_b11_15 : b11 < h58.size := Nat.lt_of_lt_of_le lt_b11_14 E58.1
    have lt_b11_16 : b11 < T59.heap.size := Nat.lt_of_lt_of_le lt_b11_15 K59c.1
    have F18_81 : Fld Z T70.heap b11 "com/example/clausewright/clausewright/Division" "number" "Ljava/lang/String;" (.ref b1) := F17_80.keep K70c (ninS (Nat.ne_of_lt (Nat.lt_of_lt_of_le lt_b11_16 (Nat.le_of_eq g65.symm))) nin0)
    have Z70 : n0 ≤ T70.heap.size := Nat.le_trans Z65 K70c.1
    obtain ⟨cq71, kq71, q71a, q71b, q71c⟩ := isOf hZ70 rfl Fq70_0
    obtain ⟨_, _, ⟨T71, L71, k71x, n71⟩, -, X71, ⟨Lc71, hQ71, l71, y71, z71⟩, st71⟩ := Xw70.virtualBack hx (y := (⟨"com/example/clausewright/clausewright/Difference", "number", "()Ljava/lang/String;"⟩ : MethodName)) (z := (⟨"com/example/clausewright/clausewright/Difference", "number", "()Ljava/lang/String;"⟩ : MethodName)) hown70 (mvT hZ70 (tw hw 84 rfl)) (mvT hZ70 (tw hw 85 rfl)) (notFace_of_selects (args := #[]) (mvT hZ70 (tw hw 87 rfl))) (mvT hZ70 (tw hw 87 rfl)) (mvT hZ70 (tw hw 86 rfl)) (by decide) (backOf (W := 0) (rm11_10 l Z a0 hw [] b21 b11 b1 T70.heap n0 Z70 Fq70_2 F18_76 F18_81) hZ70 (tw hw 88 rfl) (tw hw 68 rfl) (by decide) (by decide)) q71a q71c (g := (mkF m 181 #[iv p0s, iv p1s, iv p2s, rv b1, rv b6, iv 0, rv b11, rv b16, rv b21, rv b1, .unset] [(.ref b21)])) rfl (by rw [hml]; rfl) (Steps.refl _) (argsL := []) (rest := []) (lenOf pd_5 rfl) rfl (by show 2 * 0 + _ ≤ _; exact Nat.le_of_eq rfl) (hb hby at_181) (fun _ _ => ⟨rfl, rfl, (by decide : 27 + 0 ≤ _), (by decide : 215 + 0 ≤ _)⟩)
    dsimp only [Pt.U, Pt.locs, Pt.cells, Pt.slots] at X71 l71 y71 z71 st71 hQ71
    subst l71 y71 z71
    obtain ⟨rfl, N71q, e71⟩ := hQ71
    have N71 := Fr.app N70 N71q
    have F6_82 : Exa Z h20 b1 "java/lang/String" := Fx19.ext E20
    have F7_83 : Exa Z h23 b1 "java/lang/String" := F6_82.ext E23
    have F8_84 : Exa Z h25 b1 "java/lang/String" := F7_83.wr W25
    have F9_85 : Exa Z h27 b1 "java/lang/String" := F8_84.wr W27
    have F10_86 : Exa Z T38.heap b1 "java/lang/String" := F9_85.keep K38c
    have F11_87 : Exa Z h39 b1 "java/lang/String" := F10_86.ext E39
    have F12_88 : Exa Z h45 b1 "java/lang/String" := F11_87.ext E45
    have F13_89 : Exa Z T46.heap b1 "java/lang/String" := F12_88.keep K46c
    have F14_90 : Exa Z h52 b1 "java/lang/String" := F13_89.ext E52
    have F15_91 : Exa Z h58 b1 "java/lang/String" := F14_90.ext E58
    have F16_92 : Exa Z T59.heap b1 "java/lang/String" := F15_91.keep K59c
    have F17_93 : Exa Z h65 b1 "java/lang/String" := F16_92.ext E65
    have F18_94 : Exa Z T70.heap b1 "java/lang/String" := F17_93.keep K70c
    obtain ⟨cq95, kq95, q95a, q95b, q95c⟩ := isOf hZ70 e71 F18_94
    obtain ⟨_, _, ⟨T95, L95, k95x, n95⟩, -, X95, ⟨Lc95, hQ95, l95, y95, z95⟩, st95⟩ := X71.virtualBack hx (y := (⟨"java/lang/String", "equals", "(Ljava/lang/Object;)Z"⟩ : MethodName)) (z := (⟨"java/lang/String", "equals", "(Ljava/lang/Object;)Z"⟩ : MethodName)) hown70 (mvT hZ70 (tw hw 94 rfl)) (mvT hZ70 (tw hw 95 rfl)) (notFace_of_selects (args := #[]) (mvT hZ70 (tw hw 97 rfl))) (mvT hZ70 (tw hw 97 rfl)) (mvT hZ70 (tw hw 96 rfl)) (by decide) (backOf (W := 0) (rm13_11 l Z a0 hw [] b1 T70.heap n0 Z70 ) hZ70 (tw hw 98 rfl) (tw hw 2 rfl) (by decide) (by decide)) q95a q95c (g := (mkF m 195 #[iv p0s, iv p1s, iv p2s, rv b1, rv b6, iv 0, rv b11, rv b16, rv b21, rv b1, rv b1] [(.ref b1), (.ref b1)])) rfl (by rw [hml]; rfl) (Steps.refl _) (argsL := [(.ref b1)]) (rest := []) (lenOf pd_6 rfl) rfl (by show 2 * 0 + _ ≤ _; exact Nat.le_of_eq rfl) (hb hby at_195) (fun _ _ => ⟨rfl, e71, (by decide : 27 + 0 ≤ _), (by decide : 215 + 0 ≤ _)⟩)
    dsimp only [Pt.U, Pt.locs, Pt.cells, Pt.slots] at X95 l95 y95 z95 st95 hQ95
    subst l95 y95 z95
    obtain ⟨rfl, N95q, e95⟩ := hQ95
    have N95 := Fr.app N71 N95q
    obtain ⟨fs, hr, hrun, hended, hRW⟩ := X95.leaveW hSw70 (by rw [e95]; exact hk70) (v := some (.int (1 : Int32))) (fun h => by rw [hre] at h; cases h)
    refine ⟨_, _, pre0 _ (pre1 _ (?_)), hrun, hended, _, _, rfl, ?_, hRW.1, hRW.2.1, hRW.2.2.1, hRW.2.2.2.mono (by decide) (by decide)⟩
    · show SF p e below T38 (mkF m 71 #[iv p0s, iv p1s, iv p2s, rv b1, rv b6, .unset, .unset, .unset, .unset, .unset, .unset] [(.int ((p2s &&& (2147483647 : Int32)) % (3 : Int32)))]) _
      rw [hc1]
      show SF p e below T38 (mkF m 71 #[iv p0s, iv p1s, iv p2s, rv b1, rv b6, .unset, .unset, .unset, .unset, .unset, .unset] [(.int 0)]) _
      refine XS.istore X38.here hx rfl (hb hby at_71) rfl (l' := #[iv p0s, iv p1s, iv p2s, rv b1, rv b6, iv 0, .unset, .unset, .unset, .unset, .unset]) rfl ?_
      show SF p e below T38 (mkF m 73 #[iv p0s, iv p1s, iv p2s, rv b1, rv b6, iv 0, .unset, .unset, .unset, .unset, .unset] []) _
      refine st39 _ ?_
      show SF p e below T39 (mkF m 76 #[iv p0s, iv p1s, iv p2s, rv b1, rv b6, iv 0, .unset, .unset, .unset, .unset, .unset] [(.ref b11)]) _
      refine XS.dup X39.here hx rfl (hb hby at_76) rfl rfl ?_
      show SF p e below T39 (mkF m 77 #[iv p0s, iv p1s, iv p2s, rv b1, rv b6, iv 0, .unset, .unset, .unset, .unset, .unset] [(.ref b11), (.ref b11)]) _
      refine st44 _ ?_
      show SF p e below T44 (mkF m 80 #[iv p0s, iv p1s, iv p2s, rv b1, rv b6, iv 0, .unset, .unset, .unset, .unset, .unset] [(.ref w1), (.ref b11), (.ref b11)]) _
      refine XS.aloadN X44.here hx rfl (hb hby at_80) rfl rfl ?_
      show SF p e below T44 (mkF m 81 #[iv p0s, iv p1s, iv p2s, rv b1, rv b6, iv 0, .unset, .unset, .unset, .unset, .unset] [(.ref b1), (.ref w1), (.ref b11), (.ref b11)]) _
      refine st45 _ ?_
      show SF p e below T45 (mkF m 83 #[iv p0s, iv p1s, iv p2s, rv b1, rv b6, iv 0, .unset, .unset, .unset, .unset, .unset] [(.ref b12), (.ref b1), (.ref w1), (.ref b11), (.ref b11)]) _
      refine XS.iloadN X45.here hx rfl (hb hby at_83) rfl ?_
      show SF p e below T45 (mkF m 84 #[iv p0s, iv p1s, iv p2s, rv b1, rv b6, iv 0, .unset, .unset, .unset, .unset, .unset] [(.int p0s), (.ref b12), (.ref b1), (.ref w1), (.ref b11), (.ref b11)]) _
      refine st46.trans ?_
      show SF p e below T46 (mkF m 87 #[iv p0s, iv p1s, iv p2s, rv b1, rv b6, iv 0, .unset, .unset, .unset, .unset, .unset] [(.ref b11)]) _
      refine XS.astore Xw46.here hx rfl (hb hby at_87) rfl rfl (l' := #[iv p0s, iv p1s, iv p2s, rv b1, rv b6, iv 0, rv b11, .unset, .unset, .unset, .unset]) rfl ?_
      show SF p e below T46 (mkF m 89 #[iv p0s, iv p1s, iv p2s, rv b1, rv b6, iv 0, rv b11, .unset, .unset, .unset, .unset] []) _
      refine st52 _ ?_
      show SF p e below T52 (mkF m 92 #[iv p0s, iv p1s, iv p2s, rv b1, rv b6, iv 0, rv b11, .unset, .unset, .unset, .unset] [(.ref b16)]) _
      refine XS.dup X52.here hx rfl (hb hby at_92) rfl rfl ?_
      show SF p e below T52 (mkF m 93 #[iv p0s, iv p1s, iv p2s, rv b1, rv b6, iv 0, rv b11, .unset, .unset, .unset, .unset] [(.ref b16), (.ref b16)]) _
      refine st57 _ ?_
      show SF p e below T57 (mkF m 96 #[iv p0s, iv p1s, iv p2s, rv b1, rv b6, iv 0, rv b11, .unset, .unset, .unset, .unset] [(.ref w2), (.ref b16), (.ref b16)]) _
      refine XS.aload X57.here hx rfl (hb hby at_96) rfl rfl ?_
      show SF p e below T57 (mkF m 98 #[iv p0s, iv p1s, iv p2s, rv b1, rv b6, iv 0, rv b11, .unset, .unset, .unset, .unset] [(.ref b6), (.ref w2), (.ref b16), (.ref b16)]) _
      refine st58 _ ?_
      show SF p e below T58 (mkF m 100 #[iv p0s, iv p1s, iv p2s, rv b1, rv b6, iv 0, rv b11, .unset, .unset, .unset, .unset] [(.ref b17), (.ref b6), (.ref w2), (.ref b16), (.ref b16)]) _
      refine XS.iloadN X58.here hx rfl (hb hby at_100) rfl ?_
      show SF p e below T58 (mkF m 101 #[iv p0s, iv p1s, iv p2s, rv b1, rv b6, iv 0, rv b11, .unset, .unset, .unset, .unset] [(.int p1s), (.ref b17), (.ref b6), (.ref w2), (.ref b16), (.ref b16)]) _
      refine st59.trans ?_
      show SF p e below T59 (mkF m 104 #[iv p0s, iv p1s, iv p2s, rv b1, rv b6, iv 0, rv b11, .unset, .unset, .unset, .unset] [(.ref b16)]) _
      refine XS.astore Xw59.here hx rfl (hb hby at_104) rfl rfl (l' := #[iv p0s, iv p1s, iv p2s, rv b1, rv b6, iv 0, rv b11, rv b16, .unset, .unset, .unset]) rfl ?_
      refine XS.iload Xw59.here hx rfl (hb hby at_106) rfl ?_
      show SF p e below T59 (mkF m 108 #[iv p0s, iv p1s, iv p2s, rv b1, rv b6, iv 0, rv b11, rv b16, .unset, .unset, .unset] [(.int 0)]) _
      refine XS.ifNo Xw59.here hx rfl (hb hby at_108) rfl ((if0 _ _).trans (teq (by decide : (0 : Int32) = (0 : Int32))).2) ?_
      show SF p e below T59 (mkF m 111 #[iv p0s, iv p1s, iv p2s, rv b1, rv b6, iv 0, rv b11, rv b16, .unset, .unset, .unset] []) _
      refine st65 _ ?_
      show SF p e below T65 (mkF m 114 #[iv p0s, iv p1s, iv p2s, rv b1, rv b6, iv 0, rv b11, rv b16, .unset, .unset, .unset] [(.ref b21)]) _
      refine XS.dup X65.here hx rfl (hb hby at_114) rfl rfl ?_
      show SF p e below T65 (mkF m 115 #[iv p0s, iv p1s, iv p2s, rv b1, rv b6, iv 0, rv b11, rv b16, .unset, .unset, .unset] [(.ref b21), (.ref b21)]) _
      refine st69 _ ?_
      show SF p e below T69 (mkF m 118 #[iv p0s, iv p1s, iv p2s, rv b1, rv b6, iv 0, rv b11, rv b16, .unset, .unset, .unset] [(.ref w4), (.ref b21), (.ref b21)]) _
      refine XS.aload X69.here hx rfl (hb hby at_118) rfl rfl ?_
      refine XS.aconstNull X69.here hx rfl (hb hby at_120) ?_
      show SF p e below T69 (mkF m 121 #[iv p0s, iv p1s, iv p2s, rv b1, rv b6, iv 0, rv b11, rv b16, .unset, .unset, .unset] [.null, (.ref b11), (.ref w4), (.ref b21), (.ref b21)]) _
      refine st70.trans ?_
      show SF p e below T70 (mkF m 124 #[iv p0s, iv p1s, iv p2s, rv b1, rv b6, iv 0, rv b11, rv b16, .unset, .unset, .unset] [(.ref b21)]) _
      refine XS.astore Xw70.here hx rfl (hb hby at_124) rfl rfl (l' := #[iv p0s, iv p1s, iv p2s, rv b1, rv b6, iv 0, rv b11, rv b16, rv b21, .unset, .unset]) rfl ?_
      refine XS.aloadN Xw70.here hx rfl (hb hby at_126) rfl rfl ?_
      show SF p e below T70 (mkF m 127 #[iv p0s, iv p1s, iv p2s, rv b1, rv b6, iv 0, rv b11, rv b16, rv b21, .unset, .unset] [(.ref b1)]) _
      refine XS.astore Xw70.here hx rfl (hb hby at_127) rfl rfl (l' := #[iv p0s, iv p1s, iv p2s, rv b1, rv b6, iv 0, rv b11, rv b16, rv b21, rv b1, .unset]) rfl ?_
      refine XS.goto Xw70.here hx rfl (pc0 := 129) (pc' := 179) rfl (hb hby at_129) (by decide) (by decide) ?_
      show SF p e below T70 (mkF m 179 #[iv p0s, iv p1s, iv p2s, rv b1, rv b6, iv 0, rv b11, rv b16, rv b21, rv b1, .unset] []) _
      refine XS.aload Xw70.here hx rfl (hb hby at_179) rfl rfl ?_
      show SF p e below T70 (mkF m 181 #[iv p0s, iv p1s, iv p2s, rv b1, rv b6, iv 0, rv b11, rv b16, rv b21, rv b1, .unset] [(.ref b21)]) _
      refine st71.trans ?_
      show SF p e below T71 (mkF m 184 #[iv p0s, iv p1s, iv p2s, rv b1, rv b6, iv 0, rv b11, rv b16, rv b21, rv b1, .unset] [(.ref b1)]) _
      refine XS.astore X71.here hx rfl (hb hby at_184) rfl rfl (l' := #[iv p0s, iv p1s, iv p2s, rv b1, rv b6, iv 0, rv b11, rv b16, rv b21, rv b1, rv b1]) rfl ?_
      refine XS.aload X71.here hx rfl (hb hby at_186) rfl rfl ?_
      show SF p e below T71 (mkF m 188 #[iv p0s, iv p1s, iv p2s, rv b1, rv b6, iv 0, rv b11, rv b16, rv b21, rv b1, rv b1] [(.ref b1)]) _
      refine XS.ifnullNo X71.here hx rfl (hb hby at_188) rfl ?_
      show SF p e below T71 (mkF m 191 #[iv p0s, iv p1s, iv p2s, rv b1, rv b6, iv 0, rv b11, rv b16, rv b21, rv b1, rv b1] []) _
      refine XS.aload X71.here hx rfl (hb hby at_191) rfl rfl ?_
      refine XS.aload X71.here hx rfl (hb hby at_193) rfl rfl ?_
      show SF p e below T71 (mkF m 195 #[iv p0s, iv p1s, iv p2s, rv b1, rv b6, iv 0, rv b11, rv b16, rv b21, rv b1, rv b1] [(.ref b1), (.ref b1)]) _
      refine st95.trans ?_
      show SF p e below T95 (mkF m 198 #[iv p0s, iv p1s, iv p2s, rv b1, rv b6, iv 0, rv b11, rv b16, rv b21, rv b1, rv b1] [(.int 1)]) _
      refine XS.ifNo X95.here hx rfl (hb hby at_198) rfl ((if0 _ _).trans (feq (by decide : ¬ ((1 : Int32) = (0 : Int32)))).1) ?_
      show SF p e below T95 (mkF m 201 #[iv p0s, iv p1s, iv p2s, rv b1, rv b6, iv 0, rv b11, rv b16, rv b21, rv b1, rv b1] []) _
      refine XS.iconst X95.here hx rfl (hb hby at_201) ?_
      refine XS.goto X95.here hx rfl (pc0 := 202) (pc' := 206) rfl (hb hby at_202) (by decide) (by decide) ?_
      show SF p e below T95 (mkF m 206 #[iv p0s, iv p1s, iv p2s, rv b1, rv b6, iv 0, rv b11, rv b16, rv b21, rv b1, rv b1] [(.int 1)]) _
      exact retN X95 hx (t := .boolean) hre (by simp) (hb hby at_206) hr
    · exact ⟨rfl, N95⟩
  · obtain ⟨T39, h39, X39, e39, E39, A39, D39, -, st39⟩ := newO X38 hx hZ hown (tw hw 31 rfl) (tw hw 32 rfl) (tw hw 33 rfl) rfl (g := (mkF m 73 #[iv p0s, iv p1s, iv p2s, rv b1, rv b6, iv 1, .unset, .unset, .unset, .unset, .unset] [])) rfl (hb hby at_73) (by decide) (by decide)
    obtain ⟨b11, g39⟩ : ∃ z, z = T38.heap.size := ⟨_, rfl⟩
    rw [← g39] at A39 D39 st39
    have Fn40 : Fld Z h39 b11 "com/example/clausewright/clausewright/Division" "kind" "Lcom/example/clausewright/clausewright/Division$Kind;" .null := D39 (Or.inr (tw hw 57 rfl)) (ty := (.object "com/example/clausewright/clausewright/Division$Kind")) (by decide)
    have Fn41 : Fld Z h39 b11 "com/example/clausewright/clausewright/Division" "number" "Ljava/lang/String;" .null := D39 (Or.inr (tw hw 59 rfl)) (ty := (.object "java/lang/String")) (by decide)
    have Fn42 : Fld Z h39 b11 "com/example/clausewright/clausewright/Division" "heading" "Ljava/lang/String;" .null := D39 (Or.inr (tw hw 61 rfl)) (ty := (.object "java/lang/String")) (by decide)
    have Fn43 : Fld Z h39 b11 "com/example/clausewright/clausewright/Division" "line" "I" (.int 0) := D39 (Or.inr (tw hw 63 rfl)) (ty := .int) (by decide)
    have O38 : Old Z n0 T38.heap := O27.keep K38c (allS g_b6 all0)
    have O39 : Old Z n0 h39 := O38.ext E39
    obtain ⟨T44, X44, e44, st44⟩ := getS2 X39 hx hZ hown (host := "") (Or.inl (tw hw 34 rfl)) Via.refl e39 (Sg4.ext O39.2) (g := (mkF m 77 #[iv p0s, iv p1s, iv p2s, rv b1, rv b6, iv 1, .unset, .unset, .unset, .unset, .unset] [(.ref b11), (.ref b11)])) rfl (hb hby at_77)
    have hwSA : ∀ d ∈ Bundle.stringAtoms, d.before a0 Z = true := fun d hd => hw d (own_strA d hd)
    have hS0 : s.Since s.vm h39.size := State.WarmedH.since (State.WarmedH.refl s) _
    have hk0 : h39.size ≤ h39.size := Nat.le_refl _
    obtain ⟨b12, T45, h45, kq45, X45, e45, E45, hS45, hk45, hZ45, hown45, st45⟩ := ldcS (s := s) (vm0 := s.vm) X44 hx hZ hown (tw hw 37 rfl) hwSA e44 hS0 hk0 (g := (mkF m 81 #[iv p0s, iv p1s, iv p2s, rv b1, rv b6, iv 1, .unset, .unset, .unset, .unset, .unset] [(.ref b1), (.ref w1), (.ref b11), (.ref b11)])) rfl (hb hby at_81) (n := 0) (by decide) (by decide) (by decide) (by decide)
    have F12_47 : Exa Z h45 b11 "com/example/clausewright/clausewright/Division" := A39.ext E45
    have F12_48 : Fld Z h45 b11 "com/example/clausewright/clausewright/Division" "kind" "Lcom/example/clausewright/clausewright/Division$Kind;" .null := Fn40.ext E45
    have F12_49 : Fld Z h45 b11 "com/example/clausewright/clausewright/Division" "number" "Ljava/lang/String;" .null := Fn41.ext E45
    have F12_50 : Fld Z h45 b11 "com/example/clausewright/clausewright/Division" "heading" "Ljava/lang/String;" .null := Fn42.ext E45
    have F12_51 : Fld Z h45 b11 "com/example/clausewright/clausewright/Division" "line" "I" (.int 0) := Fn43.ext E45
    have Z38 : n0 ≤ T38.heap.size := Nat.le_trans Z27 K38c.1
    have g_b11 : n0 ≤ b11 := Nat.le_trans Z38 (Nat.le_of_eq g39.symm)
    have Z39 : n0 ≤ h39.size := Nat.le_trans Z38 E39.1
    have Z45 : n0 ≤ h45.size := Nat.le_trans Z39 E45.1
    obtain ⟨_, _, ⟨T46, L46, k46x, n46⟩, -, X46, hS46, hgr46, ⟨Lc46, hQ46, l46, y46, z46⟩, st46⟩ := X45.specialBackS hx (y := (⟨"com/example/clausewright/clausewright/Division", "<init>", "(Lcom/example/clausewright/clausewright/Division$Kind;Ljava/lang/String;Ljava/lang/String;I)V"⟩ : MethodName)) rfl hown45 (mvT hZ45 (tw hw 40 rfl)) (mvT hZ45 (tw hw 41 rfl)) (mvT hZ45 (tw hw 42 rfl)) (by decide) (backOfS (W := 1) (rm7_4 l Z a0 hw [] b11 w1 b1 b12 p0s h45 n0 Z45 F12_47 F12_48 F12_49 F12_50 F12_51 g_b11) hZ45 (tw hw 42 rfl) (tw hw 33 rfl) (by decide) (by decide)) (g := (mkF m 84 #[iv p0s, iv p1s, iv p2s, rv b1, rv b6, iv 1, .unset, .unset, .unset, .unset, .unset] [(.int p0s), (.ref b12), (.ref b1), (.ref w1), (.ref b11), (.ref b11)])) rfl (by rw [hml]; rfl) (Steps.refl _) (a := b11) (argsL := [(.ref w1), (.ref b1), (.ref b12), (.int p0s)]) (rest := [(.ref b11)]) (lenOf pd_3 rfl) rfl (by show 2 * 0 + _ ≤ _; exact Nat.le_of_eq rfl) (hb hby at_84) (fun _ _ => ⟨rfl, e45, (by decide : 9 + 6 ≤ _), (by decide : 24 + 80 ≤ _)⟩)
    dsimp only [Pt.U, Pt.locs, Pt.cells, Pt.slots] at X46 l46 y46 z46 st46 hQ46 hS46 hgr46
    subst l46 y46 z46
    obtain ⟨Xw46, hSw46, hZ46, hown46⟩ := rebS hS45 (n1 := T45.heap.size) (by rw [e45]; exact hk45) X46 hS46 hgr46 hZ45 hown45
    obtain ⟨rfl, N46q, K46c, Fq46_0, Fq46_1, Fq46_2, Fq46_3, Fq46_4⟩ := hQ46
    have N46 := Fr.app N38 N46q
    have hk46 : T46.heap.size ≤ T46.heap.size := Nat.le_refl _
    obtain ⟨T52, h52, X52, e52, E52, A52, D52, -, st52⟩ := newO Xw46 hx hZ46 hown46 (tw hw 31 rfl) (tw hw 32 rfl) (tw hw 33 rfl) rfl (g := (mkF m 89 #[iv p0s, iv p1s, iv p2s, rv b1, rv b6, iv 1, rv b11, .unset, .unset, .unset, .unset] [])) rfl (hb hby at_89) (by decide) (by decide)
    obtain ⟨b16, g52⟩ : ∃ z, z = T46.heap.size := ⟨_, rfl⟩
    rw [← g52] at A52 D52 st52
    have Fn53 : Fld Z h52 b16 "com/example/clausewright/clausewright/Division" "kind" "Lcom/example/clausewright/clausewright/Division$Kind;" .null := D52 (Or.inr (tw hw 57 rfl)) (ty := (.object "com/example/clausewright/clausewright/Division$Kind")) (by decide)
    have Fn54 : Fld Z h52 b16 "com/example/clausewright/clausewright/Division" "number" "Ljava/lang/String;" .null := D52 (Or.inr (tw hw 59 rfl)) (ty := (.object "java/lang/String")) (by decide)
    have Fn55 : Fld Z h52 b16 "com/example/clausewright/clausewright/Division" "heading" "Ljava/lang/String;" .null := D52 (Or.inr (tw hw 61 rfl)) (ty := (.object "java/lang/String")) (by decide)
    have Fn56 : Fld Z h52 b16 "com/example/clausewright/clausewright/Division" "line" "I" (.int 0) := D52 (Or.inr (tw hw 63 rfl)) (ty := .int) (by decide)
    have O45 : Old Z n0 h45 := O39.ext E45
    have O46 : Old Z n0 T46.heap := O45.keep K46c (allS g_b11 all0)
    have O52 : Old Z n0 h52 := O46.ext E52
    obtain ⟨T57, X57, e57, st57⟩ := getS2 X52 hx hZ46 hown46 (host := "") (Or.inl (tw hw 64 rfl)) Via.refl e52 (Sg6.ext O52.2) (g := (mkF m 93 #[iv p0s, iv p1s, iv p2s, rv b1, rv b6, iv 1, rv b11, .unset, .unset, .unset, .unset] [(.ref b16), (.ref b16)])) rfl (hb hby at_93)
    have hkk52_14 : T46.heap.size ≤ h52.size := Nat.le_trans hk46 E52.1
    obtain ⟨b17, T58, h58, kq58, X58, e58, E58, hS58, hk58, hZ58, hown58, st58⟩ := ldcS (s := s) (vm0 := T46.vm) X57 hx hZ46 hown46 (tw hw 37 rfl) hwSA e57 hSw46 hkk52_14 (g := (mkF m 98 #[iv p0s, iv p1s, iv p2s, rv b1, rv b6, iv 1, rv b11, .unset, .unset, .unset, .unset] [(.ref b6), (.ref w2), (.ref b16), (.ref b16)])) rfl (hb hby at_98) (n := 0) (by decide) (by decide) (by decide) (by decide)
    have F15_60 : Exa Z h58 b16 "com/example/clausewright/clausewright/Division" := A52.ext E58
    have F15_61 : Fld Z h58 b16 "com/example/clausewright/clausewright/Division" "kind" "Lcom/example/clausewright/clausewright/Division$Kind;" .null := Fn53.ext E58
    have F15_62 : Fld Z h58 b16 "com/example/clausewright/clausewright/Division" "number" "Ljava/lang/String;" .null := Fn54.ext E58
    have F15_63 : Fld Z h58 b16 "com/example/clausewright/clausewright/Division" "heading" "Ljava/lang/String;" .null := Fn55.ext E58
    have F15_64 : Fld Z h58 b16 "com/example/clausewright/clausewright/Division" "line" "I" (.int 0) := Fn56.ext E58
    have Z46 : n0 ≤ T46.heap.size := Nat.le_trans Z45 K46c.1
    have g_b16 : n0 ≤ b16 := Nat.le_trans Z46 (Nat.le_of_eq g52.symm)
    have Z52 : n0 ≤ h52.size := Nat.le_trans Z46 E52.1
    have Z58 : n0 ≤ h58.size := Nat.le_trans Z52 E58.1
    obtain ⟨_, _, ⟨T59, L59, k59x, n59⟩, -, X59, hS59, hgr59, ⟨Lc59, hQ59, l59, y59, z59⟩, st59⟩ := X58.specialBackS hx (y := (⟨"com/example/clausewright/clausewright/Division", "<init>", "(Lcom/example/clausewright/clausewright/Division$Kind;Ljava/lang/String;Ljava/lang/String;I)V"⟩ : MethodName)) rfl hown58 (mvT hZ58 (tw hw 40 rfl)) (mvT hZ58 (tw hw 41 rfl)) (mvT hZ58 (tw hw 42 rfl)) (by decide) (backOfS (W := 1) (rm7_6 l Z a0 hw [] b16 w2 b6 b17 p1s h58 n0 Z58 F15_60 F15_61 F15_62 F15_63 F15_64 g_b16) hZ58 (tw hw 42 rfl) (tw hw 33 rfl) (by decide) (by decide)) (g := (mkF m 101 #[iv p0s, iv p1s, iv p2s, rv b1, rv b6, iv 1, rv b11, .unset, .unset, .unset, .unset] [(.int p1s), (.ref b17), (.ref b6), (.ref w2), (.ref b16), (.ref b16)])) rfl (by rw [hml]; rfl) (Steps.refl _) (a := b16) (argsL := [(.ref w2), (.ref b6), (.ref b17), (.int p1s)]) (rest := [(.ref b16)]) (lenOf pd_3 rfl) rfl (by show 2 * 0 + _ ≤ _; exact Nat.le_of_eq rfl) (hb hby at_101) (fun _ _ => ⟨rfl, e58, (by decide : 18 + 6 ≤ _), (by decide : 112 + 80 ≤ _)⟩)
    dsimp only [Pt.U, Pt.locs, Pt.cells, Pt.slots] at X59 l59 y59 z59 st59 hQ59 hS59 hgr59
    subst l59 y59 z59
    obtain ⟨Xw59, hSw59, hZ59, hown59⟩ := rebS hS58 (n1 := T58.heap.size) (by rw [e58]; exact hk58) X59 hS59 hgr59 hZ58 hown58
    obtain ⟨rfl, N59q, K59c, Fq59_0, Fq59_1, Fq59_2, Fq59_3, Fq59_4⟩ := hQ59
    have N59 := Fr.app N46 N59q
    have hk59 : T59.heap.size ≤ T59.heap.size := Nat.le_refl _
    obtain ⟨T65, h65, X65, e65, E65, A65, D65, -, st65⟩ := newO Xw59 hx hZ59 hown59 (tw hw 66 rfl) (tw hw 67 rfl) (tw hw 68 rfl) rfl (g := (mkF m 138 #[iv p0s, iv p1s, iv p2s, rv b1, rv b6, iv 1, rv b11, rv b16, .unset, .unset, .unset] [])) rfl (hb hby at_138) (by decide) (by decide)
    obtain ⟨b21, g65⟩ : ∃ z, z = T59.heap.size := ⟨_, rfl⟩
    rw [← g65] at A65 D65 st65
    have Fn66 : Fld Z h65 b21 "com/example/clausewright/clausewright/Difference" "kind" "Lcom/example/clausewright/clausewright/Difference$Kind;" .null := D65 (Or.inr (tw hw 79 rfl)) (ty := (.object "com/example/clausewright/clausewright/Difference$Kind")) (by decide)
    have Fn67 : Fld Z h65 b21 "com/example/clausewright/clausewright/Difference" "body" "Lcom/example/clausewright/clausewright/Division;" .null := D65 (Or.inr (tw hw 81 rfl)) (ty := (.object "com/example/clausewright/clausewright/Division")) (by decide)
    have Fn68 : Fld Z h65 b21 "com/example/clausewright/clausewright/Difference" "entry" "Lcom/example/clausewright/clausewright/Division;" .null := D65 (Or.inr (tw hw 83 rfl)) (ty := (.object "com/example/clausewright/clausewright/Division")) (by decide)
    have O58 : Old Z n0 h58 := O52.ext E58
    have O59 : Old Z n0 T59.heap := O58.keep K59c (allS g_b16 all0)
    have O65 : Old Z n0 h65 := O59.ext E65
    obtain ⟨T69, X69, e69, st69⟩ := getS2 X65 hx hZ59 hown59 (host := "") (Or.inl (tw hw 101 rfl)) Via.refl e65 (Sg12.ext O65.2) (g := (mkF m 142 #[iv p0s, iv p1s, iv p2s, rv b1, rv b6, iv 1, rv b11, rv b16, .unset, .unset, .unset] [(.ref b21), (.ref b21)])) rfl (hb hby at_142)
    have Z59 : n0 ≤ T59.heap.size := Nat.le_trans Z58 K59c.1
    have g_b21 : n0 ≤ b21 := Nat.le_trans Z59 (Nat.le_of_eq g65.symm)
    have Z65 : n0 ≤ h65.size := Nat.le_trans Z59 E65.1
    obtain ⟨_, _, ⟨T70, L70, k70x, n70⟩, -, X70, hS70, hgr70, ⟨Lc70, hQ70, l70, y70, z70⟩, st70⟩ := X69.specialBackS hx (y := (⟨"com/example/clausewright/clausewright/Difference", "<init>", "(Lcom/example/clausewright/clausewright/Difference$Kind;Lcom/example/clausewright/clausewright/Division;Lcom/example/clausewright/clausewright/Division;)V"⟩ : MethodName)) rfl hown59 (mvT hZ59 (tw hw 72 rfl)) (mvT hZ59 (tw hw 73 rfl)) (mvT hZ59 (tw hw 74 rfl)) (by decide) (backOfS (W := 1) (rm10_13 l Z a0 hw [] b21 w5 b16 h65 n0 Z65 A65 Fn66 Fn67 Fn68 g_b21) hZ59 (tw hw 74 rfl) (tw hw 68 rfl) (by decide) (by decide)) (g := (mkF m 148 #[iv p0s, iv p1s, iv p2s, rv b1, rv b6, iv 1, rv b11, rv b16, .unset, .unset, .unset] [(.ref b16), .null, (.ref w5), (.ref b21), (.ref b21)])) rfl (by rw [hml]; rfl) (Steps.refl _) (a := b21) (argsL := [(.ref w5), .null, (.ref b16)]) (rest := [(.ref b21)]) (lenOf pd_4 rfl) rfl (by show 2 * 0 + _ ≤ _; exact Nat.le_of_eq rfl) (hb hby at_148) (fun _ _ => ⟨rfl, e69, (by decide : 25 + 2 ≤ _), (by decide : 195 + 20 ≤ _)⟩)
    dsimp only [Pt.U, Pt.locs, Pt.cells, Pt.slots] at X70 l70 y70 z70 st70 hQ70 hS70 hgr70
    subst l70 y70 z70
    have hkk65_17 : T59.heap.size ≤ h65.size := Nat.le_trans hk59 E65.1
    obtain ⟨Xw70, hSw70, hZ70, hown70⟩ := rebS hSw59 (n1 := T69.heap.size) (by rw [e69]; exact hkk65_17) X70 hS70 hgr70 hZ59 hown59
    obtain ⟨rfl, N70q, K70c, Fq70_0, Fq70_1, Fq70_2, Fq70_3⟩ := hQ70
    have N70 := Fr.app N59 N70q
    have hk70 : T70.heap.size ≤ T70.heap.size := Nat.le_refl _
    have F17_72 : Exa Z h65 b16 "com/example/clausewright/clausewright/Division" := Fq59_0.ext E65
    have F18_73 : Exa Z T70.heap b16 "com/example/clausewright/clausewright/Division" := F17_72.keep K70c
    have F17_74 : Fld Z h65 b16 "com/example/clausewright/clausewright/Division" "number" "Ljava/lang/String;" (.ref b6) := Fq59_2.ext E65
    have lt_b16_15 : b16 < h58.size := Nat.lt_of_lt_of_le A52.lt E58.1
    have lt_b16_16 : b16 < T59.heap.size := Nat.lt_of_lt_of_le lt_b16_15 K59c.1
    have F18_75 : Fld Z T70.heap b16 "com/example/clausewright/clausewright/Division" "number" "Ljava/lang/String;" (.ref b6) := F17_74.keep K70c (ninS (Nat.ne_of_lt (Nat.lt_of_lt_of_le lt_b16_16 (Nat.le_of_eq g65.symm))) nin0)
    have Z70 : n0 ≤ T70.heap.size := Nat.le_trans Z65 K70c.1
    obtain ⟨cq71, kq71, q71a, q71b, q71c⟩ := isOf hZ70 rfl Fq70_0
    obtain ⟨_, _, ⟨T71, L71, k71x, n71⟩, -, X71, ⟨Lc71, hQ71, l71, y71, z71⟩, st71⟩ := Xw70.virtualBack hx (y := (⟨"com/example/clausewright/clausewright/Difference", "number", "()Ljava/lang/String;"⟩ : MethodName)) (z := (⟨"com/example/clausewright/clausewright/Difference", "number", "()Ljava/lang/String;"⟩ : MethodName)) hown70 (mvT hZ70 (tw hw 84 rfl)) (mvT hZ70 (tw hw 85 rfl)) (notFace_of_selects (args := #[]) (mvT hZ70 (tw hw 87 rfl))) (mvT hZ70 (tw hw 87 rfl)) (mvT hZ70 (tw hw 86 rfl)) (by decide) (backOf (W := 0) (rm11_14 l Z a0 hw [] b21 b16 b6 T70.heap n0 Z70 Fq70_2 Fq70_3 F18_73 F18_75) hZ70 (tw hw 88 rfl) (tw hw 68 rfl) (by decide) (by decide)) q71a q71c (g := (mkF m 181 #[iv p0s, iv p1s, iv p2s, rv b1, rv b6, iv 1, rv b11, rv b16, rv b21, rv b6, .unset] [(.ref b21)])) rfl (by rw [hml]; rfl) (Steps.refl _) (argsL := []) (rest := []) (lenOf pd_5 rfl) rfl (by show 2 * 0 + _ ≤ _; exact Nat.le_of_eq rfl) (hb hby at_181) (fun _ _ => ⟨rfl, rfl, (by decide : 27 + 0 ≤ _), (by decide : 215 + 0 ≤ _)⟩)
    dsimp only [Pt.U, Pt.locs, Pt.cells, Pt.slots] at X71 l71 y71 z71 st71 hQ71
    subst l71 y71 z71
    obtain ⟨rfl, N71q, e71⟩ := hQ71
    have N71 := Fr.app N70 N71q
    have F11_76 : Exa Z h39 b6 "java/lang/String" := Fx38.ext E39
    have F12_77 : Exa Z h45 b6 "java/lang/String" := F11_76.ext E45
    have F13_78 : Exa Z T46.heap b6 "java/lang/String" := F12_77.keep K46c
    have F14_79 : Exa Z h52 b6 "java/lang/String" := F13_78.ext E52
    have F15_80 : Exa Z h58 b6 "java/lang/String" := F14_79.ext E58
    have F16_81 : Exa Z T59.heap b6 "java/lang/String" := F15_80.keep K59c
    have F17_82 : Exa Z h65 b6 "java/lang/String" := F16_81.ext E65
    have F18_83 : Exa Z T70.heap b6 "java/lang/String" := F17_82.keep K70c
    obtain ⟨cq84, kq84, q84a, q84b, q84c⟩ := isOf hZ70 e71 F18_83
    obtain ⟨_, _, ⟨T84, L84, k84x, n84⟩, -, X84, ⟨Lc84, hQ84, l84, y84, z84⟩, st84⟩ := X71.virtualBack hx (y := (⟨"java/lang/String", "equals", "(Ljava/lang/Object;)Z"⟩ : MethodName)) (z := (⟨"java/lang/String", "equals", "(Ljava/lang/Object;)Z"⟩ : MethodName)) hown70 (mvT hZ70 (tw hw 94 rfl)) (mvT hZ70 (tw hw 95 rfl)) (notFace_of_selects (args := #[]) (mvT hZ70 (tw hw 97 rfl))) (mvT hZ70 (tw hw 97 rfl)) (mvT hZ70 (tw hw 96 rfl)) (by decide) (backOf (W := 0) (rm13_11 l Z a0 hw [] b6 T70.heap n0 Z70 ) hZ70 (tw hw 98 rfl) (tw hw 2 rfl) (by decide) (by decide)) q84a q84c (g := (mkF m 195 #[iv p0s, iv p1s, iv p2s, rv b1, rv b6, iv 1, rv b11, rv b16, rv b21, rv b6, rv b6] [(.ref b6), (.ref b6)])) rfl (by rw [hml]; rfl) (Steps.refl _) (argsL := [(.ref b6)]) (rest := []) (lenOf pd_6 rfl) rfl (by show 2 * 0 + _ ≤ _; exact Nat.le_of_eq rfl) (hb hby at_195) (fun _ _ => ⟨rfl, e71, (by decide : 27 + 0 ≤ _), (by decide : 215 + 0 ≤ _)⟩)
    dsimp only [Pt.U, Pt.locs, Pt.cells, Pt.slots] at X84 l84 y84 z84 st84 hQ84
    subst l84 y84 z84
    obtain ⟨rfl, N84q, e84⟩ := hQ84
    have N84 := Fr.app N71 N84q
    obtain ⟨fs, hr, hrun, hended, hRW⟩ := X84.leaveW hSw70 (by rw [e84]; exact hk70) (v := some (.int (1 : Int32))) (fun h => by rw [hre] at h; cases h)
    refine ⟨_, _, pre0 _ (pre1 _ (?_)), hrun, hended, _, _, rfl, ?_, hRW.1, hRW.2.1, hRW.2.2.1, hRW.2.2.2.mono (by decide) (by decide)⟩
    · show SF p e below T38 (mkF m 71 #[iv p0s, iv p1s, iv p2s, rv b1, rv b6, .unset, .unset, .unset, .unset, .unset, .unset] [(.int ((p2s &&& (2147483647 : Int32)) % (3 : Int32)))]) _
      rw [hc1]
      show SF p e below T38 (mkF m 71 #[iv p0s, iv p1s, iv p2s, rv b1, rv b6, .unset, .unset, .unset, .unset, .unset, .unset] [(.int 1)]) _
      refine XS.istore X38.here hx rfl (hb hby at_71) rfl (l' := #[iv p0s, iv p1s, iv p2s, rv b1, rv b6, iv 1, .unset, .unset, .unset, .unset, .unset]) rfl ?_
      show SF p e below T38 (mkF m 73 #[iv p0s, iv p1s, iv p2s, rv b1, rv b6, iv 1, .unset, .unset, .unset, .unset, .unset] []) _
      refine st39 _ ?_
      show SF p e below T39 (mkF m 76 #[iv p0s, iv p1s, iv p2s, rv b1, rv b6, iv 1, .unset, .unset, .unset, .unset, .unset] [(.ref b11)]) _
      refine XS.dup X39.here hx rfl (hb hby at_76) rfl rfl ?_
      show SF p e below T39 (mkF m 77 #[iv p0s, iv p1s, iv p2s, rv b1, rv b6, iv 1, .unset, .unset, .unset, .unset, .unset] [(.ref b11), (.ref b11)]) _
      refine st44 _ ?_
      show SF p e below T44 (mkF m 80 #[iv p0s, iv p1s, iv p2s, rv b1, rv b6, iv 1, .unset, .unset, .unset, .unset, .unset] [(.ref w1), (.ref b11), (.ref b11)]) _
      refine XS.aloadN X44.here hx rfl (hb hby at_80) rfl rfl ?_
      show SF p e below T44 (mkF m 81 #[iv p0s, iv p1s, iv p2s, rv b1, rv b6, iv 1, .unset, .unset, .unset, .unset, .unset] [(.ref b1), (.ref w1), (.ref b11), (.ref b11)]) _
      refine st45 _ ?_
      show SF p e below T45 (mkF m 83 #[iv p0s, iv p1s, iv p2s, rv b1, rv b6, iv 1, .unset, .unset, .unset, .unset, .unset] [(.ref b12), (.ref b1), (.ref w1), (.ref b11), (.ref b11)]) _
      refine XS.iloadN X45.here hx rfl (hb hby at_83) rfl ?_
      show SF p e below T45 (mkF m 84 #[iv p0s, iv p1s, iv p2s, rv b1, rv b6, iv 1, .unset, .unset, .unset, .unset, .unset] [(.int p0s), (.ref b12), (.ref b1), (.ref w1), (.ref b11), (.ref b11)]) _
      refine st46.trans ?_
      show SF p e below T46 (mkF m 87 #[iv p0s, iv p1s, iv p2s, rv b1, rv b6, iv 1, .unset, .unset, .unset, .unset, .unset] [(.ref b11)]) _
      refine XS.astore Xw46.here hx rfl (hb hby at_87) rfl rfl (l' := #[iv p0s, iv p1s, iv p2s, rv b1, rv b6, iv 1, rv b11, .unset, .unset, .unset, .unset]) rfl ?_
      show SF p e below T46 (mkF m 89 #[iv p0s, iv p1s, iv p2s, rv b1, rv b6, iv 1, rv b11, .unset, .unset, .unset, .unset] []) _
      refine st52 _ ?_
      show SF p e below T52 (mkF m 92 #[iv p0s, iv p1s, iv p2s, rv b1, rv b6, iv 1, rv b11, .unset, .unset, .unset, .unset] [(.ref b16)]) _
      refine XS.dup X52.here hx rfl (hb hby at_92) rfl rfl ?_
      show SF p e below T52 (mkF m 93 #[iv p0s, iv p1s, iv p2s, rv b1, rv b6, iv 1, rv b11, .unset, .unset, .unset, .unset] [(.ref b16), (.ref b16)]) _
      refine st57 _ ?_
      show SF p e below T57 (mkF m 96 #[iv p0s, iv p1s, iv p2s, rv b1, rv b6, iv 1, rv b11, .unset, .unset, .unset, .unset] [(.ref w2), (.ref b16), (.ref b16)]) _
      refine XS.aload X57.here hx rfl (hb hby at_96) rfl rfl ?_
      show SF p e below T57 (mkF m 98 #[iv p0s, iv p1s, iv p2s, rv b1, rv b6, iv 1, rv b11, .unset, .unset, .unset, .unset] [(.ref b6), (.ref w2), (.ref b16), (.ref b16)]) _
      refine st58 _ ?_
      show SF p e below T58 (mkF m 100 #[iv p0s, iv p1s, iv p2s, rv b1, rv b6, iv 1, rv b11, .unset, .unset, .unset, .unset] [(.ref b17), (.ref b6), (.ref w2), (.ref b16), (.ref b16)]) _
      refine XS.iloadN X58.here hx rfl (hb hby at_100) rfl ?_
      show SF p e below T58 (mkF m 101 #[iv p0s, iv p1s, iv p2s, rv b1, rv b6, iv 1, rv b11, .unset, .unset, .unset, .unset] [(.int p1s), (.ref b17), (.ref b6), (.ref w2), (.ref b16), (.ref b16)]) _
      refine st59.trans ?_
      show SF p e below T59 (mkF m 104 #[iv p0s, iv p1s, iv p2s, rv b1, rv b6, iv 1, rv b11, .unset, .unset, .unset, .unset] [(.ref b16)]) _
      refine XS.astore Xw59.here hx rfl (hb hby at_104) rfl rfl (l' := #[iv p0s, iv p1s, iv p2s, rv b1, rv b6, iv 1, rv b11, rv b16, .unset, .unset, .unset]) rfl ?_
      refine XS.iload Xw59.here hx rfl (hb hby at_106) rfl ?_
      show SF p e below T59 (mkF m 108 #[iv p0s, iv p1s, iv p2s, rv b1, rv b6, iv 1, rv b11, rv b16, .unset, .unset, .unset] [(.int 1)]) _
      refine XS.ifYes Xw59.here hx rfl (pc0 := 108) (pc' := 132) rfl (hb hby at_108) rfl ((if0 _ _).trans (feq (by decide : ¬ ((1 : Int32) = (0 : Int32)))).2) (by decide) (by decide) ?_
      show SF p e below T59 (mkF m 132 #[iv p0s, iv p1s, iv p2s, rv b1, rv b6, iv 1, rv b11, rv b16, .unset, .unset, .unset] []) _
      refine XS.iload Xw59.here hx rfl (hb hby at_132) rfl ?_
      refine XS.iconst Xw59.here hx rfl (hb hby at_134) ?_
      show SF p e below T59 (mkF m 135 #[iv p0s, iv p1s, iv p2s, rv b1, rv b6, iv 1, rv b11, rv b16, .unset, .unset, .unset] [(.int 1), (.int 1)]) _
      refine XS.icmpNo Xw59.here hx rfl (hb hby at_135) rfl (teq (by decide : (1 : Int32) = (1 : Int32))).2 ?_
      show SF p e below T59 (mkF m 138 #[iv p0s, iv p1s, iv p2s, rv b1, rv b6, iv 1, rv b11, rv b16, .unset, .unset, .unset] []) _
      refine st65 _ ?_
      show SF p e below T65 (mkF m 141 #[iv p0s, iv p1s, iv p2s, rv b1, rv b6, iv 1, rv b11, rv b16, .unset, .unset, .unset] [(.ref b21)]) _
      refine XS.dup X65.here hx rfl (hb hby at_141) rfl rfl ?_
      show SF p e below T65 (mkF m 142 #[iv p0s, iv p1s, iv p2s, rv b1, rv b6, iv 1, rv b11, rv b16, .unset, .unset, .unset] [(.ref b21), (.ref b21)]) _
      refine st69 _ ?_
      show SF p e below T69 (mkF m 145 #[iv p0s, iv p1s, iv p2s, rv b1, rv b6, iv 1, rv b11, rv b16, .unset, .unset, .unset] [(.ref w5), (.ref b21), (.ref b21)]) _
      refine XS.aconstNull X69.here hx rfl (hb hby at_145) ?_
      refine XS.aload X69.here hx rfl (hb hby at_146) rfl rfl ?_
      show SF p e below T69 (mkF m 148 #[iv p0s, iv p1s, iv p2s, rv b1, rv b6, iv 1, rv b11, rv b16, .unset, .unset, .unset] [(.ref b16), .null, (.ref w5), (.ref b21), (.ref b21)]) _
      refine st70.trans ?_
      show SF p e below T70 (mkF m 151 #[iv p0s, iv p1s, iv p2s, rv b1, rv b6, iv 1, rv b11, rv b16, .unset, .unset, .unset] [(.ref b21)]) _
      refine XS.astore Xw70.here hx rfl (hb hby at_151) rfl rfl (l' := #[iv p0s, iv p1s, iv p2s, rv b1, rv b6, iv 1, rv b11, rv b16, rv b21, .unset, .unset]) rfl ?_
      refine XS.aload Xw70.here hx rfl (hb hby at_153) rfl rfl ?_
      show SF p e below T70 (mkF m 155 #[iv p0s, iv p1s, iv p2s, rv b1, rv b6, iv 1, rv b11, rv b16, rv b21, .unset, .unset] [(.ref b6)]) _
      refine XS.astore Xw70.here hx rfl (hb hby at_155) rfl rfl (l' := #[iv p0s, iv p1s, iv p2s, rv b1, rv b6, iv 1, rv b11, rv b16, rv b21, rv b6, .unset]) rfl ?_
      refine XS.goto Xw70.here hx rfl (pc0 := 157) (pc' := 179) rfl (hb hby at_157) (by decide) (by decide) ?_
      show SF p e below T70 (mkF m 179 #[iv p0s, iv p1s, iv p2s, rv b1, rv b6, iv 1, rv b11, rv b16, rv b21, rv b6, .unset] []) _
      refine XS.aload Xw70.here hx rfl (hb hby at_179) rfl rfl ?_
      show SF p e below T70 (mkF m 181 #[iv p0s, iv p1s, iv p2s, rv b1, rv b6, iv 1, rv b11, rv b16, rv b21, rv b6, .unset] [(.ref b21)]) _
      refine st71.trans ?_
      show SF p e below T71 (mkF m 184 #[iv p0s, iv p1s, iv p2s, rv b1, rv b6, iv 1, rv b11, rv b16, rv b21, rv b6, .unset] [(.ref b6)]) _
      refine XS.astore X71.here hx rfl (hb hby at_184) rfl rfl (l' := #[iv p0s, iv p1s, iv p2s, rv b1, rv b6, iv 1, rv b11, rv b16, rv b21, rv b6, rv b6]) rfl ?_
      refine XS.aload X71.here hx rfl (hb hby at_186) rfl rfl ?_
      show SF p e below T71 (mkF m 188 #[iv p0s, iv p1s, iv p2s, rv b1, rv b6, iv 1, rv b11, rv b16, rv b21, rv b6, rv b6] [(.ref b6)]) _
      refine XS.ifnullNo X71.here hx rfl (hb hby at_188) rfl ?_
      show SF p e below T71 (mkF m 191 #[iv p0s, iv p1s, iv p2s, rv b1, rv b6, iv 1, rv b11, rv b16, rv b21, rv b6, rv b6] []) _
      refine XS.aload X71.here hx rfl (hb hby at_191) rfl rfl ?_
      refine XS.aload X71.here hx rfl (hb hby at_193) rfl rfl ?_
      show SF p e below T71 (mkF m 195 #[iv p0s, iv p1s, iv p2s, rv b1, rv b6, iv 1, rv b11, rv b16, rv b21, rv b6, rv b6] [(.ref b6), (.ref b6)]) _
      refine st84.trans ?_
      show SF p e below T84 (mkF m 198 #[iv p0s, iv p1s, iv p2s, rv b1, rv b6, iv 1, rv b11, rv b16, rv b21, rv b6, rv b6] [(.int 1)]) _
      refine XS.ifNo X84.here hx rfl (hb hby at_198) rfl ((if0 _ _).trans (feq (by decide : ¬ ((1 : Int32) = (0 : Int32)))).1) ?_
      show SF p e below T84 (mkF m 201 #[iv p0s, iv p1s, iv p2s, rv b1, rv b6, iv 1, rv b11, rv b16, rv b21, rv b6, rv b6] []) _
      refine XS.iconst X84.here hx rfl (hb hby at_201) ?_
      refine XS.goto X84.here hx rfl (pc0 := 202) (pc' := 206) rfl (hb hby at_202) (by decide) (by decide) ?_
      show SF p e below T84 (mkF m 206 #[iv p0s, iv p1s, iv p2s, rv b1, rv b6, iv 1, rv b11, rv b16, rv b21, rv b6, rv b6] [(.int 1)]) _
      exact retN X84 hx (t := .boolean) hre (by simp) (hb hby at_206) hr
    · exact ⟨rfl, N84⟩
  · obtain ⟨T39, h39, X39, e39, E39, A39, D39, -, st39⟩ := newO X38 hx hZ hown (tw hw 31 rfl) (tw hw 32 rfl) (tw hw 33 rfl) rfl (g := (mkF m 73 #[iv p0s, iv p1s, iv p2s, rv b1, rv b6, iv 2, .unset, .unset, .unset, .unset, .unset] [])) rfl (hb hby at_73) (by decide) (by decide)
    obtain ⟨b11, g39⟩ : ∃ z, z = T38.heap.size := ⟨_, rfl⟩
    rw [← g39] at A39 D39 st39
    have Fn40 : Fld Z h39 b11 "com/example/clausewright/clausewright/Division" "kind" "Lcom/example/clausewright/clausewright/Division$Kind;" .null := D39 (Or.inr (tw hw 57 rfl)) (ty := (.object "com/example/clausewright/clausewright/Division$Kind")) (by decide)
    have Fn41 : Fld Z h39 b11 "com/example/clausewright/clausewright/Division" "number" "Ljava/lang/String;" .null := D39 (Or.inr (tw hw 59 rfl)) (ty := (.object "java/lang/String")) (by decide)
    have Fn42 : Fld Z h39 b11 "com/example/clausewright/clausewright/Division" "heading" "Ljava/lang/String;" .null := D39 (Or.inr (tw hw 61 rfl)) (ty := (.object "java/lang/String")) (by decide)
    have Fn43 : Fld Z h39 b11 "com/example/clausewright/clausewright/Division" "line" "I" (.int 0) := D39 (Or.inr (tw hw 63 rfl)) (ty := .int) (by decide)
    have O38 : Old Z n0 T38.heap := O27.keep K38c (allS g_b6 all0)
    have O39 : Old Z n0 h39 := O38.ext E39
    obtain ⟨T44, X44, e44, st44⟩ := getS2 X39 hx hZ hown (host := "") (Or.inl (tw hw 34 rfl)) Via.refl e39 (Sg4.ext O39.2) (g := (mkF m 77 #[iv p0s, iv p1s, iv p2s, rv b1, rv b6, iv 2, .unset, .unset, .unset, .unset, .unset] [(.ref b11), (.ref b11)])) rfl (hb hby at_77)
    have hwSA : ∀ d ∈ Bundle.stringAtoms, d.before a0 Z = true := fun d hd => hw d (own_strA d hd)
    have hS0 : s.Since s.vm h39.size := State.WarmedH.since (State.WarmedH.refl s) _
    have hk0 : h39.size ≤ h39.size := Nat.le_refl _
    obtain ⟨b12, T45, h45, kq45, X45, e45, E45, hS45, hk45, hZ45, hown45, st45⟩ := ldcS (s := s) (vm0 := s.vm) X44 hx hZ hown (tw hw 37 rfl) hwSA e44 hS0 hk0 (g := (mkF m 81 #[iv p0s, iv p1s, iv p2s, rv b1, rv b6, iv 2, .unset, .unset, .unset, .unset, .unset] [(.ref b1), (.ref w1), (.ref b11), (.ref b11)])) rfl (hb hby at_81) (n := 0) (by decide) (by decide) (by decide) (by decide)
    have F12_47 : Exa Z h45 b11 "com/example/clausewright/clausewright/Division" := A39.ext E45
    have F12_48 : Fld Z h45 b11 "com/example/clausewright/clausewright/Division" "kind" "Lcom/example/clausewright/clausewright/Division$Kind;" .null := Fn40.ext E45
    have F12_49 : Fld Z h45 b11 "com/example/clausewright/clausewright/Division" "number" "Ljava/lang/String;" .null := Fn41.ext E45
    have F12_50 : Fld Z h45 b11 "com/example/clausewright/clausewright/Division" "heading" "Ljava/lang/String;" .null := Fn42.ext E45
    have F12_51 : Fld Z h45 b11 "com/example/clausewright/clausewright/Division" "line" "I" (.int 0) := Fn43.ext E45
    have Z38 : n0 ≤ T38.heap.size := Nat.le_trans Z27 K38c.1
    have g_b11 : n0 ≤ b11 := Nat.le_trans Z38 (Nat.le_of_eq g39.symm)
    have Z39 : n0 ≤ h39.size := Nat.le_trans Z38 E39.1
    have Z45 : n0 ≤ h45.size := Nat.le_trans Z39 E45.1
    obtain ⟨_, _, ⟨T46, L46, k46x, n46⟩, -, X46, hS46, hgr46, ⟨Lc46, hQ46, l46, y46, z46⟩, st46⟩ := X45.specialBackS hx (y := (⟨"com/example/clausewright/clausewright/Division", "<init>", "(Lcom/example/clausewright/clausewright/Division$Kind;Ljava/lang/String;Ljava/lang/String;I)V"⟩ : MethodName)) rfl hown45 (mvT hZ45 (tw hw 40 rfl)) (mvT hZ45 (tw hw 41 rfl)) (mvT hZ45 (tw hw 42 rfl)) (by decide) (backOfS (W := 1) (rm7_4 l Z a0 hw [] b11 w1 b1 b12 p0s h45 n0 Z45 F12_47 F12_48 F12_49 F12_50 F12_51 g_b11) hZ45 (tw hw 42 rfl) (tw hw 33 rfl) (by decide) (by decide)) (g := (mkF m 84 #[iv p0s, iv p1s, iv p2s, rv b1, rv b6, iv 2, .unset, .unset, .unset, .unset, .unset] [(.int p0s), (.ref b12), (.ref b1), (.ref w1), (.ref b11), (.ref b11)])) rfl (by rw [hml]; rfl) (Steps.refl _) (a := b11) (argsL := [(.ref w1), (.ref b1), (.ref b12), (.int p0s)]) (rest := [(.ref b11)]) (lenOf pd_3 rfl) rfl (by show 2 * 0 + _ ≤ _; exact Nat.le_of_eq rfl) (hb hby at_84) (fun _ _ => ⟨rfl, e45, (by decide : 9 + 6 ≤ _), (by decide : 24 + 80 ≤ _)⟩)
    dsimp only [Pt.U, Pt.locs, Pt.cells, Pt.slots] at X46 l46 y46 z46 st46 hQ46 hS46 hgr46
    subst l46 y46 z46
    obtain ⟨Xw46, hSw46, hZ46, hown46⟩ := rebS hS45 (n1 := T45.heap.size) (by rw [e45]; exact hk45) X46 hS46 hgr46 hZ45 hown45
    obtain ⟨rfl, N46q, K46c, Fq46_0, Fq46_1, Fq46_2, Fq46_3, Fq46_4⟩ := hQ46
    have N46 := Fr.app N38 N46q
    have hk46 : T46.heap.size ≤ T46.heap.size := Nat.le_refl _
    obtain ⟨T52, h52, X52, e52, E52, A52, D52, -, st52⟩ := newO Xw46 hx hZ46 hown46 (tw hw 31 rfl) (tw hw 32 rfl) (tw hw 33 rfl) rfl (g := (mkF m 89 #[iv p0s, iv p1s, iv p2s, rv b1, rv b6, iv 2, rv b11, .unset, .unset, .unset, .unset] [])) rfl (hb hby at_89) (by decide) (by decide)
    obtain ⟨b16, g52⟩ : ∃ z, z = T46.heap.size := ⟨_, rfl⟩
    rw [← g52] at A52 D52 st52
    have Fn53 : Fld Z h52 b16 "com/example/clausewright/clausewright/Division" "kind" "Lcom/example/clausewright/clausewright/Division$Kind;" .null := D52 (Or.inr (tw hw 57 rfl)) (ty := (.object "com/example/clausewright/clausewright/Division$Kind")) (by decide)
    have Fn54 : Fld Z h52 b16 "com/example/clausewright/clausewright/Division" "number" "Ljava/lang/String;" .null := D52 (Or.inr (tw hw 59 rfl)) (ty := (.object "java/lang/String")) (by decide)
    have Fn55 : Fld Z h52 b16 "com/example/clausewright/clausewright/Division" "heading" "Ljava/lang/String;" .null := D52 (Or.inr (tw hw 61 rfl)) (ty := (.object "java/lang/String")) (by decide)
    have Fn56 : Fld Z h52 b16 "com/example/clausewright/clausewright/Division" "line" "I" (.int 0) := D52 (Or.inr (tw hw 63 rfl)) (ty := .int) (by decide)
    have O45 : Old Z n0 h45 := O39.ext E45
    have O46 : Old Z n0 T46.heap := O45.keep K46c (allS g_b11 all0)
    have O52 : Old Z n0 h52 := O46.ext E52
    obtain ⟨T57, X57, e57, st57⟩ := getS2 X52 hx hZ46 hown46 (host := "") (Or.inl (tw hw 64 rfl)) Via.refl e52 (Sg6.ext O52.2) (g := (mkF m 93 #[iv p0s, iv p1s, iv p2s, rv b1, rv b6, iv 2, rv b11, .unset, .unset, .unset, .unset] [(.ref b16), (.ref b16)])) rfl (hb hby at_93)
    have hkk52_14 : T46.heap.size ≤ h52.size := Nat.le_trans hk46 E52.1
    obtain ⟨b17, T58, h58, kq58, X58, e58, E58, hS58, hk58, hZ58, hown58, st58⟩ := ldcS (s := s) (vm0 := T46.vm) X57 hx hZ46 hown46 (tw hw 37 rfl) hwSA e57 hSw46 hkk52_14 (g := (mkF m 98 #[iv p0s, iv p1s, iv p2s, rv b1, rv b6, iv 2, rv b11, .unset, .unset, .unset, .unset] [(.ref b6), (.ref w2), (.ref b16), (.ref b16)])) rfl (hb hby at_98) (n := 0) (by decide) (by decide) (by decide) (by decide)
    have F15_60 : Exa Z h58 b16 "com/example/clausewright/clausewright/Division" := A52.ext E58
    have F15_61 : Fld Z h58 b16 "com/example/clausewright/clausewright/Division" "kind" "Lcom/example/clausewright/clausewright/Division$Kind;" .null := Fn53.ext E58
    have F15_62 : Fld Z h58 b16 "com/example/clausewright/clausewright/Division" "number" "Ljava/lang/String;" .null := Fn54.ext E58
    have F15_63 : Fld Z h58 b16 "com/example/clausewright/clausewright/Division" "heading" "Ljava/lang/String;" .null := Fn55.ext E58
    have F15_64 : Fld Z h58 b16 "com/example/clausewright/clausewright/Division" "line" "I" (.int 0) := Fn56.ext E58
    have Z46 : n0 ≤ T46.heap.size := Nat.le_trans Z45 K46c.1
    have g_b16 : n0 ≤ b16 := Nat.le_trans Z46 (Nat.le_of_eq g52.symm)
    have Z52 : n0 ≤ h52.size := Nat.le_trans Z46 E52.1
    have Z58 : n0 ≤ h58.size := Nat.le_trans Z52 E58.1
    obtain ⟨_, _, ⟨T59, L59, k59x, n59⟩, -, X59, hS59, hgr59, ⟨Lc59, hQ59, l59, y59, z59⟩, st59⟩ := X58.specialBackS hx (y := (⟨"com/example/clausewright/clausewright/Division", "<init>", "(Lcom/example/clausewright/clausewright/Division$Kind;Ljava/lang/String;Ljava/lang/String;I)V"⟩ : MethodName)) rfl hown58 (mvT hZ58 (tw hw 40 rfl)) (mvT hZ58 (tw hw 41 rfl)) (mvT hZ58 (tw hw 42 rfl)) (by decide) (backOfS (W := 1) (rm7_6 l Z a0 hw [] b16 w2 b6 b17 p1s h58 n0 Z58 F15_60 F15_61 F15_62 F15_63 F15_64 g_b16) hZ58 (tw hw 42 rfl) (tw hw 33 rfl) (by decide) (by decide)) (g := (mkF m 101 #[iv p0s, iv p1s, iv p2s, rv b1, rv b6, iv 2, rv b11, .unset, .unset, .unset, .unset] [(.int p1s), (.ref b17), (.ref b6), (.ref w2), (.ref b16), (.ref b16)])) rfl (by rw [hml]; rfl) (Steps.refl _) (a := b16) (argsL := [(.ref w2), (.ref b6), (.ref b17), (.int p1s)]) (rest := [(.ref b16)]) (lenOf pd_3 rfl) rfl (by show 2 * 0 + _ ≤ _; exact Nat.le_of_eq rfl) (hb hby at_101) (fun _ _ => ⟨rfl, e58, (by decide : 18 + 6 ≤ _), (by decide : 112 + 80 ≤ _)⟩)
    dsimp only [Pt.U, Pt.locs, Pt.cells, Pt.slots] at X59 l59 y59 z59 st59 hQ59 hS59 hgr59
    subst l59 y59 z59
    obtain ⟨Xw59, hSw59, hZ59, hown59⟩ := rebS hS58 (n1 := T58.heap.size) (by rw [e58]; exact hk58) X59 hS59 hgr59 hZ58 hown58
    obtain ⟨rfl, N59q, K59c, Fq59_0, Fq59_1, Fq59_2, Fq59_3, Fq59_4⟩ := hQ59
    have N59 := Fr.app N46 N59q
    have hk59 : T59.heap.size ≤ T59.heap.size := Nat.le_refl _
    obtain ⟨T65, h65, X65, e65, E65, A65, D65, -, st65⟩ := newO Xw59 hx hZ59 hown59 (tw hw 66 rfl) (tw hw 67 rfl) (tw hw 68 rfl) rfl (g := (mkF m 160 #[iv p0s, iv p1s, iv p2s, rv b1, rv b6, iv 2, rv b11, rv b16, .unset, .unset, .unset] [])) rfl (hb hby at_160) (by decide) (by decide)
    obtain ⟨b21, g65⟩ : ∃ z, z = T59.heap.size := ⟨_, rfl⟩
    rw [← g65] at A65 D65 st65
    have Fn66 : Fld Z h65 b21 "com/example/clausewright/clausewright/Difference" "kind" "Lcom/example/clausewright/clausewright/Difference$Kind;" .null := D65 (Or.inr (tw hw 79 rfl)) (ty := (.object "com/example/clausewright/clausewright/Difference$Kind")) (by decide)
    have Fn67 : Fld Z h65 b21 "com/example/clausewright/clausewright/Difference" "body" "Lcom/example/clausewright/clausewright/Division;" .null := D65 (Or.inr (tw hw 81 rfl)) (ty := (.object "com/example/clausewright/clausewright/Division")) (by decide)
    have Fn68 : Fld Z h65 b21 "com/example/clausewright/clausewright/Difference" "entry" "Lcom/example/clausewright/clausewright/Division;" .null := D65 (Or.inr (tw hw 83 rfl)) (ty := (.object "com/example/clausewright/clausewright/Division")) (by decide)
    have O58 : Old Z n0 h58 := O52.ext E58
    have O59 : Old Z n0 T59.heap := O58.keep K59c (allS g_b16 all0)
    have O65 : Old Z n0 h65 := O59.ext E65
    obtain ⟨T69, X69, e69, st69⟩ := getS2 X65 hx hZ59 hown59 (host := "") (Or.inl (tw hw 69 rfl)) Via.refl e65 (Sg8.ext O65.2) (g := (mkF m 164 #[iv p0s, iv p1s, iv p2s, rv b1, rv b6, iv 2, rv b11, rv b16, .unset, .unset, .unset] [(.ref b21), (.ref b21)])) rfl (hb hby at_164)
    have Z59 : n0 ≤ T59.heap.size := Nat.le_trans Z58 K59c.1
    have g_b21 : n0 ≤ b21 := Nat.le_trans Z59 (Nat.le_of_eq g65.symm)
    have Z65 : n0 ≤ h65.size := Nat.le_trans Z59 E65.1
    obtain ⟨_, _, ⟨T70, L70, k70x, n70⟩, -, X70, hS70, hgr70, ⟨Lc70, hQ70, l70, y70, z70⟩, st70⟩ := X69.specialBackS hx (y := (⟨"com/example/clausewright/clausewright/Difference", "<init>", "(Lcom/example/clausewright/clausewright/Difference$Kind;Lcom/example/clausewright/clausewright/Division;Lcom/example/clausewright/clausewright/Division;)V"⟩ : MethodName)) rfl hown59 (mvT hZ59 (tw hw 72 rfl)) (mvT hZ59 (tw hw 73 rfl)) (mvT hZ59 (tw hw 74 rfl)) (by decide) (backOfS (W := 1) (rm10_16 l Z a0 hw [] b21 w3 b11 b16 h65 n0 Z65 A65 Fn66 Fn67 Fn68 g_b21) hZ59 (tw hw 74 rfl) (tw hw 68 rfl) (by decide) (by decide)) (g := (mkF m 171 #[iv p0s, iv p1s, iv p2s, rv b1, rv b6, iv 2, rv b11, rv b16, .unset, .unset, .unset] [(.ref b16), (.ref b11), (.ref w3), (.ref b21), (.ref b21)])) rfl (by rw [hml]; rfl) (Steps.refl _) (a := b21) (argsL := [(.ref w3), (.ref b11), (.ref b16)]) (rest := [(.ref b21)]) (lenOf pd_4 rfl) rfl (by show 2 * 0 + _ ≤ _; exact Nat.le_of_eq rfl) (hb hby at_171) (fun _ _ => ⟨rfl, e69, (by decide : 25 + 2 ≤ _), (by decide : 195 + 20 ≤ _)⟩)
    dsimp only [Pt.U, Pt.locs, Pt.cells, Pt.slots] at X70 l70 y70 z70 st70 hQ70 hS70 hgr70
    subst l70 y70 z70
    have hkk65_17 : T59.heap.size ≤ h65.size := Nat.le_trans hk59 E65.1
    obtain ⟨Xw70, hSw70, hZ70, hown70⟩ := rebS hSw59 (n1 := T69.heap.size) (by rw [e69]; exact hkk65_17) X70 hS70 hgr70 hZ59 hown59
    obtain ⟨rfl, N70q, K70c, Fq70_0, Fq70_1, Fq70_2, Fq70_3⟩ := hQ70
    have N70 := Fr.app N59 N70q
    have hk70 : T70.heap.size ≤ T70.heap.size := Nat.le_refl _
    have F14_72 : Exa Z h52 b11 "com/example/clausewright/clausewright/Division" := Fq46_0.ext E52
    have F15_73 : Exa Z h58 b11 "com/example/clausewright/clausewright/Division" := F14_72.ext E58
    have F16_74 : Exa Z T59.heap b11 "com/example/clausewright/clausewright/Division" := F15_73.keep K59c
    have F17_75 : Exa Z h65 b11 "com/example/clausewright/clausewright/Division" := F16_74.ext E65
    have F18_76 : Exa Z T70.heap b11 "com/example/clausewright/clausewright/Division" := F17_75.keep K70c
    have F14_77 : Fld Z h52 b11 "com/example/clausewright/clausewright/Division" "number" "Ljava/lang/String;" (.ref b1) := Fq46_2.ext E52
    have F15_78 : Fld Z h58 b11 "com/example/clausewright/clausewright/Division" "number" "Ljava/lang/String;" (.ref b1) := F14_77.ext E58
    have lt_b11_12 : b11 < h45.size := Nat.lt_of_lt_of_le A39.lt E45.1
    have lt_b11_13 : b11 < T46.heap.size := Nat.lt_of_lt_of_le lt_b11_12 K46c.1
    have F16_79 : Fld Z T59.heap b11 "com/example/clausewright/clausewright/Division" "number" "Ljava/lang/String;" (.ref b1) := F15_78.keep K59c (ninS (Nat.ne_of_lt (Nat.lt_of_lt_of_le lt_b11_13 (Nat.le_of_eq g52.symm))) nin0)
    have F17_80 : Fld Z h65 b11 "com/example/clausewright/clausewright/Division" "number" "Ljava/lang/String;" (.ref b1) := F16_79.ext E65
    have lt_b11_14 : b11 < h52.size := Nat.lt_of_lt_of_le lt_b11_13 E52.1
    have lt_b11_15 : b11 < h58.size := Nat.lt_of_lt_of_le lt_b11_14 E58.1
    have lt_b11_16 : b11 < T59.heap.size := Nat.lt_of_lt_of_le lt_b11_15 K59c.1
    have F18_81 : Fld Z T70.heap b11 "com/example/clausewright/clausewright/Division" "number" "Ljava/lang/String;" (.ref b1) := F17_80.keep K70c (ninS (Nat.ne_of_lt (Nat.lt_of_lt_of_le lt_b11_16 (Nat.le_of_eq g65.symm))) nin0)
    have Z70 : n0 ≤ T70.heap.size := Nat.le_trans Z65 K70c.1
    obtain ⟨cq71, kq71, q71a, q71b, q71c⟩ := isOf hZ70 rfl Fq70_0
    obtain ⟨_, _, ⟨T71, L71, k71x, n71⟩, -, X71, ⟨Lc71, hQ71, l71, y71, z71⟩, st71⟩ := Xw70.virtualBack hx (y := (⟨"com/example/clausewright/clausewright/Difference", "number", "()Ljava/lang/String;"⟩ : MethodName)) (z := (⟨"com/example/clausewright/clausewright/Difference", "number", "()Ljava/lang/String;"⟩ : MethodName)) hown70 (mvT hZ70 (tw hw 84 rfl)) (mvT hZ70 (tw hw 85 rfl)) (notFace_of_selects (args := #[]) (mvT hZ70 (tw hw 87 rfl))) (mvT hZ70 (tw hw 87 rfl)) (mvT hZ70 (tw hw 86 rfl)) (by decide) (backOf (W := 0) (rm11_10 l Z a0 hw [] b21 b11 b1 T70.heap n0 Z70 Fq70_2 F18_76 F18_81) hZ70 (tw hw 88 rfl) (tw hw 68 rfl) (by decide) (by decide)) q71a q71c (g := (mkF m 181 #[iv p0s, iv p1s, iv p2s, rv b1, rv b6, iv 2, rv b11, rv b16, rv b21, rv b1, .unset] [(.ref b21)])) rfl (by rw [hml]; rfl) (Steps.refl _) (argsL := []) (rest := []) (lenOf pd_5 rfl) rfl (by show 2 * 0 + _ ≤ _; exact Nat.le_of_eq rfl) (hb hby at_181) (fun _ _ => ⟨rfl, rfl, (by decide : 27 + 0 ≤ _), (by decide : 215 + 0 ≤ _)⟩)
    dsimp only [Pt.U, Pt.locs, Pt.cells, Pt.slots] at X71 l71 y71 z71 st71 hQ71
    subst l71 y71 z71
    obtain ⟨rfl, N71q, e71⟩ := hQ71
    have N71 := Fr.app N70 N71q
    have F6_82 : Exa Z h20 b1 "java/lang/String" := Fx19.ext E20
    have F7_83 : Exa Z h23 b1 "java/lang/String" := F6_82.ext E23
    have F8_84 : Exa Z h25 b1 "java/lang/String" := F7_83.wr W25
    have F9_85 : Exa Z h27 b1 "java/lang/String" := F8_84.wr W27
    have F10_86 : Exa Z T38.heap b1 "java/lang/String" := F9_85.keep K38c
    have F11_87 : Exa Z h39 b1 "java/lang/String" := F10_86.ext E39
    have F12_88 : Exa Z h45 b1 "java/lang/String" := F11_87.ext E45
    have F13_89 : Exa Z T46.heap b1 "java/lang/String" := F12_88.keep K46c
    have F14_90 : Exa Z h52 b1 "java/lang/String" := F13_89.ext E52
    have F15_91 : Exa Z h58 b1 "java/lang/String" := F14_90.ext E58
    have F16_92 : Exa Z T59.heap b1 "java/lang/String" := F15_91.keep K59c
    have F17_93 : Exa Z h65 b1 "java/lang/String" := F16_92.ext E65
    have F18_94 : Exa Z T70.heap b1 "java/lang/String" := F17_93.keep K70c
    obtain ⟨cq95, kq95, q95a, q95b, q95c⟩ := isOf hZ70 e71 F18_94
    obtain ⟨_, _, ⟨T95, L95, k95x, n95⟩, -, X95, ⟨Lc95, hQ95, l95, y95, z95⟩, st95⟩ := X71.virtualBack hx (y := (⟨"java/lang/String", "equals", "(Ljava/lang/Object;)Z"⟩ : MethodName)) (z := (⟨"java/lang/String", "equals", "(Ljava/lang/Object;)Z"⟩ : MethodName)) hown70 (mvT hZ70 (tw hw 94 rfl)) (mvT hZ70 (tw hw 95 rfl)) (notFace_of_selects (args := #[]) (mvT hZ70 (tw hw 97 rfl))) (mvT hZ70 (tw hw 97 rfl)) (mvT hZ70 (tw hw 96 rfl)) (by decide) (backOf (W := 0) (rm13_11 l Z a0 hw [] b1 T70.heap n0 Z70 ) hZ70 (tw hw 98 rfl) (tw hw 2 rfl) (by decide) (by decide)) q95a q95c (g := (mkF m 195 #[iv p0s, iv p1s, iv p2s, rv b1, rv b6, iv 2, rv b11, rv b16, rv b21, rv b1, rv b1] [(.ref b1), (.ref b1)])) rfl (by rw [hml]; rfl) (Steps.refl _) (argsL := [(.ref b1)]) (rest := []) (lenOf pd_6 rfl) rfl (by show 2 * 0 + _ ≤ _; exact Nat.le_of_eq rfl) (hb hby at_195) (fun _ _ => ⟨rfl, e71, (by decide : 27 + 0 ≤ _), (by decide : 215 + 0 ≤ _)⟩)
    dsimp only [Pt.U, Pt.locs, Pt.cells, Pt.slots] at X95 l95 y95 z95 st95 hQ95
    subst l95 y95 z95
    obtain ⟨rfl, N95q, e95⟩ := hQ95
    have N95 := Fr.app N71 N95q
    obtain ⟨fs, hr, hrun, hended, hRW⟩ := X95.leaveW hSw70 (by rw [e95]; exact hk70) (v := some (.int (1 : Int32))) (fun h => by rw [hre] at h; cases h)
    refine ⟨_, _, pre0 _ (pre1 _ (?_)), hrun, hended, _, _, rfl, ?_, hRW.1, hRW.2.1, hRW.2.2.1, hRW.2.2.2.mono (by decide) (by decide)⟩
    · show SF p e below T38 (mkF m 71 #[iv p0s, iv p1s, iv p2s, rv b1, rv b6, .unset, .unset, .unset, .unset, .unset, .unset] [(.int ((p2s &&& (2147483647 : Int32)) % (3 : Int32)))]) _
      rw [hc1]
      show SF p e below T38 (mkF m 71 #[iv p0s, iv p1s, iv p2s, rv b1, rv b6, .unset, .unset, .unset, .unset, .unset, .unset] [(.int 2)]) _
      refine XS.istore X38.here hx rfl (hb hby at_71) rfl (l' := #[iv p0s, iv p1s, iv p2s, rv b1, rv b6, iv 2, .unset, .unset, .unset, .unset, .unset]) rfl ?_
      show SF p e below T38 (mkF m 73 #[iv p0s, iv p1s, iv p2s, rv b1, rv b6, iv 2, .unset, .unset, .unset, .unset, .unset] []) _
      refine st39 _ ?_
      show SF p e below T39 (mkF m 76 #[iv p0s, iv p1s, iv p2s, rv b1, rv b6, iv 2, .unset, .unset, .unset, .unset, .unset] [(.ref b11)]) _
      refine XS.dup X39.here hx rfl (hb hby at_76) rfl rfl ?_
      show SF p e below T39 (mkF m 77 #[iv p0s, iv p1s, iv p2s, rv b1, rv b6, iv 2, .unset, .unset, .unset, .unset, .unset] [(.ref b11), (.ref b11)]) _
      refine st44 _ ?_
      show SF p e below T44 (mkF m 80 #[iv p0s, iv p1s, iv p2s, rv b1, rv b6, iv 2, .unset, .unset, .unset, .unset, .unset] [(.ref w1), (.ref b11), (.ref b11)]) _
      refine XS.aloadN X44.here hx rfl (hb hby at_80) rfl rfl ?_
      show SF p e below T44 (mkF m 81 #[iv p0s, iv p1s, iv p2s, rv b1, rv b6, iv 2, .unset, .unset, .unset, .unset, .unset] [(.ref b1), (.ref w1), (.ref b11), (.ref b11)]) _
      refine st45 _ ?_
      show SF p e below T45 (mkF m 83 #[iv p0s, iv p1s, iv p2s, rv b1, rv b6, iv 2, .unset, .unset, .unset, .unset, .unset] [(.ref b12), (.ref b1), (.ref w1), (.ref b11), (.ref b11)]) _
      refine XS.iloadN X45.here hx rfl (hb hby at_83) rfl ?_
      show SF p e below T45 (mkF m 84 #[iv p0s, iv p1s, iv p2s, rv b1, rv b6, iv 2, .unset, .unset, .unset, .unset, .unset] [(.int p0s), (.ref b12), (.ref b1), (.ref w1), (.ref b11), (.ref b11)]) _
      refine st46.trans ?_
      show SF p e below T46 (mkF m 87 #[iv p0s, iv p1s, iv p2s, rv b1, rv b6, iv 2, .unset, .unset, .unset, .unset, .unset] [(.ref b11)]) _
      refine XS.astore Xw46.here hx rfl (hb hby at_87) rfl rfl (l' := #[iv p0s, iv p1s, iv p2s, rv b1, rv b6, iv 2, rv b11, .unset, .unset, .unset, .unset]) rfl ?_
      show SF p e below T46 (mkF m 89 #[iv p0s, iv p1s, iv p2s, rv b1, rv b6, iv 2, rv b11, .unset, .unset, .unset, .unset] []) _
      refine st52 _ ?_
      show SF p e below T52 (mkF m 92 #[iv p0s, iv p1s, iv p2s, rv b1, rv b6, iv 2, rv b11, .unset, .unset, .unset, .unset] [(.ref b16)]) _
      refine XS.dup X52.here hx rfl (hb hby at_92) rfl rfl ?_
      show SF p e below T52 (mkF m 93 #[iv p0s, iv p1s, iv p2s, rv b1, rv b6, iv 2, rv b11, .unset, .unset, .unset, .unset] [(.ref b16), (.ref b16)]) _
      refine st57 _ ?_
      show SF p e below T57 (mkF m 96 #[iv p0s, iv p1s, iv p2s, rv b1, rv b6, iv 2, rv b11, .unset, .unset, .unset, .unset] [(.ref w2), (.ref b16), (.ref b16)]) _
      refine XS.aload X57.here hx rfl (hb hby at_96) rfl rfl ?_
      show SF p e below T57 (mkF m 98 #[iv p0s, iv p1s, iv p2s, rv b1, rv b6, iv 2, rv b11, .unset, .unset, .unset, .unset] [(.ref b6), (.ref w2), (.ref b16), (.ref b16)]) _
      refine st58 _ ?_
      show SF p e below T58 (mkF m 100 #[iv p0s, iv p1s, iv p2s, rv b1, rv b6, iv 2, rv b11, .unset, .unset, .unset, .unset] [(.ref b17), (.ref b6), (.ref w2), (.ref b16), (.ref b16)]) _
      refine XS.iloadN X58.here hx rfl (hb hby at_100) rfl ?_
      show SF p e below T58 (mkF m 101 #[iv p0s, iv p1s, iv p2s, rv b1, rv b6, iv 2, rv b11, .unset, .unset, .unset, .unset] [(.int p1s), (.ref b17), (.ref b6), (.ref w2), (.ref b16), (.ref b16)]) _
      refine st59.trans ?_
      show SF p e below T59 (mkF m 104 #[iv p0s, iv p1s, iv p2s, rv b1, rv b6, iv 2, rv b11, .unset, .unset, .unset, .unset] [(.ref b16)]) _
      refine XS.astore Xw59.here hx rfl (hb hby at_104) rfl rfl (l' := #[iv p0s, iv p1s, iv p2s, rv b1, rv b6, iv 2, rv b11, rv b16, .unset, .unset, .unset]) rfl ?_
      refine XS.iload Xw59.here hx rfl (hb hby at_106) rfl ?_
      show SF p e below T59 (mkF m 108 #[iv p0s, iv p1s, iv p2s, rv b1, rv b6, iv 2, rv b11, rv b16, .unset, .unset, .unset] [(.int 2)]) _
      refine XS.ifYes Xw59.here hx rfl (pc0 := 108) (pc' := 132) rfl (hb hby at_108) rfl ((if0 _ _).trans (feq (by decide : ¬ ((2 : Int32) = (0 : Int32)))).2) (by decide) (by decide) ?_
      show SF p e below T59 (mkF m 132 #[iv p0s, iv p1s, iv p2s, rv b1, rv b6, iv 2, rv b11, rv b16, .unset, .unset, .unset] []) _
      refine XS.iload Xw59.here hx rfl (hb hby at_132) rfl ?_
      refine XS.iconst Xw59.here hx rfl (hb hby at_134) ?_
      show SF p e below T59 (mkF m 135 #[iv p0s, iv p1s, iv p2s, rv b1, rv b6, iv 2, rv b11, rv b16, .unset, .unset, .unset] [(.int 1), (.int 2)]) _
      refine XS.icmpYes Xw59.here hx rfl (pc0 := 135) (pc' := 160) rfl (hb hby at_135) rfl (feq (by decide : ¬ ((2 : Int32) = (1 : Int32)))).2 (by decide) (by decide) ?_
      show SF p e below T59 (mkF m 160 #[iv p0s, iv p1s, iv p2s, rv b1, rv b6, iv 2, rv b11, rv b16, .unset, .unset, .unset] []) _
      refine st65 _ ?_
      show SF p e below T65 (mkF m 163 #[iv p0s, iv p1s, iv p2s, rv b1, rv b6, iv 2, rv b11, rv b16, .unset, .unset, .unset] [(.ref b21)]) _
      refine XS.dup X65.here hx rfl (hb hby at_163) rfl rfl ?_
      show SF p e below T65 (mkF m 164 #[iv p0s, iv p1s, iv p2s, rv b1, rv b6, iv 2, rv b11, rv b16, .unset, .unset, .unset] [(.ref b21), (.ref b21)]) _
      refine st69 _ ?_
      show SF p e below T69 (mkF m 167 #[iv p0s, iv p1s, iv p2s, rv b1, rv b6, iv 2, rv b11, rv b16, .unset, .unset, .unset] [(.ref w3), (.ref b21), (.ref b21)]) _
      refine XS.aload X69.here hx rfl (hb hby at_167) rfl rfl ?_
      refine XS.aload X69.here hx rfl (hb hby at_169) rfl rfl ?_
      show SF p e below T69 (mkF m 171 #[iv p0s, iv p1s, iv p2s, rv b1, rv b6, iv 2, rv b11, rv b16, .unset, .unset, .unset] [(.ref b16), (.ref b11), (.ref w3), (.ref b21), (.ref b21)]) _
      refine st70.trans ?_
      show SF p e below T70 (mkF m 174 #[iv p0s, iv p1s, iv p2s, rv b1, rv b6, iv 2, rv b11, rv b16, .unset, .unset, .unset] [(.ref b21)]) _
      refine XS.astore Xw70.here hx rfl (hb hby at_174) rfl rfl (l' := #[iv p0s, iv p1s, iv p2s, rv b1, rv b6, iv 2, rv b11, rv b16, rv b21, .unset, .unset]) rfl ?_
      refine XS.aloadN Xw70.here hx rfl (hb hby at_176) rfl rfl ?_
      show SF p e below T70 (mkF m 177 #[iv p0s, iv p1s, iv p2s, rv b1, rv b6, iv 2, rv b11, rv b16, rv b21, .unset, .unset] [(.ref b1)]) _
      refine XS.astore Xw70.here hx rfl (hb hby at_177) rfl rfl (l' := #[iv p0s, iv p1s, iv p2s, rv b1, rv b6, iv 2, rv b11, rv b16, rv b21, rv b1, .unset]) rfl ?_
      refine XS.aload Xw70.here hx rfl (hb hby at_179) rfl rfl ?_
      show SF p e below T70 (mkF m 181 #[iv p0s, iv p1s, iv p2s, rv b1, rv b6, iv 2, rv b11, rv b16, rv b21, rv b1, .unset] [(.ref b21)]) _
      refine st71.trans ?_
      show SF p e below T71 (mkF m 184 #[iv p0s, iv p1s, iv p2s, rv b1, rv b6, iv 2, rv b11, rv b16, rv b21, rv b1, .unset] [(.ref b1)]) _
      refine XS.astore X71.here hx rfl (hb hby at_184) rfl rfl (l' := #[iv p0s, iv p1s, iv p2s, rv b1, rv b6, iv 2, rv b11, rv b16, rv b21, rv b1, rv b1]) rfl ?_
      refine XS.aload X71.here hx rfl (hb hby at_186) rfl rfl ?_
      show SF p e below T71 (mkF m 188 #[iv p0s, iv p1s, iv p2s, rv b1, rv b6, iv 2, rv b11, rv b16, rv b21, rv b1, rv b1] [(.ref b1)]) _
      refine XS.ifnullNo X71.here hx rfl (hb hby at_188) rfl ?_
      show SF p e below T71 (mkF m 191 #[iv p0s, iv p1s, iv p2s, rv b1, rv b6, iv 2, rv b11, rv b16, rv b21, rv b1, rv b1] []) _
      refine XS.aload X71.here hx rfl (hb hby at_191) rfl rfl ?_
      refine XS.aload X71.here hx rfl (hb hby at_193) rfl rfl ?_
      show SF p e below T71 (mkF m 195 #[iv p0s, iv p1s, iv p2s, rv b1, rv b6, iv 2, rv b11, rv b16, rv b21, rv b1, rv b1] [(.ref b1), (.ref b1)]) _
      refine st95.trans ?_
      show SF p e below T95 (mkF m 198 #[iv p0s, iv p1s, iv p2s, rv b1, rv b6, iv 2, rv b11, rv b16, rv b21, rv b1, rv b1] [(.int 1)]) _
      refine XS.ifNo X95.here hx rfl (hb hby at_198) rfl ((if0 _ _).trans (feq (by decide : ¬ ((1 : Int32) = (0 : Int32)))).1) ?_
      show SF p e below T95 (mkF m 201 #[iv p0s, iv p1s, iv p2s, rv b1, rv b6, iv 2, rv b11, rv b16, rv b21, rv b1, rv b1] []) _
      refine XS.iconst X95.here hx rfl (hb hby at_201) ?_
      refine XS.goto X95.here hx rfl (pc0 := 202) (pc' := 206) rfl (hb hby at_202) (by decide) (by decide) ?_
      show SF p e below T95 (mkF m 206 #[iv p0s, iv p1s, iv p2s, rv b1, rv b6, iv 2, rv b11, rv b16, rv b21, rv b1, rv b1] [(.int 1)]) _
      exact retN X95 hx (t := .boolean) hre (by simp) (hb hby at_206) hr
    · exact ⟨rfl, N95⟩
set_option maxRecDepth 65536 in
set_option maxHeartbeats 40000000 in
theorem comes_1 {Post : Tables → Env → Array Value → State → Outcome → State → Prop} (hpost : ∀ tb e args s v u, (limb_1_1.after args s (.returned v) u = true ∧ limb_1_2.after args s (.returned v) u = true ∧ True) → ReturnedEndW s (.returned v) u (Jvm.fieldLocs frame_1_writes args s ++ Jvm.arrayLocs frame_1_arrays args s ++ Jvm.staticLocs frame_1_statics s) 40 5312 → Post tb e args s (.returned v) u) :
    ArmFor flags0 classFile x code maxLocals ret World_1 tables_1 room_1 Calls_1 rest_1 Pre_1 Post := by
  intro l hfl _ _ p e ha hc hk s m args below hf hA hF happ hP
  obtain ⟨hcalls, hrest, hpre⟩ := hP
  obtain ⟨-, -, -, hnamed, -, -, -, hat⟩ := (Spec.applies_iff hf).mp happ
  obtain ⟨hg, hn⟩ := and_e (Cond.before_iff.mp (show (Jvm.Cond.and given_1 narrow_1).before args s = true from hpre))
  obtain ⟨gv0, gr0⟩ := and_e hg
  obtain ⟨gv1, gr1⟩ := and_e gr0
  obtain ⟨gv2, gr2⟩ := and_e gr1
  have gv3 := gr2
  obtain ⟨av0, av1, av2, rfl⟩ : ∃ av0 av1 av2 : Value, args = #[av0, av1, av2] := by
    have hs : args.size = 3 := by simpa [Cond.value, given_1] using gv0
    obtain ⟨L⟩ := args
    match L, hs with
    | [av0, av1, av2], _ => exact ⟨av0, av1, av2, rfl⟩
  have hw := fun d (hd : d ∈ tables_1) => atoms_spec (ws := Jvm.Cond.code x code maxLocals ret :: tables_1) hat d (List.mem_cons_of_mem _ hd)
  have hfit : Fit s := fun {y c} hc i hi => by
    obtain ⟨ha, rfl⟩ := Array.getElem?_eq_some_iff.mp hc
    have q := List.all_eq_true.mp ((Array.all_eq_true_iff_forall_mem.mp hF) _ (Array.getElem_mem ha)) i (List.mem_range.mpr hi)
    simpa [Array.getElem?_eq_getElem hi] using q
  obtain ⟨hsets, hown0⟩ := atoms_of _ (rest_1_c_eq ▸ (show rest_1_c.before _ s = true from hrest))
  obtain ⟨p0s, ei0⟩ := is_v gv1
  obtain rfl : av0 = (.int p0s) := Option.some.inj ei0
  obtain ⟨p1s, ei1⟩ := is_v gv2
  obtain rfl : av1 = (.int p1s) := Option.some.inj ei1
  obtain ⟨p2s, ei2⟩ := is_v gv3
  obtain rfl : av2 = (.int p2s) := Option.some.inj ei2
  obtain ⟨nv0, nr0⟩ := and_e hn
  obtain ⟨nv1, nr1⟩ := and_e nr0
  obtain ⟨nv2, nr2⟩ := and_e nr1
  obtain ⟨nv3, nr3⟩ := and_e nr2
  obtain ⟨GC, evGC⟩ := is_v (Cond.before_iff.mp (hsets _ (List.mem_of_getElem? (i := 1) rfl)))
  have Sg0 : Sta s s.heap "java/lang/String" "COMPACT_STRINGS" "Z" (.int GC) := Sta.start evGC (Or.inl (hsets _ (List.mem_of_getElem? (i := 0) rfl)))
  obtain ⟨GF, evGF, rGF⟩ := isR_v (Cond.before_iff.mp (hsets _ (List.mem_of_getElem? (i := 8) rfl)))
  have Sg1 : Sta s s.heap "jdk/internal/util/Preconditions" "SIOOBE_FORMATTER" "Ljava/util/function/BiFunction;" GF := Sta.start evGF (Or.inl (hsets _ (List.mem_of_getElem? (i := 7) rfl)))
  have nzGC : ¬ (GC = (0 : Int32)) := gotF (Cond.eq_ints evGC (Term.int_eval (0))) (not_v (Cond.before_iff.mp (hsets _ (List.mem_of_getElem? (i := 2) rfl))))
  obtain ⟨w1, ev_w1⟩ := exa_v nv0
  have Sg4 : Sta s s.heap "com/example/clausewright/clausewright/Division$Kind" "ARTICLE" "Lcom/example/clausewright/clausewright/Division$Kind;" (.ref w1) := Sta.start ev_w1 (Or.inr ⟨(tw hw 35 rfl), (tw hw 36 rfl)⟩)
  have E_w1 : Exa s s.heap w1 "com/example/clausewright/clausewright/Division$Kind" := Exa.start ev_w1 nv0
  obtain ⟨w2, ev_w2⟩ := exa_v nv1
  have Sg6 : Sta s s.heap "com/example/clausewright/clausewright/Division$Kind" "SECTION" "Lcom/example/clausewright/clausewright/Division$Kind;" (.ref w2) := Sta.start ev_w2 (Or.inr ⟨(tw hw 35 rfl), (tw hw 65 rfl)⟩)
  have E_w2 : Exa s s.heap w2 "com/example/clausewright/clausewright/Division$Kind" := Exa.start ev_w2 nv1
  obtain ⟨w3, ev_w3⟩ := exa_v nv2
  have Sg8 : Sta s s.heap "com/example/clausewright/clausewright/Difference$Kind" "HEADING_DIFFERS" "Lcom/example/clausewright/clausewright/Difference$Kind;" (.ref w3) := Sta.start ev_w3 (Or.inr ⟨(tw hw 70 rfl), (tw hw 71 rfl)⟩)
  have E_w3 : Exa s s.heap w3 "com/example/clausewright/clausewright/Difference$Kind" := Exa.start ev_w3 nv2
  obtain ⟨w4, ev_w4⟩ := exa_v nv3
  have Sg10 : Sta s s.heap "com/example/clausewright/clausewright/Difference$Kind" "MISSING_FROM_TOC" "Lcom/example/clausewright/clausewright/Difference$Kind;" (.ref w4) := Sta.start ev_w4 (Or.inr ⟨(tw hw 70 rfl), (tw hw 100 rfl)⟩)
  have E_w4 : Exa s s.heap w4 "com/example/clausewright/clausewright/Difference$Kind" := Exa.start ev_w4 nv3
  obtain ⟨w5, ev_w5⟩ := exa_v nr3
  have Sg12 : Sta s s.heap "com/example/clausewright/clausewright/Difference$Kind" "MISSING_FROM_BODY" "Lcom/example/clausewright/clausewright/Difference$Kind;" (.ref w5) := Sta.start ev_w5 (Or.inr ⟨(tw hw 70 rfl), (tw hw 102 rfl)⟩)
  have E_w5 : Exa s s.heap w5 "com/example/clausewright/clausewright/Difference$Kind" := Exa.start ev_w5 nr3
  have O0 := Old.start s
  obtain ⟨n, o, h1, h2, h3, _, L, rfl, ⟨rfl, N⟩, hq⟩ := rm0 l s _ hw tables_1 p0s p1s p2s GC GF w1 w2 w3 w4 w5 s.heap s.heap.size (Nat.le_refl _) O0 Sg0 Sg1 rGF nzGC Sg4 E_w1 Sg6 E_w2 Sg8 E_w3 Sg10 E_w4 Sg12 E_w5 p e ha hc hk s m _ below hf ((Spec.applies_iff_loose hf).mp happ).1 ⟨rfl, State.Warmed39.refl s, rfl⟩ trivial
  refine ⟨n, _, h1, h2, h3, hpost _ _ _ _ _ _ ⟨Cond.after_iff.mpr rfl, Cond.after_iff.mpr (eq_i res_at (Term.int_eval (1)) rfl), trivial⟩ ⟨hq.1, hq.2.1, hq.2.2.1, (hq.2.2.2.sift fun y hy => Or.inr (N y hy)).mono (by decide) (by decide)⟩⟩
theorem main_1_1 : Claimed_1_1 := comes_1 fun _ _ _ _ _ _ h hF => ⟨h.1, hF⟩
theorem main_1_2 : Claimed_1_2 := comes_1 fun _ _ _ _ _ _ h hF => ⟨h.2.1, hF⟩
end Jvm.Pilot.@@N@@
namespace Jvm.Pilot.@@N@@
open Jvm Jvm.ClassFile Sem Op Lib Jvm.Free Jvm.Stand Jvm.Pilot.@@N@@.Jvm.D
/-! MADE BY PROGRAM (witnessworld.py) out of the Statement's table words and the real class files: 26 classes; the members and pool entries that the words name. The judged class is class 1, her method 1. -/
namespace start1
open Jvm.ClassFile
def u (s : String) : CpInfo := .utf8 (stringToUtf16 s)
/-- a pool by its gaps: so many unusable entries, then the entry; so many at the end -/
def gap : Nat → List CpInfo → List CpInfo
  | 0, r => r
  | n + 1, r => .unusable :: gap n r
def poolList (es : List (Nat × CpInfo)) (last : Nat) : List CpInfo := es.foldr (fun e r => gap e.1 (e.2 :: r)) (gap last [])
def pool (es : List (Nat × CpInfo)) (last : Nat) : Array CpInfo := ⟨poolList es last⟩
def fileOf (pool : Array CpInfo) (this : Nat) (attrs : Array Attribute := #[]) (ms : Array MethodInfo := #[]) (fl : Nat := 33) (sup : Nat := 0) (ifs : Array Nat := #[]) (fds : Array FieldInfo := #[]) : ClassFile where
  minorVersion := 0
  majorVersion := 65
  constantPool := pool
  accessFlags := fl
  thisClass := this
  superClass := sup
  interfaces := ifs
  fields := fds
  methods := ms
  attributes := attrs
def plain (name : String) (sup : Option ClassId) : Class where
  name := name
  kind := .ordinary
  loader := none
  accessFlags := 33
  super := sup
  interfaces := #[]
  cf := none
  fields := #[]
  methods := #[]
  instanceTypes := #[]
  staticTypes := #[]
  resolved := #[]
  callSites := []
  init := .initialized
  statics := none
  mirror := none

def pool0 : Array CpInfo := pool [(5, u "<init>"), (0, u "()V"), (1, .class_ 10), (1, u "java/lang/Object")] 113

def k0c0 : Code := { maxStack := 0, maxLocals := 1, code := object_method_1_code, exceptionTable := #[], attributes := #[] }
def k0m0 : Method := { name := "<init>", desc := "()V", sig := { parameters := [], returnType := none }, accessFlags := 1, code := some k0c0 }
/-- java/lang/Object -/
def k0 : Class := { plain "java/lang/Object" none with
  accessFlags := 33
  interfaces := #[]
  cf := some (fileOf pool0 8 #[] #[{ accessFlags := 1, nameIndex := 5, descriptorIndex := 6, attributes := #[] }] 33 0 #[] #[])
  fields := #[]
  methods := #[k0m0]
  instanceTypes := #[]
  staticTypes := #[]
  resolved := Array.replicate 124 none
  statics := none }

def pool1 : Array CpInfo := pool [(2, .class_ 4), (1, u "java/lang/Object"), (0, u "<init>"), (0, u "()V"), (0, .class_ 8), (0, u "java/lang/String"), (0, .methodref 7 10), (0, .nameAndType 5 11), (0, u "([C)V"), (0, .integer 2147483647), (0, .class_ 14), (0, u "com/example/clausewright/clausewright/Division"), (0, .fieldref 16 17), (0, .class_ 18), (0, .nameAndType 19 20), (0, u "com/example/clausewright/clausewright/Division$Kind"), (0, u "ARTICLE"), (0, u "Lcom/example/clausewright/clausewright/Division$Kind;"), (0, .string 22), (0, u ""), (0, .methodref 13 24), (0, .nameAndType 5 25), (0, u "(Lcom/example/clausewright/clausewright/Division$Kind;Ljava/lang/String;Ljava/lang/String;I)V"), (0, .fieldref 16 27), (0, .nameAndType 28 20), (0, u "SECTION"), (0, .class_ 30), (0, u "com/example/clausewright/clausewright/Difference"), (0, .fieldref 32 33), (0, .class_ 34), (0, .nameAndType 35 36), (0, u "com/example/clausewright/clausewright/Difference$Kind"), (0, u "MISSING_FROM_TOC"), (0, u "Lcom/example/clausewright/clausewright/Difference$Kind;"), (0, .methodref 29 38), (0, .nameAndType 5 39), (0, u "(Lcom/example/clausewright/clausewright/Difference$Kind;Lcom/example/clausewright/clausewright/Division;Lcom/example/clausewright/clausewright/Division;)V"), (0, .fieldref 32 41), (0, .nameAndType 42 36), (0, u "MISSING_FROM_BODY"), (0, .fieldref 32 44), (0, .nameAndType 45 36), (0, u "HEADING_DIFFERS"), (0, .methodref 29 47), (0, .nameAndType 48 49), (0, u "number"), (0, u "()Ljava/lang/String;"), (0, .methodref 7 51), (0, .nameAndType 52 53), (0, u "equals"), (0, u "(Ljava/lang/Object;)Z"), (0, .class_ 55), (0, u "com/example/clausewright/clausewright/DifferenceNumberPinLaw"), (2, u "law"), (0, u "(III)Z")] 5

def k1m0 : Method := { name := "<init>", desc := "()V", sig := { parameters := [], returnType := none }, accessFlags := 1, code := none }
def k1c1 : Code := { maxStack := 7, maxLocals := 11, code := code, exceptionTable := #[], attributes := #[] }
def k1m1 : Method := { name := "law", desc := "(III)Z", sig := { parameters := [.int, .int, .int], returnType := some .boolean }, accessFlags := 9, code := some k1c1 }
/-- com/example/clausewright/clausewright/DifferenceNumberPinLaw -/
def k1 : Class := { plain "com/example/clausewright/clausewright/DifferenceNumberPinLaw" (some 0) with
  accessFlags := 49
  interfaces := #[]
  cf := some (fileOf pool1 54 #[] #[{ accessFlags := 1, nameIndex := 5, descriptorIndex := 6, attributes := #[] }, { accessFlags := 9, nameIndex := 58, descriptorIndex := 59, attributes := #[] }] 49 2 #[] #[])
  fields := #[]
  methods := #[k1m0, k1m1]
  instanceTypes := #[]
  staticTypes := #[]
  resolved := Array.replicate 65 none
  statics := none }

def pool2 : Array CpInfo := pool [(1, .class_ 2), (0, u "java/io/Serializable"), (0, .class_ 4), (0, u "java/lang/Object")] 2

/-- java/io/Serializable -/
def k2 : Class := { plain "java/io/Serializable" (some 0) with
  accessFlags := 1537
  interfaces := #[]
  cf := some (fileOf pool2 1 #[] #[] 1537 3 #[] #[])
  fields := #[]
  methods := #[]
  instanceTypes := #[]
  staticTypes := #[]
  resolved := Array.replicate 7 none
  statics := none }

def pool3 : Array CpInfo := pool [(1, .class_ 2), (0, u "java/lang/Comparable"), (0, .class_ 4), (0, u "java/lang/Object")] 7

/-- java/lang/Comparable -/
def k3 : Class := { plain "java/lang/Comparable" (some 0) with
  accessFlags := 1537
  interfaces := #[]
  cf := some (fileOf pool3 1 #[] #[] 1537 3 #[] #[])
  fields := #[]
  methods := #[]
  instanceTypes := #[]
  staticTypes := #[]
  resolved := Array.replicate 12 none
  statics := none }

def pool4 : Array CpInfo := pool [(2, .class_ 4), (1, u "java/lang/CharSequence"), (42, .class_ 48), (0, u "java/lang/CharSequence$1CodePointIterator"), (10, .class_ 60), (0, u "java/lang/CharSequence$1CharIterator"), (5, .class_ 67), (0, u "java/lang/Object")] 63

/-- java/lang/CharSequence -/
def k4 : Class := { plain "java/lang/CharSequence" (some 0) with
  accessFlags := 1537
  interfaces := #[]
  cf := some (fileOf pool4 2 #[.nestMembers #[47, 59]] #[] 1537 66 #[] #[])
  fields := #[]
  methods := #[]
  instanceTypes := #[]
  staticTypes := #[]
  resolved := Array.replicate 131 none
  statics := none }

def pool5 : Array CpInfo := pool [(1, .class_ 2), (0, u "java/lang/constant/Constable"), (0, .class_ 4), (0, u "java/lang/Object")] 6

/-- java/lang/constant/Constable -/
def k5 : Class := { plain "java/lang/constant/Constable" (some 0) with
  accessFlags := 1537
  interfaces := #[]
  cf := some (fileOf pool5 1 #[] #[] 1537 3 #[] #[])
  fields := #[]
  methods := #[]
  instanceTypes := #[]
  staticTypes := #[]
  resolved := Array.replicate 11 none
  statics := none }

def pool6 : Array CpInfo := pool [(1, .class_ 2), (0, u "java/lang/constant/ConstantDesc"), (0, .class_ 4), (0, u "java/lang/Object")] 32

/-- java/lang/constant/ConstantDesc -/
def k6 : Class := { plain "java/lang/constant/ConstantDesc" (some 0) with
  accessFlags := 1537
  interfaces := #[]
  cf := some (fileOf pool6 1 #[] #[] 1537 3 #[] #[])
  fields := #[]
  methods := #[]
  instanceTypes := #[]
  staticTypes := #[]
  resolved := Array.replicate 37 none
  statics := none }

def pool7 : Array CpInfo := pool [(1, .methodref 2 3), (0, .class_ 4), (0, .nameAndType 5 6), (0, u "java/lang/Object"), (0, u "<init>"), (0, u "()V"), (2, .fieldref 10 11), (0, .class_ 12), (0, .nameAndType 13 14), (0, u "java/lang/String"), (0, u "value"), (0, u "[B"), (0, .fieldref 10 16), (0, .nameAndType 17 18), (0, u "coder"), (0, u "B"), (2, u "hash"), (0, u "I"), (2, u "hashIsZero"), (0, u "Z"), (0, .methodref 10 28), (0, .nameAndType 5 29), (0, u "([CIILjava/lang/Void;)V"), (8, .fieldref 10 39), (0, .nameAndType 40 26), (0, u "COMPACT_STRINGS"), (1, .class_ 44), (1, u "java/lang/StringUTF16"), (0, u "compress"), (1, .methodref 42 48), (0, .nameAndType 49 50), (0, u "coderFromArrayLen"), (0, u "([BI)B"), (126, .methodref 42 178), (0, .nameAndType 45 179), (0, u "([CII)[B"), (363, u "equals"), (29, u "(Ljava/lang/Object;)Z"), (1, .class_ 576), (0, u "java/lang/CharSequence"), (22, u "CASE_INSENSITIVE_ORDER"), (0, u "Ljava/util/Comparator;"), (409, u "([C)V"), (90, u "serialPersistentFields"), (0, u "[Ljava/io/ObjectStreamField;"), (0, .class_ 1104), (0, u "java/lang/String$CaseInsensitiveComparator"), (1, .class_ 1107), (0, u "java/io/Serializable"), (0, .class_ 1109), (0, u "java/lang/Comparable"), (0, .class_ 1111), (0, u "java/lang/constant/Constable"), (0, .class_ 1113), (0, u "java/lang/constant/ConstantDesc"), (2, u "serialVersionUID"), (0, u "J"), (3, u "REPL"), (0, u "C"), (2, u "LATIN1"), (1, u "UTF16")] 323

def k7m0 : Method := { name := "<init>", desc := "()V", sig := { parameters := [], returnType := none }, accessFlags := 1, code := none }
def k7c1 : Code := { maxStack := 5, maxLocals := 2, code := jdk_42_method_3_code, exceptionTable := #[], attributes := #[] }
def k7m1 : Method := { name := "<init>", desc := "([C)V", sig := { parameters := [(.array .char)], returnType := none }, accessFlags := 1, code := some k7c1 }
def k7c2 : Code := { maxStack := 2, maxLocals := 3, code := jdk_42_method_66_code, exceptionTable := #[], attributes := #[] }
def k7m2 : Method := { name := "equals", desc := "(Ljava/lang/Object;)Z", sig := { parameters := [(.object "java/lang/Object")], returnType := some .boolean }, accessFlags := 1, code := some k7c2 }
def k7c3 : Code := { maxStack := 4, maxLocals := 6, code := jdk_42_method_149_code, exceptionTable := #[], attributes := #[] }
def k7m3 : Method := { name := "<init>", desc := "([CIILjava/lang/Void;)V", sig := { parameters := [(.array .char), .int, .int, (.object "java/lang/Void")], returnType := none }, accessFlags := 2, code := some k7c3 }
/-- java/lang/String -/
def k7 : Class := { plain "java/lang/String" (some 0) with
  accessFlags := 49
  interfaces := #[2, 3, 4, 5, 6]
  cf := some (fileOf pool7 10 #[.nestMembers #[1103]] #[{ accessFlags := 1, nameIndex := 5, descriptorIndex := 6, attributes := #[] }, { accessFlags := 1, nameIndex := 5, descriptorIndex := 1010, attributes := #[] }, { accessFlags := 1, nameIndex := 543, descriptorIndex := 573, attributes := #[] }, { accessFlags := 2, nameIndex := 5, descriptorIndex := 29, attributes := #[] }] 49 2 #[1106, 1108, 575, 1110, 1112] #[{ accessFlags := 18, nameIndex := 13, descriptorIndex := 14, attributes := #[] }, { accessFlags := 18, nameIndex := 17, descriptorIndex := 18, attributes := #[] }, { accessFlags := 2, nameIndex := 21, descriptorIndex := 22, attributes := #[] }, { accessFlags := 2, nameIndex := 25, descriptorIndex := 26, attributes := #[] }, { accessFlags := 26, nameIndex := 1116, descriptorIndex := 1117, attributes := #[] }, { accessFlags := 24, nameIndex := 40, descriptorIndex := 26, attributes := #[] }, { accessFlags := 26, nameIndex := 1101, descriptorIndex := 1102, attributes := #[] }, { accessFlags := 26, nameIndex := 1121, descriptorIndex := 1122, attributes := #[] }, { accessFlags := 25, nameIndex := 599, descriptorIndex := 600, attributes := #[] }, { accessFlags := 24, nameIndex := 1125, descriptorIndex := 18, attributes := #[] }, { accessFlags := 24, nameIndex := 1127, descriptorIndex := 18, attributes := #[] }])
  fields := #[{ name := "value", type := (.array .byte), accessFlags := 18, slot := 0, constantValue := 0 }, { name := "coder", type := .byte, accessFlags := 18, slot := 1, constantValue := 0 }, { name := "hash", type := .int, accessFlags := 2, slot := 2, constantValue := 0 }, { name := "hashIsZero", type := .boolean, accessFlags := 2, slot := 3, constantValue := 0 }, { name := "serialVersionUID", type := .long, accessFlags := 26, slot := 0, constantValue := 0 }, { name := "COMPACT_STRINGS", type := .boolean, accessFlags := 24, slot := 1, constantValue := 0 }, { name := "serialPersistentFields", type := (.array (.object "java/io/ObjectStreamField")), accessFlags := 26, slot := 2, constantValue := 0 }, { name := "REPL", type := .char, accessFlags := 26, slot := 3, constantValue := 0 }, { name := "CASE_INSENSITIVE_ORDER", type := (.object "java/util/Comparator"), accessFlags := 25, slot := 4, constantValue := 0 }, { name := "LATIN1", type := .byte, accessFlags := 24, slot := 5, constantValue := 0 }, { name := "UTF16", type := .byte, accessFlags := 24, slot := 6, constantValue := 0 }]
  methods := #[k7m0, k7m1, k7m2, k7m3]
  instanceTypes := #[(.array .byte), .byte, .int, .boolean]
  staticTypes := #[.long, .boolean, (.array (.object "java/io/ObjectStreamField")), .char, (.object "java/util/Comparator"), .byte, .byte]
  resolved := Array.replicate 1451 none
  statics := some 0 }

def pool8 : Array CpInfo := pool [(6, .class_ 8), (1, u "java/lang/Object"), (0, u "<init>"), (0, u "()V"), (1, .class_ 14), (1, u "java/lang/StringUTF16"), (31, u "$assertionsDisabled"), (0, u "Z"), (13, u "HI_BYTE_SHIFT"), (0, u "I"), (2, u "LO_BYTE_SHIFT"), (49, .methodref 12 116), (0, .nameAndType 117 118), (0, u "compress"), (0, u "([CI[BII)I"), (3, u "([CII)[B"), (138, u "coderFromArrayLen"), (0, u "([BI)B"), (106, .class_ 371), (1, u "java/lang/StringUTF16$LinesSpliterator"), (58, u "MAX_LENGTH"), (196, .class_ 628), (0, u "java/lang/StringUTF16$CodePointsSpliterator"), (0, .class_ 630), (0, u "java/lang/StringUTF16$CharsSpliterator")] 4

def k8m0 : Method := { name := "<init>", desc := "()V", sig := { parameters := [], returnType := none }, accessFlags := 0, code := none }
def k8c1 : Code := { maxStack := 2, maxLocals := 2, code := jdk_52_method_15_code, exceptionTable := #[], attributes := #[] }
def k8m1 : Method := { name := "coderFromArrayLen", desc := "([BI)B", sig := { parameters := [(.array .byte), .int], returnType := some .byte }, accessFlags := 8, code := some k8c1 }
def k8c2 : Code := { maxStack := 5, maxLocals := 6, code := jdk_52_method_16_code, exceptionTable := #[], attributes := #[] }
def k8m2 : Method := { name := "compress", desc := "([CII)[B", sig := { parameters := [(.array .char), .int, .int], returnType := some (.array .byte) }, accessFlags := 9, code := some k8c2 }
def k8c3 : Code := { maxStack := 3, maxLocals := 7, code := jdk_52_method_21_code, exceptionTable := #[], attributes := #[] }
def k8m3 : Method := { name := "compress", desc := "([CI[BII)I", sig := { parameters := [(.array .char), .int, (.array .byte), .int, .int], returnType := some .int }, accessFlags := 9, code := some k8c3 }
/-- java/lang/StringUTF16 -/
def k8 : Class := { plain "java/lang/StringUTF16" (some 0) with
  accessFlags := 48
  interfaces := #[]
  cf := some (fileOf pool8 12 #[.nestMembers #[627, 629, 369]] #[{ accessFlags := 0, nameIndex := 9, descriptorIndex := 10, attributes := #[] }, { accessFlags := 8, nameIndex := 261, descriptorIndex := 262, attributes := #[] }, { accessFlags := 9, nameIndex := 117, descriptorIndex := 122, attributes := #[] }, { accessFlags := 9, nameIndex := 117, descriptorIndex := 118, attributes := #[] }] 48 6 #[] #[{ accessFlags := 26, nameIndex := 61, descriptorIndex := 62, attributes := #[] }, { accessFlags := 26, nameIndex := 65, descriptorIndex := 62, attributes := #[] }, { accessFlags := 24, nameIndex := 430, descriptorIndex := 62, attributes := #[] }, { accessFlags := 4120, nameIndex := 46, descriptorIndex := 47, attributes := #[] }])
  fields := #[{ name := "HI_BYTE_SHIFT", type := .int, accessFlags := 26, slot := 0, constantValue := 0 }, { name := "LO_BYTE_SHIFT", type := .int, accessFlags := 26, slot := 1, constantValue := 0 }, { name := "MAX_LENGTH", type := .int, accessFlags := 24, slot := 2, constantValue := 0 }, { name := "$assertionsDisabled", type := .boolean, accessFlags := 4120, slot := 3, constantValue := 0 }]
  methods := #[k8m0, k8m1, k8m2, k8m3]
  instanceTypes := #[]
  staticTypes := #[.int, .int, .int, .boolean]
  resolved := Array.replicate 635 none
  statics := none }

def pool9 : Array CpInfo := pool [(1, .methodref 2 3), (0, .class_ 4), (0, .nameAndType 5 6), (0, u "java/lang/Object"), (0, u "<init>"), (0, u "()V"), (0, .class_ 8), (0, u "java/lang/Record")] 13

def k9c0 : Code := { maxStack := 1, maxLocals := 1, code := jdk_30_method_1_code, exceptionTable := #[], attributes := #[] }
def k9m0 : Method := { name := "<init>", desc := "()V", sig := { parameters := [], returnType := none }, accessFlags := 4, code := some k9c0 }
/-- java/lang/Record -/
def k9 : Class := { plain "java/lang/Record" (some 0) with
  accessFlags := 1057
  interfaces := #[]
  cf := some (fileOf pool9 7 #[] #[{ accessFlags := 4, nameIndex := 5, descriptorIndex := 6, attributes := #[] }] 1057 2 #[] #[])
  fields := #[]
  methods := #[k9m0]
  instanceTypes := #[]
  staticTypes := #[]
  resolved := Array.replicate 22 none
  statics := none }

def pool10 : Array CpInfo := pool [(1, .methodref 2 3), (0, .class_ 4), (0, .nameAndType 5 6), (0, u "java/lang/Record"), (0, u "<init>"), (0, u "()V"), (0, .string 8), (0, u "kind"), (0, .methodref 10 11), (0, .class_ 12), (0, .nameAndType 13 14), (0, u "java/util/Objects"), (0, u "requireNonNull"), (0, u "(Ljava/lang/Object;Ljava/lang/String;)Ljava/lang/Object;"), (0, .string 16), (0, u "number"), (0, .string 18), (0, u "heading"), (0, .fieldref 20 21), (0, .class_ 22), (0, .nameAndType 8 23), (0, u "com/example/clausewright/clausewright/Division"), (0, u "Lcom/example/clausewright/clausewright/Division$Kind;"), (0, .fieldref 20 25), (0, .nameAndType 16 26), (0, u "Ljava/lang/String;"), (0, .fieldref 20 28), (0, .nameAndType 18 26), (0, .fieldref 20 30), (0, .nameAndType 31 32), (0, u "line"), (0, u "I"), (1, .class_ 36), (1, u "com/example/clausewright/clausewright/Division$Kind"), (27, u "(Lcom/example/clausewright/clausewright/Division$Kind;Ljava/lang/String;Ljava/lang/String;I)V"), (5, u "()Ljava/lang/String;")] 27

def k10c0 : Code := { maxStack := 2, maxLocals := 5, code := prog_13_method_1_code, exceptionTable := #[], attributes := #[] }
def k10m0 : Method := { name := "<init>", desc := "(Lcom/example/clausewright/clausewright/Division$Kind;Ljava/lang/String;Ljava/lang/String;I)V", sig := { parameters := [(.object "com/example/clausewright/clausewright/Division$Kind"), (.object "java/lang/String"), (.object "java/lang/String"), .int], returnType := none }, accessFlags := 1, code := some k10c0 }
def k10c1 : Code := { maxStack := 1, maxLocals := 1, code := prog_13_method_7_code, exceptionTable := #[], attributes := #[] }
def k10m1 : Method := { name := "number", desc := "()Ljava/lang/String;", sig := { parameters := [], returnType := some (.object "java/lang/String") }, accessFlags := 1, code := some k10c1 }
/-- com/example/clausewright/clausewright/Division -/
def k10 : Class := { plain "com/example/clausewright/clausewright/Division" (some 9) with
  accessFlags := 49
  interfaces := #[]
  cf := some (fileOf pool10 20 #[.nestMembers #[34]] #[{ accessFlags := 1, nameIndex := 5, descriptorIndex := 64, attributes := #[] }, { accessFlags := 1, nameIndex := 16, descriptorIndex := 70, attributes := #[] }] 49 2 #[] #[{ accessFlags := 18, nameIndex := 8, descriptorIndex := 23, attributes := #[] }, { accessFlags := 18, nameIndex := 16, descriptorIndex := 26, attributes := #[] }, { accessFlags := 18, nameIndex := 18, descriptorIndex := 26, attributes := #[] }, { accessFlags := 18, nameIndex := 31, descriptorIndex := 32, attributes := #[] }])
  fields := #[{ name := "kind", type := (.object "com/example/clausewright/clausewright/Division$Kind"), accessFlags := 18, slot := 0, constantValue := 0 }, { name := "number", type := (.object "java/lang/String"), accessFlags := 18, slot := 1, constantValue := 0 }, { name := "heading", type := (.object "java/lang/String"), accessFlags := 18, slot := 2, constantValue := 0 }, { name := "line", type := .int, accessFlags := 18, slot := 3, constantValue := 0 }]
  methods := #[k10m0, k10m1]
  instanceTypes := #[(.object "com/example/clausewright/clausewright/Division$Kind"), (.object "java/lang/String"), (.object "java/lang/String"), .int]
  staticTypes := #[]
  resolved := Array.replicate 98 none
  statics := none }

def pool11 : Array CpInfo := pool [(2, .class_ 4), (1, u "java/lang/Enum"), (0, u "name"), (0, u "Ljava/lang/String;"), (2, u "ordinal"), (0, u "I"), (1, .class_ 14), (1, u "java/lang/Object"), (4, u "hash"), (86, .class_ 108), (1, u "java/lang/Enum$EnumDesc"), (2, .class_ 112), (0, u "java/lang/constant/Constable"), (0, .class_ 114), (0, u "java/lang/Comparable"), (0, .class_ 116), (0, u "java/io/Serializable")] 87

/-- java/lang/Enum -/
def k11 : Class := { plain "java/lang/Enum" (some 0) with
  accessFlags := 1057
  interfaces := #[5, 3, 2]
  cf := some (fileOf pool11 2 #[.nestMembers #[106]] #[] 1057 12 #[111, 113, 115] #[{ accessFlags := 18, nameIndex := 5, descriptorIndex := 6, attributes := #[] }, { accessFlags := 18, nameIndex := 9, descriptorIndex := 10, attributes := #[] }, { accessFlags := 2, nameIndex := 19, descriptorIndex := 10, attributes := #[] }])
  fields := #[{ name := "name", type := (.object "java/lang/String"), accessFlags := 18, slot := 0, constantValue := 0 }, { name := "ordinal", type := .int, accessFlags := 18, slot := 1, constantValue := 0 }, { name := "hash", type := .int, accessFlags := 2, slot := 2, constantValue := 0 }]
  methods := #[]
  instanceTypes := #[(.object "java/lang/String"), .int, .int]
  staticTypes := #[]
  resolved := Array.replicate 204 none
  statics := none }

def pool12 : Array CpInfo := pool [(1, .class_ 2), (0, u "com/example/clausewright/clausewright/Division$Kind"), (2, u "ARTICLE"), (0, u "Lcom/example/clausewright/clausewright/Division$Kind;"), (2, u "SECTION"), (2, u "EXHIBIT"), (2, u "$VALUES"), (0, u "[Lcom/example/clausewright/clausewright/Division$Kind;"), (6, .class_ 25), (1, u "java/lang/Enum"), (26, .class_ 53), (0, u "com/example/clausewright/clausewright/Division")] 2

/-- com/example/clausewright/clausewright/Division$Kind -/
def k12 : Class := { plain "com/example/clausewright/clausewright/Division$Kind" (some 11) with
  accessFlags := 16433
  interfaces := #[]
  cf := some (fileOf pool12 1 #[.nestHost 52] #[] 16433 23 #[] #[{ accessFlags := 16409, nameIndex := 5, descriptorIndex := 6, attributes := #[] }, { accessFlags := 16409, nameIndex := 9, descriptorIndex := 6, attributes := #[] }, { accessFlags := 16409, nameIndex := 12, descriptorIndex := 6, attributes := #[] }, { accessFlags := 4122, nameIndex := 15, descriptorIndex := 16, attributes := #[] }])
  fields := #[{ name := "ARTICLE", type := (.object "com/example/clausewright/clausewright/Division$Kind"), accessFlags := 16409, slot := 0, constantValue := 0 }, { name := "SECTION", type := (.object "com/example/clausewright/clausewright/Division$Kind"), accessFlags := 16409, slot := 1, constantValue := 0 }, { name := "EXHIBIT", type := (.object "com/example/clausewright/clausewright/Division$Kind"), accessFlags := 16409, slot := 2, constantValue := 0 }, { name := "$VALUES", type := (.array (.object "com/example/clausewright/clausewright/Division$Kind")), accessFlags := 4122, slot := 3, constantValue := 0 }]
  methods := #[]
  instanceTypes := #[(.object "java/lang/String"), .int, .int]
  staticTypes := #[(.object "com/example/clausewright/clausewright/Division$Kind"), (.object "com/example/clausewright/clausewright/Division$Kind"), (.object "com/example/clausewright/clausewright/Division$Kind"), (.array (.object "com/example/clausewright/clausewright/Division$Kind"))]
  resolved := Array.replicate 56 none
  statics := some 1 }

def pool13 : Array CpInfo := pool [(2, .class_ 4), (1, u "java/lang/Object"), (0, u "<init>"), (0, u "()V"), (35, .class_ 44), (1, u "java/util/Objects"), (0, u "requireNonNull"), (48, u "(Ljava/lang/Object;Ljava/lang/String;)Ljava/lang/Object;")] 89

def k13m0 : Method := { name := "<init>", desc := "()V", sig := { parameters := [], returnType := none }, accessFlags := 2, code := none }
def k13c1 : Code := { maxStack := 3, maxLocals := 2, code := jdk_31_method_11_code, exceptionTable := #[], attributes := #[] }
def k13m1 : Method := { name := "requireNonNull", desc := "(Ljava/lang/Object;Ljava/lang/String;)Ljava/lang/Object;", sig := { parameters := [(.object "java/lang/Object"), (.object "java/lang/String")], returnType := some (.object "java/lang/Object") }, accessFlags := 9, code := some k13c1 }
/-- java/util/Objects -/
def k13 : Class := { plain "java/util/Objects" (some 0) with
  accessFlags := 49
  interfaces := #[]
  cf := some (fileOf pool13 42 #[] #[{ accessFlags := 2, nameIndex := 5, descriptorIndex := 6, attributes := #[] }, { accessFlags := 9, nameIndex := 45, descriptorIndex := 94, attributes := #[] }] 49 2 #[] #[])
  fields := #[]
  methods := #[k13m0, k13m1]
  instanceTypes := #[]
  staticTypes := #[]
  resolved := Array.replicate 184 none
  statics := none }

def pool14 : Array CpInfo := pool [(1, .methodref 2 3), (0, .class_ 4), (0, .nameAndType 5 6), (0, u "java/lang/Record"), (0, u "<init>"), (0, u "()V"), (0, .string 8), (0, u "kind"), (0, .methodref 10 11), (0, .class_ 12), (0, .nameAndType 13 14), (0, u "java/util/Objects"), (0, u "requireNonNull"), (0, u "(Ljava/lang/Object;Ljava/lang/String;)Ljava/lang/Object;"), (0, .fieldref 16 17), (0, .class_ 18), (0, .nameAndType 8 19), (0, u "com/example/clausewright/clausewright/Difference"), (0, u "Lcom/example/clausewright/clausewright/Difference$Kind;"), (0, .fieldref 16 21), (0, .nameAndType 22 23), (0, u "body"), (0, u "Lcom/example/clausewright/clausewright/Division;"), (0, .fieldref 16 25), (0, .nameAndType 26 23), (0, u "entry"), (0, .methodref 28 29), (0, .class_ 30), (0, .nameAndType 31 32), (0, u "com/example/clausewright/clausewright/Division"), (0, u "number"), (0, u "()Ljava/lang/String;"), (12, u "(Lcom/example/clausewright/clausewright/Difference$Kind;Lcom/example/clausewright/clausewright/Division;Lcom/example/clausewright/clausewright/Division;)V"), (13, .class_ 60), (0, u "com/example/clausewright/clausewright/Difference$Kind")] 21

def k14c0 : Code := { maxStack := 2, maxLocals := 4, code := prog_10_method_1_code, exceptionTable := #[], attributes := #[] }
def k14m0 : Method := { name := "<init>", desc := "(Lcom/example/clausewright/clausewright/Difference$Kind;Lcom/example/clausewright/clausewright/Division;Lcom/example/clausewright/clausewright/Division;)V", sig := { parameters := [(.object "com/example/clausewright/clausewright/Difference$Kind"), (.object "com/example/clausewright/clausewright/Division"), (.object "com/example/clausewright/clausewright/Division")], returnType := none }, accessFlags := 1, code := some k14c0 }
def k14c1 : Code := { maxStack := 1, maxLocals := 1, code := prog_10_method_2_code, exceptionTable := #[], attributes := #[] }
def k14m1 : Method := { name := "number", desc := "()Ljava/lang/String;", sig := { parameters := [], returnType := some (.object "java/lang/String") }, accessFlags := 1, code := some k14c1 }
/-- com/example/clausewright/clausewright/Difference -/
def k14 : Class := { plain "com/example/clausewright/clausewright/Difference" (some 9) with
  accessFlags := 49
  interfaces := #[]
  cf := some (fileOf pool14 16 #[.nestMembers #[59]] #[{ accessFlags := 1, nameIndex := 5, descriptorIndex := 45, attributes := #[] }, { accessFlags := 1, nameIndex := 31, descriptorIndex := 32, attributes := #[] }] 49 2 #[] #[{ accessFlags := 18, nameIndex := 8, descriptorIndex := 19, attributes := #[] }, { accessFlags := 18, nameIndex := 22, descriptorIndex := 23, attributes := #[] }, { accessFlags := 18, nameIndex := 26, descriptorIndex := 23, attributes := #[] }])
  fields := #[{ name := "kind", type := (.object "com/example/clausewright/clausewright/Difference$Kind"), accessFlags := 18, slot := 0, constantValue := 0 }, { name := "body", type := (.object "com/example/clausewright/clausewright/Division"), accessFlags := 18, slot := 1, constantValue := 0 }, { name := "entry", type := (.object "com/example/clausewright/clausewright/Division"), accessFlags := 18, slot := 2, constantValue := 0 }]
  methods := #[k14m0, k14m1]
  instanceTypes := #[(.object "com/example/clausewright/clausewright/Difference$Kind"), (.object "com/example/clausewright/clausewright/Division"), (.object "com/example/clausewright/clausewright/Division")]
  staticTypes := #[]
  resolved := Array.replicate 82 none
  statics := none }

def pool15 : Array CpInfo := pool [(1, .class_ 2), (0, u "com/example/clausewright/clausewright/Difference$Kind"), (2, u "MISSING_FROM_TOC"), (0, u "Lcom/example/clausewright/clausewright/Difference$Kind;"), (2, u "MISSING_FROM_BODY"), (2, u "HEADING_DIFFERS"), (2, u "$VALUES"), (0, u "[Lcom/example/clausewright/clausewright/Difference$Kind;"), (6, .class_ 25), (1, u "java/lang/Enum"), (47, .class_ 74), (0, u "com/example/clausewright/clausewright/Difference")] 2

/-- com/example/clausewright/clausewright/Difference$Kind -/
def k15 : Class := { plain "com/example/clausewright/clausewright/Difference$Kind" (some 11) with
  accessFlags := 16433
  interfaces := #[]
  cf := some (fileOf pool15 1 #[.nestHost 73] #[] 16433 23 #[] #[{ accessFlags := 16409, nameIndex := 5, descriptorIndex := 6, attributes := #[] }, { accessFlags := 16409, nameIndex := 9, descriptorIndex := 6, attributes := #[] }, { accessFlags := 16409, nameIndex := 12, descriptorIndex := 6, attributes := #[] }, { accessFlags := 4122, nameIndex := 15, descriptorIndex := 16, attributes := #[] }])
  fields := #[{ name := "MISSING_FROM_TOC", type := (.object "com/example/clausewright/clausewright/Difference$Kind"), accessFlags := 16409, slot := 0, constantValue := 0 }, { name := "MISSING_FROM_BODY", type := (.object "com/example/clausewright/clausewright/Difference$Kind"), accessFlags := 16409, slot := 1, constantValue := 0 }, { name := "HEADING_DIFFERS", type := (.object "com/example/clausewright/clausewright/Difference$Kind"), accessFlags := 16409, slot := 2, constantValue := 0 }, { name := "$VALUES", type := (.array (.object "com/example/clausewright/clausewright/Difference$Kind")), accessFlags := 4122, slot := 3, constantValue := 0 }]
  methods := #[]
  instanceTypes := #[(.object "java/lang/String"), .int, .int]
  staticTypes := #[(.object "com/example/clausewright/clausewright/Difference$Kind"), (.object "com/example/clausewright/clausewright/Difference$Kind"), (.object "com/example/clausewright/clausewright/Difference$Kind"), (.array (.object "com/example/clausewright/clausewright/Difference$Kind"))]
  resolved := Array.replicate 77 none
  statics := some 2 }

def pool16 : Array CpInfo := pool [(4, .class_ 6), (1, u "java/lang/Object"), (0, u "<init>"), (0, u "()V"), (5, .class_ 16), (1, u "java/lang/StringLatin1"), (104, u "$assertionsDisabled"), (0, u "Z"), (98, .class_ 223), (1, u "java/lang/StringLatin1$LinesSpliterator"), (166, .class_ 391), (0, u "java/lang/StringLatin1$CharsSpliterator")] 3

def k16m0 : Method := { name := "<init>", desc := "()V", sig := { parameters := [], returnType := none }, accessFlags := 0, code := none }
/-- java/lang/StringLatin1 -/
def k16 : Class := { plain "java/lang/StringLatin1" (some 0) with
  accessFlags := 48
  interfaces := #[]
  cf := some (fileOf pool16 14 #[.nestMembers #[390, 221]] #[{ accessFlags := 0, nameIndex := 7, descriptorIndex := 8, attributes := #[] }] 48 4 #[] #[{ accessFlags := 4120, nameIndex := 121, descriptorIndex := 122, attributes := #[] }])
  fields := #[{ name := "$assertionsDisabled", type := .boolean, accessFlags := 4120, slot := 0, constantValue := 0 }]
  methods := #[k16m0]
  instanceTypes := #[]
  staticTypes := #[.boolean]
  resolved := Array.replicate 395 none
  statics := none }

def pool17 : Array CpInfo := pool [(2, .class_ 4), (1, u "java/lang/Object"), (0, u "<init>"), (0, u "()V"), (17, .class_ 26), (1, u "jdk/internal/util/Preconditions"), (28, .class_ 56), (0, u "jdk/internal/util/Preconditions$4"), (57, .class_ 115), (0, u "jdk/internal/util/Preconditions$1"), (7, u "SIOOBE_FORMATTER"), (0, u "Ljava/util/function/BiFunction;"), (0, .class_ 126), (0, u "jdk/internal/util/Preconditions$2"), (3, u "AIOOBE_FORMATTER"), (0, .class_ 132), (0, u "jdk/internal/util/Preconditions$3"), (3, u "IOOBE_FORMATTER")] 57

def k17m0 : Method := { name := "<init>", desc := "()V", sig := { parameters := [], returnType := none }, accessFlags := 1, code := none }
/-- jdk/internal/util/Preconditions -/
def k17 : Class := { plain "jdk/internal/util/Preconditions" (some 0) with
  accessFlags := 33
  interfaces := #[]
  cf := some (fileOf pool17 24 #[.nestMembers #[55, 131, 125, 114]] #[{ accessFlags := 1, nameIndex := 5, descriptorIndex := 6, attributes := #[] }] 33 2 #[] #[{ accessFlags := 25, nameIndex := 123, descriptorIndex := 124, attributes := #[] }, { accessFlags := 25, nameIndex := 130, descriptorIndex := 124, attributes := #[] }, { accessFlags := 25, nameIndex := 136, descriptorIndex := 124, attributes := #[] }])
  fields := #[{ name := "SIOOBE_FORMATTER", type := (.object "java/util/function/BiFunction"), accessFlags := 25, slot := 0, constantValue := 0 }, { name := "AIOOBE_FORMATTER", type := (.object "java/util/function/BiFunction"), accessFlags := 25, slot := 1, constantValue := 0 }, { name := "IOOBE_FORMATTER", type := (.object "java/util/function/BiFunction"), accessFlags := 25, slot := 2, constantValue := 0 }]
  methods := #[k17m0]
  instanceTypes := #[]
  staticTypes := #[(.object "java/util/function/BiFunction"), (.object "java/util/function/BiFunction"), (.object "java/util/function/BiFunction")]
  resolved := Array.replicate 194 none
  statics := some 3 }

def pool18 : Array CpInfo := pool [(9, u "<init>"), (6, .class_ 18), (1, u "java/lang/Object"), (0, u "()V"), (1, .class_ 23), (1, u "jdk/internal/util/ArraysSupport"), (0, u "LOG2_ARRAY_LONG_INDEX_SCALE"), (0, u "I"), (2, u "U"), (0, u "Ljdk/internal/misc/Unsafe;"), (8, u "BIG_ENDIAN"), (0, u "Z"), (8, u "LOG2_BYTE_BIT_SIZE"), (4, u "LOG2_ARRAY_INT_INDEX_SCALE"), (54, u "JLA"), (0, u "Ljdk/internal/access/JavaLangAccess;"), (11, u "LOG2_ARRAY_BOOLEAN_INDEX_SCALE"), (9, u "LOG2_ARRAY_BYTE_INDEX_SCALE"), (5, u "LOG2_ARRAY_CHAR_INDEX_SCALE"), (5, u "LOG2_ARRAY_SHORT_INDEX_SCALE"), (18, u "LOG2_ARRAY_FLOAT_INDEX_SCALE"), (24, u "LOG2_ARRAY_DOUBLE_INDEX_SCALE"), (89, u "T_BOOLEAN"), (2, u "T_CHAR"), (1, u "T_FLOAT"), (1, u "T_DOUBLE"), (1, u "T_BYTE"), (1, u "T_SHORT"), (1, u "T_INT"), (1, u "T_LONG"), (1, u "SOFT_MAX_ARRAY_LENGTH")] 83

def k18m0 : Method := { name := "<init>", desc := "()V", sig := { parameters := [], returnType := none }, accessFlags := 2, code := none }
/-- jdk/internal/util/ArraysSupport -/
def k18 : Class := { plain "jdk/internal/util/ArraysSupport" (some 0) with
  accessFlags := 33
  interfaces := #[]
  cf := some (fileOf pool18 21 #[] #[{ accessFlags := 2, nameIndex := 9, descriptorIndex := 19, attributes := #[] }] 33 16 #[] #[{ accessFlags := 24, nameIndex := 28, descriptorIndex := 29, attributes := #[] }, { accessFlags := 26, nameIndex := 38, descriptorIndex := 39, attributes := #[] }, { accessFlags := 25, nameIndex := 121, descriptorIndex := 25, attributes := #[] }, { accessFlags := 25, nameIndex := 131, descriptorIndex := 25, attributes := #[] }, { accessFlags := 25, nameIndex := 137, descriptorIndex := 25, attributes := #[] }, { accessFlags := 25, nameIndex := 143, descriptorIndex := 25, attributes := #[] }, { accessFlags := 25, nameIndex := 53, descriptorIndex := 25, attributes := #[] }, { accessFlags := 25, nameIndex := 24, descriptorIndex := 25, attributes := #[] }, { accessFlags := 25, nameIndex := 162, descriptorIndex := 25, attributes := #[] }, { accessFlags := 25, nameIndex := 187, descriptorIndex := 25, attributes := #[] }, { accessFlags := 26, nameIndex := 48, descriptorIndex := 25, attributes := #[] }, { accessFlags := 25, nameIndex := 277, descriptorIndex := 25, attributes := #[] }, { accessFlags := 25, nameIndex := 280, descriptorIndex := 25, attributes := #[] }, { accessFlags := 25, nameIndex := 282, descriptorIndex := 25, attributes := #[] }, { accessFlags := 25, nameIndex := 284, descriptorIndex := 25, attributes := #[] }, { accessFlags := 25, nameIndex := 286, descriptorIndex := 25, attributes := #[] }, { accessFlags := 25, nameIndex := 288, descriptorIndex := 25, attributes := #[] }, { accessFlags := 25, nameIndex := 290, descriptorIndex := 25, attributes := #[] }, { accessFlags := 25, nameIndex := 292, descriptorIndex := 25, attributes := #[] }, { accessFlags := 26, nameIndex := 108, descriptorIndex := 109, attributes := #[] }, { accessFlags := 25, nameIndex := 294, descriptorIndex := 25, attributes := #[] }])
  fields := #[{ name := "U", type := (.object "jdk/internal/misc/Unsafe"), accessFlags := 24, slot := 0, constantValue := 0 }, { name := "BIG_ENDIAN", type := .boolean, accessFlags := 26, slot := 1, constantValue := 0 }, { name := "LOG2_ARRAY_BOOLEAN_INDEX_SCALE", type := .int, accessFlags := 25, slot := 2, constantValue := 0 }, { name := "LOG2_ARRAY_BYTE_INDEX_SCALE", type := .int, accessFlags := 25, slot := 3, constantValue := 0 }, { name := "LOG2_ARRAY_CHAR_INDEX_SCALE", type := .int, accessFlags := 25, slot := 4, constantValue := 0 }, { name := "LOG2_ARRAY_SHORT_INDEX_SCALE", type := .int, accessFlags := 25, slot := 5, constantValue := 0 }, { name := "LOG2_ARRAY_INT_INDEX_SCALE", type := .int, accessFlags := 25, slot := 6, constantValue := 0 }, { name := "LOG2_ARRAY_LONG_INDEX_SCALE", type := .int, accessFlags := 25, slot := 7, constantValue := 0 }, { name := "LOG2_ARRAY_FLOAT_INDEX_SCALE", type := .int, accessFlags := 25, slot := 8, constantValue := 0 }, { name := "LOG2_ARRAY_DOUBLE_INDEX_SCALE", type := .int, accessFlags := 25, slot := 9, constantValue := 0 }, { name := "LOG2_BYTE_BIT_SIZE", type := .int, accessFlags := 26, slot := 10, constantValue := 0 }, { name := "T_BOOLEAN", type := .int, accessFlags := 25, slot := 11, constantValue := 0 }, { name := "T_CHAR", type := .int, accessFlags := 25, slot := 12, constantValue := 0 }, { name := "T_FLOAT", type := .int, accessFlags := 25, slot := 13, constantValue := 0 }, { name := "T_DOUBLE", type := .int, accessFlags := 25, slot := 14, constantValue := 0 }, { name := "T_BYTE", type := .int, accessFlags := 25, slot := 15, constantValue := 0 }, { name := "T_SHORT", type := .int, accessFlags := 25, slot := 16, constantValue := 0 }, { name := "T_INT", type := .int, accessFlags := 25, slot := 17, constantValue := 0 }, { name := "T_LONG", type := .int, accessFlags := 25, slot := 18, constantValue := 0 }, { name := "JLA", type := (.object "jdk/internal/access/JavaLangAccess"), accessFlags := 26, slot := 19, constantValue := 0 }, { name := "SOFT_MAX_ARRAY_LENGTH", type := .int, accessFlags := 25, slot := 20, constantValue := 0 }]
  methods := #[k18m0]
  instanceTypes := #[]
  staticTypes := #[(.object "jdk/internal/misc/Unsafe"), .boolean, .int, .int, .int, .int, .int, .int, .int, .int, .int, .int, .int, .int, .int, .int, .int, .int, .int, (.object "jdk/internal/access/JavaLangAccess"), .int]
  resolved := Array.replicate 378 none
  statics := none }

def pool19 : Array CpInfo := pool [(1, u "java/lang/Cloneable"), (0, .class_ 1), (0, u "java/lang/Object"), (0, .class_ 3)] 3

/-- java/lang/Cloneable -/
def k19 : Class := { plain "java/lang/Cloneable" (some 0) with
  accessFlags := 1537
  interfaces := #[]
  cf := some (fileOf pool19 2 #[] #[] 1537 4 #[] #[])
  fields := #[]
  methods := #[]
  instanceTypes := #[]
  staticTypes := #[]
  resolved := Array.replicate 8 none
  statics := none }

/-- the primitive byte -/
def k20 : Class := { plain "byte" none with kind := .primitive 'B', accessFlags := 0x411 }
/-- [B -/
def k21 : Class := { plain "[B" (some 0) with kind := .array 20 .byte, interfaces := #[19, 2], accessFlags := 1041 }

/-- the primitive char -/
def k22 : Class := { plain "char" none with kind := .primitive 'C', accessFlags := 0x411 }
/-- [C -/
def k23 : Class := { plain "[C" (some 0) with kind := .array 22 .char, interfaces := #[19, 2], accessFlags := 1041 }

/-- the primitive int -/
def k24 : Class := { plain "int" none with kind := .primitive 'I', accessFlags := 0x411 }
/-- [I -/
def k25 : Class := { plain "[I" (some 0) with kind := .array 24 .int, interfaces := #[19, 2], accessFlags := 1041 }

def heap : Heap := #[{ cls := 7, slots := #[.long 0, .int 1, .null, .int 0, .null, .int 0, .int 0], vm := .statics 7 },
  { cls := 12, slots := #[.ref 4, .ref 5, .null, .null], vm := .statics 12 },
  { cls := 15, slots := #[.ref 7, .ref 8, .ref 6, .null], vm := .statics 15 },
  { cls := 17, slots := #[.null, .null, .null], vm := .statics 17 },
  { cls := 12, slots := #[.null, .int 0, .int 0], vm := .none },
  { cls := 12, slots := #[.null, .int 0, .int 0], vm := .none },
  { cls := 15, slots := #[.null, .int 0, .int 0], vm := .none },
  { cls := 15, slots := #[.null, .int 0, .int 0], vm := .none },
  { cls := 15, slots := #[.null, .int 0, .int 0], vm := .none }]
def classes : Array Class := #[k0, k1, k2, k3, k4, k5, k6, k7, k8, k9, k10, k11, k12, k13, k14, k15, k16, k17, k18, k19, k20, k21, k22, k23, k24, k25]
def interned : List (Array UInt16 × Addr) := []
def slotsUsed : Nat := 33
def theMethod : MethodId := ⟨1, 1⟩
def args0 : Array Value := #[.int 5, .int 6, .int 7]
def aboutOver (below : List Frame) : State where
  vm := { classes := classes, interned := interned.toArray }
  heap := heap
  slotsUsed := slotsUsed
  threads := #[{ frames := .invoking theMethod args0 :: below }]
def below0 : List Frame := [.native { method := ⟨0, 0⟩, args := #[] }]
def about1 : State := aboutOver below0
def p0 : Program := .bare "" "" ""
def e0 : Env := launch0.env 0 0 0
theorem w_frames : about1.frames = Frame.invoking theMethod args0 :: below0 := rfl
set_option maxRecDepth 65536 in
theorem w_args : argsFit about1.vm theMethod args0 = true := by decide +kernel
set_option maxRecDepth 65536 in
theorem w_heap : heapFits about1 = true := by decide +kernel
set_option maxRecDepth 65536 in
theorem w_runnable : about1.curStatus? = some .runnable := by decide +kernel
set_option maxRecDepth 65536 in
theorem w_alone : about1.alone = true := by decide +kernel
set_option maxRecDepth 65536 in
theorem w_named : about1.methodNamed? x = some theMethod := by decide +kernel
set_option maxRecDepth 65536 in
theorem w_hears : about1.hears theMethod below0 = true := by decide +kernel
set_option maxRecDepth 65536 in
theorem w_ripe : about1.ripe theMethod args0 below0 = true := by decide +kernel
theorem w_running : about1.status = .running := rfl
set_option maxRecDepth 65536 in
theorem w_room : about1.hasRoom e0.platform room_1 = true :=
  launch0.hasRoom_least _ room_1 (by decide +kernel) (by decide +kernel) (by decide +kernel) (by decide +kernel) (by decide +kernel) (by decide +kernel)
theorem allAtoms_all (ts : List Jvm.Cond) (a : Array Jvm.Value) (st : Jvm.State) : (allAtoms ts).before a st = ts.all (fun c => c.before a st) := by
  induction ts with
  | nil => rfl
  | cons c t ih =>
    show (Jvm.Cond.and c (allAtoms t)).before a st = _
    rw [Jvm.Cond.before_and, ih, List.all_cons]
def words1 : List Jvm.Cond := Jvm.Cond.code x code maxLocals ret :: tables_1
/-- a 'code' word, met by the world's own term for the bytes: nothing is compared byte by byte -/
theorem code_word {y : MethodName} {bytes : ByteArray} {mx : Nat} {rt : Option FieldType} {a : Array Value} {s : State} {m : MethodId} {meth : Method} {c : Code} (h1 : s.methodNamed? y = some m) (h2 : s.vm.method? m = some meth) (h3 : meth.code = some c) (h4 : c.code = bytes)
    (h5 : (c.maxLocals == mx && c.exceptionTable.isEmpty && decide (c.maxStack ≤ mostOperands) && decide (meth.sig.returnType = rt) && !meth.locks && decide (parseMethodDescriptor y.desc = some meth.sig)) = true) : (Jvm.Cond.code y bytes mx rt).before a s = true := by
  simp only [Bool.and_eq_true, beq_iff_eq, Bool.not_eq_true', decide_eq_true_eq] at h5
  obtain ⟨⟨⟨⟨⟨g1, g2⟩, g3⟩, g4⟩, g5⟩, g6⟩ := h5
  simp [Cond.before, Cond.holds, Cond.value, h1, h2, h3, h4, g1, g2, g3, g4, g5, g6]
def isCode : Jvm.Cond → Bool
  | .code _ _ _ _ => true
  | _ => false
theorem all_split {L : List Jvm.Cond} {P : Jvm.Cond → Bool} (h1 : L.all (fun c => isCode c || P c) = true) (h2 : ∀ c ∈ L.filter isCode, P c = true) : L.all P = true := by
  refine List.all_eq_true.mpr fun c hc => ?_
  have h := List.all_eq_true.mp h1 c hc
  rcases Bool.eq_false_or_eq_true (isCode c) with hi | hi
  · exact h2 c (List.mem_filter.mpr ⟨hc, hi⟩)
  · simpa [hi] using h
set_option maxRecDepth 65536 in
theorem w_c0 : (Jvm.Cond.code x code maxLocals ret).before args0 about1 = true := code_word (m := ⟨1, 1⟩) (meth := k1m1) (c := k1c1) (by decide +kernel) rfl rfl rfl (by decide +kernel)
set_option maxRecDepth 65536 in
theorem w_c1 : (Jvm.Cond.code ({ cls := "java/lang/String", name := "<init>", desc := "([C)V" } : Jvm.MethodName) jdk_42_method_3_code (2 : Nat) (Option.none : Option Jvm.ClassFile.FieldType)).before args0 about1 = true := code_word (m := ⟨7, 1⟩) (meth := k7m1) (c := k7c1) (by decide +kernel) rfl rfl rfl (by decide +kernel)
set_option maxRecDepth 65536 in
theorem w_c2 : (Jvm.Cond.code ({ cls := "java/lang/String", name := "<init>", desc := "([CIILjava/lang/Void;)V" } : Jvm.MethodName) jdk_42_method_149_code (6 : Nat) (Option.none : Option Jvm.ClassFile.FieldType)).before args0 about1 = true := code_word (m := ⟨7, 3⟩) (meth := k7m3) (c := k7c3) (by decide +kernel) rfl rfl rfl (by decide +kernel)
set_option maxRecDepth 65536 in
theorem w_c3 : (Jvm.Cond.code ({ cls := "java/lang/Object", name := "<init>", desc := "()V" } : Jvm.MethodName) object_method_1_code (1 : Nat) (Option.none : Option Jvm.ClassFile.FieldType)).before args0 about1 = true := code_word (m := ⟨0, 0⟩) (meth := k0m0) (c := k0c0) (by decide +kernel) rfl rfl rfl (by decide +kernel)
set_option maxRecDepth 65536 in
theorem w_c4 : (Jvm.Cond.code ({ cls := "java/lang/StringUTF16", name := "compress", desc := "([CII)[B" } : Jvm.MethodName) jdk_52_method_16_code (6 : Nat) (Option.some (Jvm.ClassFile.FieldType.array Jvm.ClassFile.FieldType.byte))).before args0 about1 = true := code_word (m := ⟨8, 2⟩) (meth := k8m2) (c := k8c2) (by decide +kernel) rfl rfl rfl (by decide +kernel)
set_option maxRecDepth 65536 in
theorem w_c5 : (Jvm.Cond.code ({ cls := "java/lang/StringUTF16", name := "compress", desc := "([CI[BII)I" } : Jvm.MethodName) jdk_52_method_21_code (7 : Nat) (Option.some Jvm.ClassFile.FieldType.int)).before args0 about1 = true := code_word (m := ⟨8, 3⟩) (meth := k8m3) (c := k8c3) (by decide +kernel) rfl rfl rfl (by decide +kernel)
set_option maxRecDepth 65536 in
theorem w_c6 : (Jvm.Cond.code ({ cls := "java/lang/StringUTF16", name := "coderFromArrayLen", desc := "([BI)B" } : Jvm.MethodName) jdk_52_method_15_code (2 : Nat) (Option.some Jvm.ClassFile.FieldType.byte)).before args0 about1 = true := code_word (m := ⟨8, 1⟩) (meth := k8m1) (c := k8c1) (by decide +kernel) rfl rfl rfl (by decide +kernel)
set_option maxRecDepth 65536 in
theorem w_c7 : (Jvm.Cond.code ({ cls := "com/example/clausewright/clausewright/Division", name := "<init>", desc := "(Lcom/example/clausewright/clausewright/Division$Kind;Ljava/lang/String;Ljava/lang/String;I)V" } : Jvm.MethodName) prog_13_method_1_code (5 : Nat) (Option.none : Option Jvm.ClassFile.FieldType)).before args0 about1 = true := code_word (m := ⟨10, 0⟩) (meth := k10m0) (c := k10c0) (by decide +kernel) rfl rfl rfl (by decide +kernel)
set_option maxRecDepth 65536 in
theorem w_c8 : (Jvm.Cond.code ({ cls := "java/lang/Record", name := "<init>", desc := "()V" } : Jvm.MethodName) jdk_30_method_1_code (1 : Nat) (Option.none : Option Jvm.ClassFile.FieldType)).before args0 about1 = true := code_word (m := ⟨9, 0⟩) (meth := k9m0) (c := k9c0) (by decide +kernel) rfl rfl rfl (by decide +kernel)
set_option maxRecDepth 65536 in
theorem w_c9 : (Jvm.Cond.code ({ cls := "java/util/Objects", name := "requireNonNull", desc := "(Ljava/lang/Object;Ljava/lang/String;)Ljava/lang/Object;" } : Jvm.MethodName) jdk_31_method_11_code (2 : Nat) (Option.some (Jvm.ClassFile.FieldType.object "java/lang/Object"))).before args0 about1 = true := code_word (m := ⟨13, 1⟩) (meth := k13m1) (c := k13c1) (by decide +kernel) rfl rfl rfl (by decide +kernel)
set_option maxRecDepth 65536 in
theorem w_c10 : (Jvm.Cond.code ({ cls := "com/example/clausewright/clausewright/Difference", name := "<init>", desc := "(Lcom/example/clausewright/clausewright/Difference$Kind;Lcom/example/clausewright/clausewright/Division;Lcom/example/clausewright/clausewright/Division;)V" } : Jvm.MethodName) prog_10_method_1_code (4 : Nat) (Option.none : Option Jvm.ClassFile.FieldType)).before args0 about1 = true := code_word (m := ⟨14, 0⟩) (meth := k14m0) (c := k14c0) (by decide +kernel) rfl rfl rfl (by decide +kernel)
set_option maxRecDepth 65536 in
theorem w_c11 : (Jvm.Cond.code ({ cls := "com/example/clausewright/clausewright/Difference", name := "number", desc := "()Ljava/lang/String;" } : Jvm.MethodName) prog_10_method_2_code (1 : Nat) (Option.some (Jvm.ClassFile.FieldType.object "java/lang/String"))).before args0 about1 = true := code_word (m := ⟨14, 1⟩) (meth := k14m1) (c := k14c1) (by decide +kernel) rfl rfl rfl (by decide +kernel)
set_option maxRecDepth 65536 in
theorem w_c12 : (Jvm.Cond.code ({ cls := "com/example/clausewright/clausewright/Division", name := "number", desc := "()Ljava/lang/String;" } : Jvm.MethodName) prog_13_method_7_code (1 : Nat) (Option.some (Jvm.ClassFile.FieldType.object "java/lang/String"))).before args0 about1 = true := code_word (m := ⟨10, 1⟩) (meth := k10m1) (c := k10c1) (by decide +kernel) rfl rfl rfl (by decide +kernel)
set_option maxRecDepth 65536 in
theorem w_c13 : (Jvm.Cond.code ({ cls := "java/lang/String", name := "equals", desc := "(Ljava/lang/Object;)Z" } : Jvm.MethodName) jdk_42_method_66_code (3 : Nat) (Option.some Jvm.ClassFile.FieldType.boolean)).before args0 about1 = true := code_word (m := ⟨7, 2⟩) (meth := k7m2) (c := k7c2) (by decide +kernel) rfl rfl rfl (by decide +kernel)
def codes1 : List Jvm.Cond := [Jvm.Cond.code x code maxLocals ret, Jvm.Cond.code ({ cls := "java/lang/String", name := "<init>", desc := "([C)V" } : Jvm.MethodName) jdk_42_method_3_code (2 : Nat) (Option.none : Option Jvm.ClassFile.FieldType), Jvm.Cond.code ({ cls := "java/lang/String", name := "<init>", desc := "([CIILjava/lang/Void;)V" } : Jvm.MethodName) jdk_42_method_149_code (6 : Nat) (Option.none : Option Jvm.ClassFile.FieldType), Jvm.Cond.code ({ cls := "java/lang/Object", name := "<init>", desc := "()V" } : Jvm.MethodName) object_method_1_code (1 : Nat) (Option.none : Option Jvm.ClassFile.FieldType), Jvm.Cond.code ({ cls := "java/lang/StringUTF16", name := "compress", desc := "([CII)[B" } : Jvm.MethodName) jdk_52_method_16_code (6 : Nat) (Option.some (Jvm.ClassFile.FieldType.array Jvm.ClassFile.FieldType.byte)), Jvm.Cond.code ({ cls := "java/lang/StringUTF16", name := "compress", desc := "([CI[BII)I" } : Jvm.MethodName) jdk_52_method_21_code (7 : Nat) (Option.some Jvm.ClassFile.FieldType.int), Jvm.Cond.code ({ cls := "java/lang/StringUTF16", name := "coderFromArrayLen", desc := "([BI)B" } : Jvm.MethodName) jdk_52_method_15_code (2 : Nat) (Option.some Jvm.ClassFile.FieldType.byte), Jvm.Cond.code ({ cls := "com/example/clausewright/clausewright/Division", name := "<init>", desc := "(Lcom/example/clausewright/clausewright/Division$Kind;Ljava/lang/String;Ljava/lang/String;I)V" } : Jvm.MethodName) prog_13_method_1_code (5 : Nat) (Option.none : Option Jvm.ClassFile.FieldType), Jvm.Cond.code ({ cls := "java/lang/Record", name := "<init>", desc := "()V" } : Jvm.MethodName) jdk_30_method_1_code (1 : Nat) (Option.none : Option Jvm.ClassFile.FieldType), Jvm.Cond.code ({ cls := "java/util/Objects", name := "requireNonNull", desc := "(Ljava/lang/Object;Ljava/lang/String;)Ljava/lang/Object;" } : Jvm.MethodName) jdk_31_method_11_code (2 : Nat) (Option.some (Jvm.ClassFile.FieldType.object "java/lang/Object")), Jvm.Cond.code ({ cls := "com/example/clausewright/clausewright/Difference", name := "<init>", desc := "(Lcom/example/clausewright/clausewright/Difference$Kind;Lcom/example/clausewright/clausewright/Division;Lcom/example/clausewright/clausewright/Division;)V" } : Jvm.MethodName) prog_10_method_1_code (4 : Nat) (Option.none : Option Jvm.ClassFile.FieldType), Jvm.Cond.code ({ cls := "com/example/clausewright/clausewright/Difference", name := "number", desc := "()Ljava/lang/String;" } : Jvm.MethodName) prog_10_method_2_code (1 : Nat) (Option.some (Jvm.ClassFile.FieldType.object "java/lang/String")), Jvm.Cond.code ({ cls := "com/example/clausewright/clausewright/Division", name := "number", desc := "()Ljava/lang/String;" } : Jvm.MethodName) prog_13_method_7_code (1 : Nat) (Option.some (Jvm.ClassFile.FieldType.object "java/lang/String")), Jvm.Cond.code ({ cls := "java/lang/String", name := "equals", desc := "(Ljava/lang/Object;)Z" } : Jvm.MethodName) jdk_42_method_66_code (3 : Nat) (Option.some Jvm.ClassFile.FieldType.boolean)]
set_option maxRecDepth 65536 in
theorem codes_eq : words1.filter isCode = codes1 := rfl
theorem w_codes : ∀ c ∈ words1.filter isCode, c.before args0 about1 = true := by
  rw [codes_eq]
  intro c hc
  simp only [codes1, List.mem_cons, List.not_mem_nil, or_false] at hc
  rcases hc with rfl | rfl | rfl | rfl | rfl | rfl | rfl | rfl | rfl | rfl | rfl | rfl | rfl | rfl
  · exact w_c0
  · exact w_c1
  · exact w_c2
  · exact w_c3
  · exact w_c4
  · exact w_c5
  · exact w_c6
  · exact w_c7
  · exact w_c8
  · exact w_c9
  · exact w_c10
  · exact w_c11
  · exact w_c12
  · exact w_c13
set_option maxRecDepth 65536 in
theorem w_t1 : (words1.take 24).all (fun c => isCode c || c.before args0 about1) = true := by decide +kernel
set_option maxRecDepth 65536 in
theorem w_t2 : ((words1.drop 24).take 24).all (fun c => isCode c || c.before args0 about1) = true := by decide +kernel
set_option maxRecDepth 65536 in
theorem w_t3 : (((words1.drop 24).drop 24).take 24).all (fun c => isCode c || c.before args0 about1) = true := by decide +kernel
set_option maxRecDepth 65536 in
theorem w_t4 : ((((words1.drop 24).drop 24).drop 24).take 24).all (fun c => isCode c || c.before args0 about1) = true := by decide +kernel
set_option maxRecDepth 65536 in
theorem w_t5 : ((((words1.drop 24).drop 24).drop 24).drop 24).all (fun c => isCode c || c.before args0 about1) = true := by decide +kernel
theorem w_tables : (allAtoms (Jvm.Cond.code x code maxLocals ret :: tables_1)).before args0 about1 = true := by
  rw [allAtoms_all]
  show words1.all (fun c => c.before args0 about1) = true
  refine all_split ?_ w_codes
  rw [← List.take_append_drop 24 words1, List.all_append, w_t1, ← List.take_append_drop 24 (words1.drop 24), List.all_append, w_t2, ← List.take_append_drop 24 ((words1.drop 24).drop 24), List.all_append, w_t3, ← List.take_append_drop 24 (((words1.drop 24).drop 24).drop 24), List.all_append, w_t4, w_t5]
  rfl
set_option maxRecDepth 65536 in
theorem w_rest : rest_1_c.before args0 about1 = true := by decide +kernel
set_option maxRecDepth 65536 in
theorem w_case : (Jvm.Cond.and given_1 narrow_1).before args0 about1 = true := by decide +kernel
theorem w_applies : (headSpec (Jvm.Cond.code x code maxLocals ret :: tables_1) room_1).applies x e0.platform about1 = true :=
  (Spec.applies_iff w_frames).mpr ⟨w_running, w_runnable, w_alone, w_named, w_hears, w_ripe, w_room, w_tables⟩
theorem atStart : AtStart classFile x code maxLocals ret World_1 tables_1 room_1 Calls_1 rest_1 Pre_1 launch0 p0 e0 about1 theMethod args0 below0 :=
  ⟨lists_1, trivial, launch0.admits_env _ _ _, launch0.least_env, fairChoices_fair.cas, fairChoices_fair.clock, w_frames, w_args, w_heap, w_applies, trivial, w_rest, w_case⟩
end start1
theorem witness_1 : WitnessClaimed_1 := ⟨start1.p0, start1.e0, start1.about1, start1.theMethod, start1.args0, start1.below0, start1.atStart⟩
end Jvm.Pilot.@@N@@
