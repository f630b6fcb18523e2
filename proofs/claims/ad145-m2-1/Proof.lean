import JvmDerived
import JvmDerived.Pilot.@@N@@Statement
import JvmDerived.Pilot.@@N@@Code
set_option linter.unusedVariables false
set_option linter.unusedSimpArgs false
namespace Jvm.RoadKit
open Sem ClassFile Op Lib Jvm.Stand Jvm.Free Jvm.LawKit
section New
variable {p : Program} {l : Launch} {e : Env} {R : Room} {s : State} {m : MethodId} {args : Array Value} {below : List Frame} {meth : Method} {c : Code} {T : State} {locs : List Loc} {cells slots : Nat}
theorem retI (X : Stand p l e R s m args below meth c T locs cells slots) (hx : p.tables.exec = Jvm.exec) {pc : Nat} {Ls : Array Slot} {z : Int32} {rest : List Value} (hret : meth.sig.returnType = some .int) (hd : decode c.code pc = .ok (.ireturn, 1)) {fs : List Frame}
    (hl : ∀ (f : JFrame) (acts : List Action), f.method = m → f.locked = none → f.entered = [] → (doReturn e (T.setTop f) acts (some (.int z))).1 = T.setFrames fs) : Steps p.tables e below (T.setTop (mkF m pc Ls (.int z :: rest))) (T.setFrames fs) := by
  have hm' : T.vm.method? m = some meth := X.method'
  have hn : narrow .int (.int z) = .int z := rfl
  show Steps p.tables e below (T.setTop { method := m, pc := pc, locals := Ls, stack := _ :: rest, locked := none }) _
  jvm_step X.here [X.here.top, hx, hd, hm', hret, hn]
  first | (intro acts; rw [hl _ acts rfl rfl rfl]) | rw [hl _ _ rfl rfl rfl]
  exact Steps.refl _
theorem own_retR (X : Stand p l e R s m args below meth c T locs cells slots) (hx : p.tables.exec = Jvm.exec) {pc : Nat} {Ls : Array Slot} {w : Value} {t : FieldType} {rest : List Value} (hret : meth.sig.returnType = some t) (ht : t.isReference = true) (hw : w.isRef = true) (hd : decode c.code pc = .ok (.areturn, 1)) {fs : List Frame}
    (hl : ∀ (f : JFrame) (acts : List Action), f.method = m → f.locked = none → f.entered = [] → (doReturn e (T.setTop f) acts (some w)).1 = T.setFrames fs) : Steps p.tables e below (T.setTop (mkF m pc Ls (w :: rest))) (T.setFrames fs) :=
  retOut X hx hret (by rcases ref_cases hw with rfl | ⟨z, rfl⟩ <;> cases t <;> first | rfl | (cases ht; done)) (Or.inr (Or.inr (Or.inr (Or.inr ⟨rfl, ht, hw⟩)))) hd hl
theorem own_retJ (X : Stand p l e R s m args below meth c T locs cells slots) (hx : p.tables.exec = Jvm.exec) {pc : Nat} {Ls : Array Slot} {z : Int64} {rest : List Value} (hret : meth.sig.returnType = some .long) (hd : decode c.code pc = .ok (.lreturn, 1)) {fs : List Frame}
    (hl : ∀ (f : JFrame) (acts : List Action), f.method = m → f.locked = none → f.entered = [] → (doReturn e (T.setTop f) acts (some (.long z))).1 = T.setFrames fs) : Steps p.tables e below (T.setTop (mkF m pc Ls (.long z :: rest))) (T.setFrames fs) :=
  retOut X hx hret rfl (Or.inr (Or.inl ⟨rfl, rfl, z, rfl⟩)) hd hl
end New
theorem own_eqv {args : Array Value} {first s : State} {o : Option Outcome} {idx : List Nat} {a b : Term} {v : Value} (h : (Jvm.Cond.eq a b).value args first o s idx = some true) (hb : b.eval args first o idx s = some v) (hk : (match v with | .int _ => true | .ref _ => true | .long _ => true | _ => false) = true := by rfl) : a.eval args first o idx s = some v := by
  simp only [Cond.value, hb] at h
  cases ha : a.eval args first o idx s with
  | none => simp [ha] at h
  | some x => cases x <;> cases v <;> simp_all
theorem own_selP {Z s : State} {a0 args : Array Value} {y : MethodName} {n : Nat} (hZ : Z.Warmed39 s.vm) (wi : (Cond.instantiable y.cls n).before a0 Z = true) (wp : (Cond.privateMethod y).before a0 Z = true) (wm : (Cond.instanceMethod y).before a0 Z = true) (hy : y.cls ≠ "java/lang/invoke/MethodHandle" ∧ y.cls ≠ "java/lang/invoke/VarHandle") : (Cond.selects y.cls y y).before args s = true := by
  have wi' : (Cond.instantiable y.cls n).before args s = true := mvT hZ wi
  have wm' : (Cond.instanceMethod y).before args s = true := mvT hZ wm
  obtain ⟨c, k, h1, h2, -, h4, -⟩ := Cond.instantiable_spec wi'
  simp only [Bool.or_eq_false_iff] at h4
  exact selects_self_of_private h1 h2 h4.1 (Cond.privateMethod_at (mvP hZ wp (args := #[]))) wm' hy
theorem own_selQ {Z s : State} {a0 args : Array Value} {y : MethodName} {y' : MethodName} {n' d' : String} (hZ : Z.Warmed39 s.vm) (wi : (Cond.selects y.cls y' ⟨y.cls, n', d'⟩).before a0 Z = true) (wp : (Cond.privateMethod y).before a0 Z = true) (wm : (Cond.instanceMethod y).before a0 Z = true) (hy : y.cls ≠ "java/lang/invoke/MethodHandle" ∧ y.cls ≠ "java/lang/invoke/VarHandle") : (Cond.selects y.cls y y).before args s = true := by
  have wi' : (Cond.selects y.cls y' ⟨y.cls, n', d'⟩).before args s = true := mvT hZ wi
  have wm' : (Cond.instanceMethod y).before args s = true := mvT hZ wm
  obtain ⟨c2, r2, m2, -, -, q3, -, kP, hkP, hkPi⟩ := Cond.selects_spec wi'
  have hc := findClass_of_methodNamed q3
  exact selects_self_of_private (c := m2.cls) hc hkP hkPi (Cond.privateMethod_at (mvP hZ wp (args := #[]))) wm' hy
theorem own_len {args : Array Value} {s : State} {t : Term} {a : Addr} {cl : Cell} {ty : FieldType} {z : Int32} (ht : t.eval args s none [] s = some (.ref a)) (A : Arr s s.heap a cl ty) (h : (Term.length t).eval args s none [] s = some (.int z)) : cl.slots.size < 2 ^ 31 ∧ cl.slots.size.toInt32 = z := by
  have e := A.fin (Vm.Alike.refl _)
  simp only [Term.eval, ht, e, Option.bind_eq_bind, Option.bind_some] at h
  split at h <;> simp_all
end Jvm.RoadKit
namespace Jvm.Pilot.@@N@@
open Jvm Jvm.ClassFile Sem Op Lib Jvm.Free Jvm.Stand Jvm.LawKit Jvm.RoadKit Bundle Jvm.Pilot.@@N@@.Jvm.D
theorem tw {Z : State} {a0 : Array Value} (hw : ∀ d ∈ tables_1, d.before a0 Z = true) (i : Nat) {d : Jvm.Cond} (h : tables_1[i]? = some d) : d.before a0 Z = true := hw d (List.mem_of_getElem? h)
abbrev MF (l : Launch) (Z : State) (y : MethodName) (cd : Jvm.Cond) (ws : List Jvm.Cond) (rm : Room) (A : Array Value) (h0 : Heap) (Q : Option Value → Heap → List Loc → Prop) : Prop := MetFree l y (head1 (cd :: ws) rm) (fun a U => a = A ∧ Z.Warmed39 U.vm ∧ U.heap = h0) (fun _ _ _ _ _ => True) (fun _ U o U' => ∃ v L, o = .returned v ∧ Q v U'.heap L ∧ FrameEnd U o U' L rm.cells rm.slots)
def Fin (p : Program) (e : Env) (below : List Frame) (s : State) (n0 : Nat) (S0 : State) : Prop := ∃ s₂ o, Steps p.tables e below S0 s₂ ∧ s₂.status = .running ∧ Ended s₂ below o ∧ ∃ v L, o = .returned v ∧ (v = some (.int (1 : Int32)) ∧ Fr n0 L) ∧ FrameEnd s o s₂ L room_1.cells room_1.slots
theorem Fin.pre {p : Program} {e : Env} {below : List Frame} {s S0 S1 : State} {n0 : Nat} (k : ∀ t, Steps p.tables e below S1 t → Steps p.tables e below S0 t) (h : Fin p e below s n0 S1) : Fin p e below s n0 S0 := by
  obtain ⟨u, o, h1, h2⟩ := h; exact ⟨u, o, k _ h1, h2⟩
abbrev SF (p : Program) (e : Env) (below : List Frame) (T : State) (g : JFrame) (t : State) : Prop := Steps p.tables e below (T.setTop g) t
abbrev HW (Z : State) (a0 : Array Value) : Prop := ∀ d ∈ tables_1, d.before a0 Z = true
theorem own_mod18 (a : Int32) : ((a &&& (2147483647 : Int32)) % (18 : Int32)) = (0 : Int32) ∨ ((a &&& (2147483647 : Int32)) % (18 : Int32)) = (1 : Int32) ∨ ((a &&& (2147483647 : Int32)) % (18 : Int32)) = (2 : Int32) ∨ ((a &&& (2147483647 : Int32)) % (18 : Int32)) = (3 : Int32) ∨ ((a &&& (2147483647 : Int32)) % (18 : Int32)) = (4 : Int32) ∨ ((a &&& (2147483647 : Int32)) % (18 : Int32)) = (5 : Int32) ∨ ((a &&& (2147483647 : Int32)) % (18 : Int32)) = (6 : Int32) ∨ ((a &&& (2147483647 : Int32)) % (18 : Int32)) = (7 : Int32) ∨ ((a &&& (2147483647 : Int32)) % (18 : Int32)) = (8 : Int32) ∨ ((a &&& (2147483647 : Int32)) % (18 : Int32)) = (9 : Int32) ∨ ((a &&& (2147483647 : Int32)) % (18 : Int32)) = (10 : Int32) ∨ ((a &&& (2147483647 : Int32)) % (18 : Int32)) = (11 : Int32) ∨ ((a &&& (2147483647 : Int32)) % (18 : Int32)) = (12 : Int32) ∨ ((a &&& (2147483647 : Int32)) % (18 : Int32)) = (13 : Int32) ∨ ((a &&& (2147483647 : Int32)) % (18 : Int32)) = (14 : Int32) ∨ ((a &&& (2147483647 : Int32)) % (18 : Int32)) = (15 : Int32) ∨ ((a &&& (2147483647 : Int32)) % (18 : Int32)) = (16 : Int32) ∨ ((a &&& (2147483647 : Int32)) % (18 : Int32)) = (17 : Int32) := by
  have h1 := (c_and a (2147483647 : Int32)) (by decide)
  have h2 := (c_iremV (a &&& (2147483647 : Int32)) (18 : Int32)).1 h1.1 (by decide)
  have e : (18 : Int32).toInt = 18 := rfl
  rw [e] at h2
  simp only [← Int32.toInt_inj]
  show _ = (0 : Int) ∨ _ = (1 : Int) ∨ _ = (2 : Int) ∨ _ = (3 : Int) ∨ _ = (4 : Int) ∨ _ = (5 : Int) ∨ _ = (6 : Int) ∨ _ = (7 : Int) ∨ _ = (8 : Int) ∨ _ = (9 : Int) ∨ _ = (10 : Int) ∨ _ = (11 : Int) ∨ _ = (12 : Int) ∨ _ = (13 : Int) ∨ _ = (14 : Int) ∨ _ = (15 : Int) ∨ _ = (16 : Int) ∨ _ = (17 : Int)
  omega
theorem d1_0 : decode method_2_code 0 = .ok (.iload_n 0, 1) := by decide +kernel
theorem d1_1 : decode method_2_code 1 = .ok (.ifCond .ne 7, 3) := by decide +kernel
theorem d1_4 : decode method_2_code 4 = .ok (.getstatic 7, 3) := by decide +kernel
theorem d1_7 : decode method_2_code 7 = .ok (.areturn, 1) := by decide +kernel
theorem pn_0 : plainName "com/example/edictum/edictum/io/XpathTokensNamesNextPinLaw" = true := by first | (simp [plainName, overriddenIn]; done) | decide +kernel
theorem ef_0 (m : MethodId) (x0 : Int32) : entryFrame m #[(.int x0)] 1 = mkF m 0 #[.val (.int x0)] [] := by first | (simp [entryFrame, mkF, argsToLocals, Value.category]; done) | rfl
-- XpathTokensNamesNextPinLaw.kindOf 
def Q1_1 (Z : State) (w1 : Addr) (h0 : Heap) (n0 : Nat) (v : Option Value) (h : Heap) (L : List Loc) : Prop := v = some (.ref w1) ∧ Fr n0 L ∧ h = h0
set_option maxRecDepth 65536 in
set_option maxHeartbeats 40000000 in
theorem rm1_1 (l : Launch) (Z : State) (a0 : Array Value) (hw : HW Z a0) (ws : List Jvm.Cond) (w1 : Addr) (h0 : Heap) (n0 : Nat) (Z0 : n0 ≤ h0.size) (S0 : Sta Z Z.heap "com/example/edictum/edictum/io/XpathTokens$Kind" "AT" "Lcom/example/edictum/edictum/io/XpathTokens$Kind;" (.ref w1)) (P2 : Old Z n0 h0) :
    MF l Z (⟨"com/example/edictum/edictum/io/XpathTokensNamesNextPinLaw", "kindOf", "(I)Lcom/example/edictum/edictum/io/XpathTokens$Kind;"⟩ : MethodName) (Jvm.Cond.code (⟨"com/example/edictum/edictum/io/XpathTokensNamesNextPinLaw", "kindOf", "(I)Lcom/example/edictum/edictum/io/XpathTokens$Kind;"⟩ : MethodName) method_2_code 1 (some (.object "com/example/edictum/edictum/io/XpathTokens$Kind"))) ws ({ frames := 0, cells := 0, slots := 0, locals := 0 } : Room) #[(.int 0)] h0 (Q1_1 Z w1 h0 n0) := by
  refine MetFree.of_bodySF (plainFor_of_name pn_0) hisR ?_
  intro p e s m args below meth c s₁ Bd hml0 hP hK
  obtain ⟨rfl, hZ, hh⟩ := hP
  have hx := Bd.exec
  have hby := Bd.bytes
  have hml : c.maxLocals = 1 := hml0
  have hown : s.vm.findClass "com/example/edictum/edictum/io/XpathTokensNamesNextPinLaw" = some m.cls := findClass_of_methodNamed Bd.named
  have hnm := (name_of_methodNamed Bd.named Bd.method).1
  have X0 : Stand p l e ({ frames := 0, cells := 0, slots := 0, locals := 0 } : Room) s m #[(.int 0)] below meth c s₁ [] 0 0 := Stand.of_body Bd
  have e0 : s₁.heap = h0 := by rw [← hh, Bd.state]; rfl
  have N0 := Fr.nil n0
  have pre0 : ∀ t, SF p e below s₁ (mkF m 0 #[iv 0] []) t → SF p e below s₁ (entryFrame m #[(.int 0)] 1) t := fun t k => castTop (ef_0 m (0 : Int32)) k
  obtain ⟨T1, X1, e1, st1⟩ := getS2 X0 hx hZ hown (host := "") (Or.inl (tw hw 5 rfl)) Via.refl e0 (S0.ext P2.2) (g := (mkF m 4 #[iv 0] [])) rfl (hb hby d1_4)
  obtain ⟨fs, hr, hrun, hended, hW, hsame⟩ := X1.leave (v := some (.ref w1)) (fun h => by rw [Bd.returns] at h; cases h)
  refine ⟨_, _, pre0 _ ?_, hrun, hended, _, _, rfl, ?_, ⟨_, rfl⟩, hW, hsame.mono (by decide) (by decide)⟩
  · show SF p e below s₁ (mkF m 0 #[iv 0] []) _
    refine XS.iloadN X0.here hx rfl (hb hby d1_0) rfl ?_
    show SF p e below s₁ (mkF m 1 #[iv 0] [(.int 0)]) _
    refine XS.ifNo X0.here hx rfl (hb hby d1_1) rfl ((if0 _ _).trans (teq (by decide : (0 : Int32) = (0 : Int32))).2) ?_
    show SF p e below s₁ (mkF m 4 #[iv 0] []) _
    refine st1 _ ?_
    show SF p e below T1 (mkF m 7 #[iv 0] [(.ref w1)]) _
    exact own_retR X1 hx Bd.returns rfl rfl (hb hby d1_7) hr
  · show Q1_1 Z w1 h0 n0 _ T1.heap _
    rw [e1]
    exact ⟨rfl, N0, rfl⟩
theorem pd_0 : parseMethodDescriptor "(I)Lcom/example/edictum/edictum/io/XpathTokens$Kind;" = some ⟨[.int], some (.object "com/example/edictum/edictum/io/XpathTokens$Kind")⟩ := by decide +kernel
theorem d2_0 : decode method_3_code 0 = .ok (.aload_n 0, 1) := by decide +kernel
theorem d2_1 : decode method_3_code 1 = .ok (.getstatic 25, 3) := by decide +kernel
theorem d2_4 : decode method_3_code 4 = .ok (.if_acmp .eq 66, 3) := by decide +kernel
theorem d2_7 : decode method_3_code 7 = .ok (.aload_n 0, 1) := by decide +kernel
theorem d2_8 : decode method_3_code 8 = .ok (.getstatic 28, 3) := by decide +kernel
theorem d2_11 : decode method_3_code 11 = .ok (.if_acmp .eq 59, 3) := by decide +kernel
theorem d2_14 : decode method_3_code 14 = .ok (.aload_n 0, 1) := by decide +kernel
theorem d2_15 : decode method_3_code 15 = .ok (.getstatic 40, 3) := by decide +kernel
theorem d2_18 : decode method_3_code 18 = .ok (.if_acmp .eq 52, 3) := by decide +kernel
theorem d2_21 : decode method_3_code 21 = .ok (.aload_n 0, 1) := by decide +kernel
theorem d2_22 : decode method_3_code 22 = .ok (.getstatic 43, 3) := by decide +kernel
theorem d2_25 : decode method_3_code 25 = .ok (.if_acmp .eq 45, 3) := by decide +kernel
theorem d2_28 : decode method_3_code 28 = .ok (.aload_n 0, 1) := by decide +kernel
theorem d2_29 : decode method_3_code 29 = .ok (.getstatic 46, 3) := by decide +kernel
theorem d2_32 : decode method_3_code 32 = .ok (.if_acmp .eq 38, 3) := by decide +kernel
theorem d2_35 : decode method_3_code 35 = .ok (.aload_n 0, 1) := by decide +kernel
theorem d2_36 : decode method_3_code 36 = .ok (.getstatic 49, 3) := by decide +kernel
theorem d2_39 : decode method_3_code 39 = .ok (.if_acmp .eq 31, 3) := by decide +kernel
theorem d2_42 : decode method_3_code 42 = .ok (.aload_n 0, 1) := by decide +kernel
theorem d2_43 : decode method_3_code 43 = .ok (.getstatic 52, 3) := by decide +kernel
theorem d2_46 : decode method_3_code 46 = .ok (.if_acmp .eq 24, 3) := by decide +kernel
theorem d2_49 : decode method_3_code 49 = .ok (.aload_n 0, 1) := by decide +kernel
theorem d2_50 : decode method_3_code 50 = .ok (.getstatic 55, 3) := by decide +kernel
theorem d2_53 : decode method_3_code 53 = .ok (.if_acmp .eq 17, 3) := by decide +kernel
theorem d2_56 : decode method_3_code 56 = .ok (.aload_n 0, 1) := by decide +kernel
theorem d2_57 : decode method_3_code 57 = .ok (.getstatic 58, 3) := by decide +kernel
theorem d2_60 : decode method_3_code 60 = .ok (.if_acmp .eq 10, 3) := by decide +kernel
theorem d2_63 : decode method_3_code 63 = .ok (.aload_n 0, 1) := by decide +kernel
theorem d2_64 : decode method_3_code 64 = .ok (.getstatic 61, 3) := by decide +kernel
theorem d2_67 : decode method_3_code 67 = .ok (.if_acmp .ne 7, 3) := by decide +kernel
theorem d2_74 : decode method_3_code 74 = .ok (.iconst 0, 1) := by decide +kernel
theorem d2_75 : decode method_3_code 75 = .ok (.ireturn, 1) := by decide +kernel
theorem ef_1 (m : MethodId) (x0 : Addr) : entryFrame m #[(.ref x0)] 1 = mkF m 0 #[.val (.ref x0)] [] := by first | (simp [entryFrame, mkF, argsToLocals, Value.category]; done) | rfl
-- XpathTokensNamesNextPinLaw.endsOperand 
def Q2_2 (Z : State) (w1 : Addr) (w2 : Addr) (w3 : Addr) (w4 : Addr) (w5 : Addr) (w6 : Addr) (w7 : Addr) (w8 : Addr) (w9 : Addr) (w10 : Addr) (w11 : Addr) (h0 : Heap) (n0 : Nat) (v : Option Value) (h : Heap) (L : List Loc) : Prop := v = some (.int 0) ∧ Fr n0 L ∧ h = h0
set_option maxRecDepth 65536 in
set_option maxHeartbeats 40000000 in
theorem rm2_2 (l : Launch) (Z : State) (a0 : Array Value) (hw : HW Z a0) (ws : List Jvm.Cond) (w1 : Addr) (w2 : Addr) (w3 : Addr) (w4 : Addr) (w5 : Addr) (w6 : Addr) (w7 : Addr) (w8 : Addr) (w9 : Addr) (w10 : Addr) (w11 : Addr) (h0 : Heap) (n0 : Nat) (Z0 : n0 ≤ h0.size) (S2 : Sta Z Z.heap "com/example/edictum/edictum/io/XpathTokens$Kind" "RIGHT_PAREN" "Lcom/example/edictum/edictum/io/XpathTokens$Kind;" (.ref w2)) (P2 : Old Z n0 h0) (F_w1_ordinal : Fld Z Z.heap w1 "java/lang/Enum" "ordinal" "I" (.int 0)) (F_w2_ordinal : Fld Z Z.heap w2 "java/lang/Enum" "ordinal" "I" (.int 5)) (S4 : Sta Z Z.heap "com/example/edictum/edictum/io/XpathTokens$Kind" "RIGHT_BRACKET" "Lcom/example/edictum/edictum/io/XpathTokens$Kind;" (.ref w3)) (F_w3_ordinal : Fld Z Z.heap w3 "java/lang/Enum" "ordinal" "I" (.int 6)) (S6 : Sta Z Z.heap "com/example/edictum/edictum/io/XpathTokens$Kind" "AXIS" "Lcom/example/edictum/edictum/io/XpathTokens$Kind;" (.ref w4)) (F_w4_ordinal : Fld Z Z.heap w4 "java/lang/Enum" "ordinal" "I" (.int 10)) (S8 : Sta Z Z.heap "com/example/edictum/edictum/io/XpathTokens$Kind" "FUNCTION" "Lcom/example/edictum/edictum/io/XpathTokens$Kind;" (.ref w5)) (F_w5_ordinal : Fld Z Z.heap w5 "java/lang/Enum" "ordinal" "I" (.int 11)) (S10 : Sta Z Z.heap "com/example/edictum/edictum/io/XpathTokens$Kind" "NODE_TYPE" "Lcom/example/edictum/edictum/io/XpathTokens$Kind;" (.ref w6)) (F_w6_ordinal : Fld Z Z.heap w6 "java/lang/Enum" "ordinal" "I" (.int 12)) (S12 : Sta Z Z.heap "com/example/edictum/edictum/io/XpathTokens$Kind" "NAME_TEST" "Lcom/example/edictum/edictum/io/XpathTokens$Kind;" (.ref w7)) (F_w7_ordinal : Fld Z Z.heap w7 "java/lang/Enum" "ordinal" "I" (.int 13)) (S14 : Sta Z Z.heap "com/example/edictum/edictum/io/XpathTokens$Kind" "DOT" "Lcom/example/edictum/edictum/io/XpathTokens$Kind;" (.ref w8)) (F_w8_ordinal : Fld Z Z.heap w8 "java/lang/Enum" "ordinal" "I" (.int 14)) (S16 : Sta Z Z.heap "com/example/edictum/edictum/io/XpathTokens$Kind" "DOT_DOT" "Lcom/example/edictum/edictum/io/XpathTokens$Kind;" (.ref w9)) (F_w9_ordinal : Fld Z Z.heap w9 "java/lang/Enum" "ordinal" "I" (.int 15)) (S18 : Sta Z Z.heap "com/example/edictum/edictum/io/XpathTokens$Kind" "LITERAL" "Lcom/example/edictum/edictum/io/XpathTokens$Kind;" (.ref w10)) (F_w10_ordinal : Fld Z Z.heap w10 "java/lang/Enum" "ordinal" "I" (.int 16)) (S20 : Sta Z Z.heap "com/example/edictum/edictum/io/XpathTokens$Kind" "NUMBER" "Lcom/example/edictum/edictum/io/XpathTokens$Kind;" (.ref w11)) (F_w11_ordinal : Fld Z Z.heap w11 "java/lang/Enum" "ordinal" "I" (.int 17)) :
    MF l Z (⟨"com/example/edictum/edictum/io/XpathTokensNamesNextPinLaw", "endsOperand", "(Lcom/example/edictum/edictum/io/XpathTokens$Kind;)Z"⟩ : MethodName) (Jvm.Cond.code (⟨"com/example/edictum/edictum/io/XpathTokensNamesNextPinLaw", "endsOperand", "(Lcom/example/edictum/edictum/io/XpathTokens$Kind;)Z"⟩ : MethodName) method_3_code 1 (some .boolean)) ws ({ frames := 0, cells := 0, slots := 0, locals := 0 } : Room) #[(.ref w1)] h0 (Q2_2 Z w1 w2 w3 w4 w5 w6 w7 w8 w9 w10 w11 h0 n0) := by
  refine MetFree.of_bodySF (plainFor_of_name pn_0) hisR ?_
  intro p e s m args below meth c s₁ Bd hml0 hP hK
  obtain ⟨rfl, hZ, hh⟩ := hP
  have hx := Bd.exec
  have hby := Bd.bytes
  have hml : c.maxLocals = 1 := hml0
  have hown : s.vm.findClass "com/example/edictum/edictum/io/XpathTokensNamesNextPinLaw" = some m.cls := findClass_of_methodNamed Bd.named
  have hnm := (name_of_methodNamed Bd.named Bd.method).1
  have X0 : Stand p l e ({ frames := 0, cells := 0, slots := 0, locals := 0 } : Room) s m #[(.ref w1)] below meth c s₁ [] 0 0 := Stand.of_body Bd
  have e0 : s₁.heap = h0 := by rw [← hh, Bd.state]; rfl
  have N0 := Fr.nil n0
  have pre0 : ∀ t, SF p e below s₁ (mkF m 0 #[rv w1] []) t → SF p e below s₁ (entryFrame m #[(.ref w1)] 1) t := fun t k => castTop (ef_1 m w1) k
  obtain ⟨T1, X1, e1, st1⟩ := getS2 X0 hx hZ hown (host := "") (Or.inl (tw hw 11 rfl)) Via.refl e0 (S2.ext P2.2) (g := (mkF m 1 #[rv w1] [(.ref w1)])) rfl (hb hby d2_1)
  obtain ⟨T2, X2, e2, st2⟩ := getS2 X1 hx hZ hown (host := "") (Or.inl (tw hw 13 rfl)) Via.refl e1 (S4.ext P2.2) (g := (mkF m 8 #[rv w1] [(.ref w1)])) rfl (hb hby d2_8)
  obtain ⟨T3, X3, e3, st3⟩ := getS2 X2 hx hZ hown (host := "") (Or.inl (tw hw 15 rfl)) Via.refl e2 (S6.ext P2.2) (g := (mkF m 15 #[rv w1] [(.ref w1)])) rfl (hb hby d2_15)
  obtain ⟨T4, X4, e4, st4⟩ := getS2 X3 hx hZ hown (host := "") (Or.inl (tw hw 17 rfl)) Via.refl e3 (S8.ext P2.2) (g := (mkF m 22 #[rv w1] [(.ref w1)])) rfl (hb hby d2_22)
  obtain ⟨T5, X5, e5, st5⟩ := getS2 X4 hx hZ hown (host := "") (Or.inl (tw hw 19 rfl)) Via.refl e4 (S10.ext P2.2) (g := (mkF m 29 #[rv w1] [(.ref w1)])) rfl (hb hby d2_29)
  obtain ⟨T6, X6, e6, st6⟩ := getS2 X5 hx hZ hown (host := "") (Or.inl (tw hw 21 rfl)) Via.refl e5 (S12.ext P2.2) (g := (mkF m 36 #[rv w1] [(.ref w1)])) rfl (hb hby d2_36)
  obtain ⟨T7, X7, e7, st7⟩ := getS2 X6 hx hZ hown (host := "") (Or.inl (tw hw 23 rfl)) Via.refl e6 (S14.ext P2.2) (g := (mkF m 43 #[rv w1] [(.ref w1)])) rfl (hb hby d2_43)
  obtain ⟨T8, X8, e8, st8⟩ := getS2 X7 hx hZ hown (host := "") (Or.inl (tw hw 25 rfl)) Via.refl e7 (S16.ext P2.2) (g := (mkF m 50 #[rv w1] [(.ref w1)])) rfl (hb hby d2_50)
  obtain ⟨T9, X9, e9, st9⟩ := getS2 X8 hx hZ hown (host := "") (Or.inl (tw hw 27 rfl)) Via.refl e8 (S18.ext P2.2) (g := (mkF m 57 #[rv w1] [(.ref w1)])) rfl (hb hby d2_57)
  obtain ⟨T10, X10, e10, st10⟩ := getS2 X9 hx hZ hown (host := "") (Or.inl (tw hw 29 rfl)) Via.refl e9 (S20.ext P2.2) (g := (mkF m 64 #[rv w1] [(.ref w1)])) rfl (hb hby d2_64)
  obtain ⟨fs, hr, hrun, hended, hW, hsame⟩ := X10.leave (v := some (.int 0)) (fun h => by rw [Bd.returns] at h; cases h)
  refine ⟨_, _, pre0 _ ?_, hrun, hended, _, _, rfl, ?_, ⟨_, rfl⟩, hW, hsame.mono (by decide) (by decide)⟩
  · show SF p e below s₁ (mkF m 0 #[rv w1] []) _
    refine XS.aloadN X0.here hx rfl (hb hby d2_0) rfl rfl ?_
    show SF p e below s₁ (mkF m 1 #[rv w1] [(.ref w1)]) _
    refine st1 _ ?_
    show SF p e below T1 (mkF m 4 #[rv w1] [(.ref w2), (.ref w1)]) _
    refine Jvm.RoadKit.acmp (g := (mkF m 4 #[rv w1] [(.ref w2), (.ref w1)])) X1 hx rfl rfl rfl (pc0 := 4) (pc' := 7) (same := false) rfl (hb hby d2_4) rfl (decide_eq_false fun q => (Fld.ne F_w1_ordinal F_w2_ordinal (by decide)) (Value.ref.inj q)) (by decide) (by decide) ?_
    show SF p e below T1 (mkF m 7 #[rv w1] []) _
    refine XS.aloadN X1.here hx rfl (hb hby d2_7) rfl rfl ?_
    show SF p e below T1 (mkF m 8 #[rv w1] [(.ref w1)]) _
    refine st2 _ ?_
    show SF p e below T2 (mkF m 11 #[rv w1] [(.ref w3), (.ref w1)]) _
    refine Jvm.RoadKit.acmp (g := (mkF m 11 #[rv w1] [(.ref w3), (.ref w1)])) X2 hx rfl rfl rfl (pc0 := 11) (pc' := 14) (same := false) rfl (hb hby d2_11) rfl (decide_eq_false fun q => (Fld.ne F_w1_ordinal F_w3_ordinal (by decide)) (Value.ref.inj q)) (by decide) (by decide) ?_
    show SF p e below T2 (mkF m 14 #[rv w1] []) _
    refine XS.aloadN X2.here hx rfl (hb hby d2_14) rfl rfl ?_
    show SF p e below T2 (mkF m 15 #[rv w1] [(.ref w1)]) _
    refine st3 _ ?_
    show SF p e below T3 (mkF m 18 #[rv w1] [(.ref w4), (.ref w1)]) _
    refine Jvm.RoadKit.acmp (g := (mkF m 18 #[rv w1] [(.ref w4), (.ref w1)])) X3 hx rfl rfl rfl (pc0 := 18) (pc' := 21) (same := false) rfl (hb hby d2_18) rfl (decide_eq_false fun q => (Fld.ne F_w1_ordinal F_w4_ordinal (by decide)) (Value.ref.inj q)) (by decide) (by decide) ?_
    show SF p e below T3 (mkF m 21 #[rv w1] []) _
    refine XS.aloadN X3.here hx rfl (hb hby d2_21) rfl rfl ?_
    show SF p e below T3 (mkF m 22 #[rv w1] [(.ref w1)]) _
    refine st4 _ ?_
    show SF p e below T4 (mkF m 25 #[rv w1] [(.ref w5), (.ref w1)]) _
    refine Jvm.RoadKit.acmp (g := (mkF m 25 #[rv w1] [(.ref w5), (.ref w1)])) X4 hx rfl rfl rfl (pc0 := 25) (pc' := 28) (same := false) rfl (hb hby d2_25) rfl (decide_eq_false fun q => (Fld.ne F_w1_ordinal F_w5_ordinal (by decide)) (Value.ref.inj q)) (by decide) (by decide) ?_
    show SF p e below T4 (mkF m 28 #[rv w1] []) _
    refine XS.aloadN X4.here hx rfl (hb hby d2_28) rfl rfl ?_
    show SF p e below T4 (mkF m 29 #[rv w1] [(.ref w1)]) _
    refine st5 _ ?_
    show SF p e below T5 (mkF m 32 #[rv w1] [(.ref w6), (.ref w1)]) _
    refine Jvm.RoadKit.acmp (g := (mkF m 32 #[rv w1] [(.ref w6), (.ref w1)])) X5 hx rfl rfl rfl (pc0 := 32) (pc' := 35) (same := false) rfl (hb hby d2_32) rfl (decide_eq_false fun q => (Fld.ne F_w1_ordinal F_w6_ordinal (by decide)) (Value.ref.inj q)) (by decide) (by decide) ?_
    show SF p e below T5 (mkF m 35 #[rv w1] []) _
    refine XS.aloadN X5.here hx rfl (hb hby d2_35) rfl rfl ?_
    show SF p e below T5 (mkF m 36 #[rv w1] [(.ref w1)]) _
    refine st6 _ ?_
    show SF p e below T6 (mkF m 39 #[rv w1] [(.ref w7), (.ref w1)]) _
    refine Jvm.RoadKit.acmp (g := (mkF m 39 #[rv w1] [(.ref w7), (.ref w1)])) X6 hx rfl rfl rfl (pc0 := 39) (pc' := 42) (same := false) rfl (hb hby d2_39) rfl (decide_eq_false fun q => (Fld.ne F_w1_ordinal F_w7_ordinal (by decide)) (Value.ref.inj q)) (by decide) (by decide) ?_
    show SF p e below T6 (mkF m 42 #[rv w1] []) _
    refine XS.aloadN X6.here hx rfl (hb hby d2_42) rfl rfl ?_
    show SF p e below T6 (mkF m 43 #[rv w1] [(.ref w1)]) _
    refine st7 _ ?_
    show SF p e below T7 (mkF m 46 #[rv w1] [(.ref w8), (.ref w1)]) _
    refine Jvm.RoadKit.acmp (g := (mkF m 46 #[rv w1] [(.ref w8), (.ref w1)])) X7 hx rfl rfl rfl (pc0 := 46) (pc' := 49) (same := false) rfl (hb hby d2_46) rfl (decide_eq_false fun q => (Fld.ne F_w1_ordinal F_w8_ordinal (by decide)) (Value.ref.inj q)) (by decide) (by decide) ?_
    show SF p e below T7 (mkF m 49 #[rv w1] []) _
    refine XS.aloadN X7.here hx rfl (hb hby d2_49) rfl rfl ?_
    show SF p e below T7 (mkF m 50 #[rv w1] [(.ref w1)]) _
    refine st8 _ ?_
    show SF p e below T8 (mkF m 53 #[rv w1] [(.ref w9), (.ref w1)]) _
    refine Jvm.RoadKit.acmp (g := (mkF m 53 #[rv w1] [(.ref w9), (.ref w1)])) X8 hx rfl rfl rfl (pc0 := 53) (pc' := 56) (same := false) rfl (hb hby d2_53) rfl (decide_eq_false fun q => (Fld.ne F_w1_ordinal F_w9_ordinal (by decide)) (Value.ref.inj q)) (by decide) (by decide) ?_
    show SF p e below T8 (mkF m 56 #[rv w1] []) _
    refine XS.aloadN X8.here hx rfl (hb hby d2_56) rfl rfl ?_
    show SF p e below T8 (mkF m 57 #[rv w1] [(.ref w1)]) _
    refine st9 _ ?_
    show SF p e below T9 (mkF m 60 #[rv w1] [(.ref w10), (.ref w1)]) _
    refine Jvm.RoadKit.acmp (g := (mkF m 60 #[rv w1] [(.ref w10), (.ref w1)])) X9 hx rfl rfl rfl (pc0 := 60) (pc' := 63) (same := false) rfl (hb hby d2_60) rfl (decide_eq_false fun q => (Fld.ne F_w1_ordinal F_w10_ordinal (by decide)) (Value.ref.inj q)) (by decide) (by decide) ?_
    show SF p e below T9 (mkF m 63 #[rv w1] []) _
    refine XS.aloadN X9.here hx rfl (hb hby d2_63) rfl rfl ?_
    show SF p e below T9 (mkF m 64 #[rv w1] [(.ref w1)]) _
    refine st10 _ ?_
    show SF p e below T10 (mkF m 67 #[rv w1] [(.ref w11), (.ref w1)]) _
    refine Jvm.RoadKit.acmp (g := (mkF m 67 #[rv w1] [(.ref w11), (.ref w1)])) X10 hx rfl rfl rfl (pc0 := 67) (pc' := 74) (same := false) rfl (hb hby d2_67) rfl (decide_eq_false fun q => (Fld.ne F_w1_ordinal F_w11_ordinal (by decide)) (Value.ref.inj q)) (by decide) (by decide) ?_
    show SF p e below T10 (mkF m 74 #[rv w1] []) _
    refine XS.iconst X10.here hx rfl (hb hby d2_74) ?_
    show SF p e below T10 (mkF m 75 #[rv w1] [(.int 0)]) _
    exact retN X10 hx (t := .boolean) Bd.returns (by simp) (hb hby d2_75) hr
  · show Q2_2 Z w1 w2 w3 w4 w5 w6 w7 w8 w9 w10 w11 h0 n0 _ T10.heap _
    rw [e10]
    exact ⟨rfl, N0, rfl⟩
theorem pd_1 : parseMethodDescriptor "(Lcom/example/edictum/edictum/io/XpathTokens$Kind;)Z" = some ⟨[(.object "com/example/edictum/edictum/io/XpathTokens$Kind")], some .boolean⟩ := by decide +kernel
theorem d3_0 : decode prog_251_method_4_code 0 = .ok (.aload_n 0, 1) := by decide +kernel
theorem d3_1 : decode prog_251_method_4_code 1 = .ok (.getstatic 3, 3) := by decide +kernel
theorem d3_4 : decode prog_251_method_4_code 4 = .ok (.if_acmp .eq 52, 3) := by decide +kernel
theorem d3_56 : decode prog_251_method_4_code 56 = .ok (.iconst 1, 1) := by decide +kernel
theorem d3_57 : decode prog_251_method_4_code 57 = .ok (.goto 4, 3) := by decide +kernel
theorem d3_61 : decode prog_251_method_4_code 61 = .ok (.ireturn, 1) := by decide +kernel
theorem pn_1 : plainName "com/example/edictum/edictum/io/XpathTokens$Kind" = true := by first | (simp [plainName, overriddenIn]; done) | decide +kernel
theorem ef_2 (m : MethodId) (x0 : Addr) : entryFrame m #[(.ref x0)] 1 = mkF m 0 #[.val (.ref x0)] [] := by first | (simp [entryFrame, mkF, argsToLocals, Value.category]; done) | rfl
-- XpathTokens$Kind.namesNext 
def Q3_3 (Z : State) (w1 : Addr) (h0 : Heap) (n0 : Nat) (v : Option Value) (h : Heap) (L : List Loc) : Prop := v = some (.int 1) ∧ Fr n0 L ∧ h = h0
set_option maxRecDepth 65536 in
set_option maxHeartbeats 40000000 in
theorem rm3_3 (l : Launch) (Z : State) (a0 : Array Value) (hw : HW Z a0) (ws : List Jvm.Cond) (w1 : Addr) (h0 : Heap) (n0 : Nat) (Z0 : n0 ≤ h0.size) (S0 : Sta Z Z.heap "com/example/edictum/edictum/io/XpathTokens$Kind" "AT" "Lcom/example/edictum/edictum/io/XpathTokens$Kind;" (.ref w1)) (P2 : Old Z n0 h0) :
    MF l Z (⟨"com/example/edictum/edictum/io/XpathTokens$Kind", "namesNext", "()Z"⟩ : MethodName) (Jvm.Cond.code (⟨"com/example/edictum/edictum/io/XpathTokens$Kind", "namesNext", "()Z"⟩ : MethodName) prog_251_method_4_code 1 (some .boolean)) ws ({ frames := 0, cells := 0, slots := 0, locals := 0 } : Room) #[(.ref w1)] h0 (Q3_3 Z w1 h0 n0) := by
  refine MetFree.of_bodySF (plainFor_of_name pn_1) hisR ?_
  intro p e s m args below meth c s₁ Bd hml0 hP hK
  obtain ⟨rfl, hZ, hh⟩ := hP
  have hx := Bd.exec
  have hby := Bd.bytes
  have hml : c.maxLocals = 1 := hml0
  have hown : s.vm.findClass "com/example/edictum/edictum/io/XpathTokens$Kind" = some m.cls := findClass_of_methodNamed Bd.named
  have hnm := (name_of_methodNamed Bd.named Bd.method).1
  have X0 : Stand p l e ({ frames := 0, cells := 0, slots := 0, locals := 0 } : Room) s m #[(.ref w1)] below meth c s₁ [] 0 0 := Stand.of_body Bd
  have e0 : s₁.heap = h0 := by rw [← hh, Bd.state]; rfl
  have N0 := Fr.nil n0
  have pre0 : ∀ t, SF p e below s₁ (mkF m 0 #[rv w1] []) t → SF p e below s₁ (entryFrame m #[(.ref w1)] 1) t := fun t k => castTop (ef_2 m w1) k
  obtain ⟨T1, X1, e1, st1⟩ := getS2 X0 hx hZ hown (host := "") (Or.inl (tw hw 36 rfl)) Via.refl e0 (S0.ext P2.2) (g := (mkF m 1 #[rv w1] [(.ref w1)])) rfl (hb hby d3_1)
  obtain ⟨fs, hr, hrun, hended, hW, hsame⟩ := X1.leave (v := some (.int 1)) (fun h => by rw [Bd.returns] at h; cases h)
  refine ⟨_, _, pre0 _ ?_, hrun, hended, _, _, rfl, ?_, ⟨_, rfl⟩, hW, hsame.mono (by decide) (by decide)⟩
  · show SF p e below s₁ (mkF m 0 #[rv w1] []) _
    refine XS.aloadN X0.here hx rfl (hb hby d3_0) rfl rfl ?_
    show SF p e below s₁ (mkF m 1 #[rv w1] [(.ref w1)]) _
    refine st1 _ ?_
    show SF p e below T1 (mkF m 4 #[rv w1] [(.ref w1), (.ref w1)]) _
    refine Jvm.RoadKit.acmp (g := (mkF m 4 #[rv w1] [(.ref w1), (.ref w1)])) X1 hx rfl rfl rfl (pc0 := 4) (pc' := 56) (same := true) rfl (hb hby d3_4) rfl (decide_eq_true rfl) (by decide) (by decide) ?_
    show SF p e below T1 (mkF m 56 #[rv w1] []) _
    refine XS.iconst X1.here hx rfl (hb hby d3_56) ?_
    show SF p e below T1 (mkF m 57 #[rv w1] [(.int 1)]) _
    refine XS.goto X1.here hx rfl (pc0 := 57) (pc' := 61) rfl (hb hby d3_57) (by decide) (by decide) ?_
    show SF p e below T1 (mkF m 61 #[rv w1] [(.int 1)]) _
    exact retN X1 hx (t := .boolean) Bd.returns (by simp) (hb hby d3_61) hr
  · show Q3_3 Z w1 h0 n0 _ T1.heap _
    rw [e1]
    exact ⟨rfl, N0, rfl⟩
theorem pd_2 : parseMethodDescriptor "()Z" = some ⟨[], some .boolean⟩ := by decide +kernel
theorem d1_8 : decode method_2_code 8 = .ok (.iload_n 0, 1) := by decide +kernel
theorem d1_9 : decode method_2_code 9 = .ok (.iconst 1, 1) := by decide +kernel
theorem d1_10 : decode method_2_code 10 = .ok (.if_icmp .ne 7, 3) := by decide +kernel
theorem d1_13 : decode method_2_code 13 = .ok (.getstatic 13, 3) := by decide +kernel
theorem d1_16 : decode method_2_code 16 = .ok (.areturn, 1) := by decide +kernel
-- XpathTokensNamesNextPinLaw.kindOf 
def Q1_4 (Z : State) (w13 : Addr) (h0 : Heap) (n0 : Nat) (v : Option Value) (h : Heap) (L : List Loc) : Prop := v = some (.ref w13) ∧ Fr n0 L ∧ h = h0
set_option maxRecDepth 65536 in
set_option maxHeartbeats 40000000 in
theorem rm1_4 (l : Launch) (Z : State) (a0 : Array Value) (hw : HW Z a0) (ws : List Jvm.Cond) (w13 : Addr) (h0 : Heap) (n0 : Nat) (Z0 : n0 ≤ h0.size) (S24 : Sta Z Z.heap "com/example/edictum/edictum/io/XpathTokens$Kind" "AXIS_SEPARATOR" "Lcom/example/edictum/edictum/io/XpathTokens$Kind;" (.ref w13)) (P2 : Old Z n0 h0) :
    MF l Z (⟨"com/example/edictum/edictum/io/XpathTokensNamesNextPinLaw", "kindOf", "(I)Lcom/example/edictum/edictum/io/XpathTokens$Kind;"⟩ : MethodName) (Jvm.Cond.code (⟨"com/example/edictum/edictum/io/XpathTokensNamesNextPinLaw", "kindOf", "(I)Lcom/example/edictum/edictum/io/XpathTokens$Kind;"⟩ : MethodName) method_2_code 1 (some (.object "com/example/edictum/edictum/io/XpathTokens$Kind"))) ws ({ frames := 0, cells := 0, slots := 0, locals := 0 } : Room) #[(.int 1)] h0 (Q1_4 Z w13 h0 n0) := by
  refine MetFree.of_bodySF (plainFor_of_name pn_0) hisR ?_
  intro p e s m args below meth c s₁ Bd hml0 hP hK
  obtain ⟨rfl, hZ, hh⟩ := hP
  have hx := Bd.exec
  have hby := Bd.bytes
  have hml : c.maxLocals = 1 := hml0
  have hown : s.vm.findClass "com/example/edictum/edictum/io/XpathTokensNamesNextPinLaw" = some m.cls := findClass_of_methodNamed Bd.named
  have hnm := (name_of_methodNamed Bd.named Bd.method).1
  have X0 : Stand p l e ({ frames := 0, cells := 0, slots := 0, locals := 0 } : Room) s m #[(.int 1)] below meth c s₁ [] 0 0 := Stand.of_body Bd
  have e0 : s₁.heap = h0 := by rw [← hh, Bd.state]; rfl
  have N0 := Fr.nil n0
  have pre0 : ∀ t, SF p e below s₁ (mkF m 0 #[iv 1] []) t → SF p e below s₁ (entryFrame m #[(.int 1)] 1) t := fun t k => castTop (ef_0 m (1 : Int32)) k
  obtain ⟨T1, X1, e1, st1⟩ := getS2 X0 hx hZ hown (host := "") (Or.inl (tw hw 45 rfl)) Via.refl e0 (S24.ext P2.2) (g := (mkF m 13 #[iv 1] [])) rfl (hb hby d1_13)
  obtain ⟨fs, hr, hrun, hended, hW, hsame⟩ := X1.leave (v := some (.ref w13)) (fun h => by rw [Bd.returns] at h; cases h)
  refine ⟨_, _, pre0 _ ?_, hrun, hended, _, _, rfl, ?_, ⟨_, rfl⟩, hW, hsame.mono (by decide) (by decide)⟩
  · show SF p e below s₁ (mkF m 0 #[iv 1] []) _
    refine XS.iloadN X0.here hx rfl (hb hby d1_0) rfl ?_
    show SF p e below s₁ (mkF m 1 #[iv 1] [(.int 1)]) _
    refine XS.ifYes X0.here hx rfl (pc0 := 1) (pc' := 8) rfl (hb hby d1_1) rfl ((if0 _ _).trans (feq (by decide : ¬ ((1 : Int32) = (0 : Int32)))).2) (by decide) (by decide) ?_
    show SF p e below s₁ (mkF m 8 #[iv 1] []) _
    refine XS.iloadN X0.here hx rfl (hb hby d1_8) rfl ?_
    show SF p e below s₁ (mkF m 9 #[iv 1] [(.int 1)]) _
    refine XS.iconst X0.here hx rfl (hb hby d1_9) ?_
    show SF p e below s₁ (mkF m 10 #[iv 1] [(.int 1), (.int 1)]) _
    refine XS.icmpNo X0.here hx rfl (hb hby d1_10) rfl (teq (by decide : (1 : Int32) = (1 : Int32))).2 ?_
    show SF p e below s₁ (mkF m 13 #[iv 1] []) _
    refine st1 _ ?_
    show SF p e below T1 (mkF m 16 #[iv 1] [(.ref w13)]) _
    exact own_retR X1 hx Bd.returns rfl rfl (hb hby d1_16) hr
  · show Q1_4 Z w13 h0 n0 _ T1.heap _
    rw [e1]
    exact ⟨rfl, N0, rfl⟩
-- XpathTokensNamesNextPinLaw.endsOperand 
def Q2_5 (Z : State) (w13 : Addr) (w2 : Addr) (w3 : Addr) (w4 : Addr) (w5 : Addr) (w6 : Addr) (w7 : Addr) (w8 : Addr) (w9 : Addr) (w10 : Addr) (w11 : Addr) (h0 : Heap) (n0 : Nat) (v : Option Value) (h : Heap) (L : List Loc) : Prop := v = some (.int 0) ∧ Fr n0 L ∧ h = h0
set_option maxRecDepth 65536 in
set_option maxHeartbeats 40000000 in
theorem rm2_5 (l : Launch) (Z : State) (a0 : Array Value) (hw : HW Z a0) (ws : List Jvm.Cond) (w13 : Addr) (w2 : Addr) (w3 : Addr) (w4 : Addr) (w5 : Addr) (w6 : Addr) (w7 : Addr) (w8 : Addr) (w9 : Addr) (w10 : Addr) (w11 : Addr) (h0 : Heap) (n0 : Nat) (Z0 : n0 ≤ h0.size) (S2 : Sta Z Z.heap "com/example/edictum/edictum/io/XpathTokens$Kind" "RIGHT_PAREN" "Lcom/example/edictum/edictum/io/XpathTokens$Kind;" (.ref w2)) (P2 : Old Z n0 h0) (F_w13_ordinal : Fld Z Z.heap w13 "java/lang/Enum" "ordinal" "I" (.int 1)) (F_w2_ordinal : Fld Z Z.heap w2 "java/lang/Enum" "ordinal" "I" (.int 5)) (S4 : Sta Z Z.heap "com/example/edictum/edictum/io/XpathTokens$Kind" "RIGHT_BRACKET" "Lcom/example/edictum/edictum/io/XpathTokens$Kind;" (.ref w3)) (F_w3_ordinal : Fld Z Z.heap w3 "java/lang/Enum" "ordinal" "I" (.int 6)) (S6 : Sta Z Z.heap "com/example/edictum/edictum/io/XpathTokens$Kind" "AXIS" "Lcom/example/edictum/edictum/io/XpathTokens$Kind;" (.ref w4)) (F_w4_ordinal : Fld Z Z.heap w4 "java/lang/Enum" "ordinal" "I" (.int 10)) (S8 : Sta Z Z.heap "com/example/edictum/edictum/io/XpathTokens$Kind" "FUNCTION" "Lcom/example/edictum/edictum/io/XpathTokens$Kind;" (.ref w5)) (F_w5_ordinal : Fld Z Z.heap w5 "java/lang/Enum" "ordinal" "I" (.int 11)) (S10 : Sta Z Z.heap "com/example/edictum/edictum/io/XpathTokens$Kind" "NODE_TYPE" "Lcom/example/edictum/edictum/io/XpathTokens$Kind;" (.ref w6)) (F_w6_ordinal : Fld Z Z.heap w6 "java/lang/Enum" "ordinal" "I" (.int 12)) (S12 : Sta Z Z.heap "com/example/edictum/edictum/io/XpathTokens$Kind" "NAME_TEST" "Lcom/example/edictum/edictum/io/XpathTokens$Kind;" (.ref w7)) (F_w7_ordinal : Fld Z Z.heap w7 "java/lang/Enum" "ordinal" "I" (.int 13)) (S14 : Sta Z Z.heap "com/example/edictum/edictum/io/XpathTokens$Kind" "DOT" "Lcom/example/edictum/edictum/io/XpathTokens$Kind;" (.ref w8)) (F_w8_ordinal : Fld Z Z.heap w8 "java/lang/Enum" "ordinal" "I" (.int 14)) (S16 : Sta Z Z.heap "com/example/edictum/edictum/io/XpathTokens$Kind" "DOT_DOT" "Lcom/example/edictum/edictum/io/XpathTokens$Kind;" (.ref w9)) (F_w9_ordinal : Fld Z Z.heap w9 "java/lang/Enum" "ordinal" "I" (.int 15)) (S18 : Sta Z Z.heap "com/example/edictum/edictum/io/XpathTokens$Kind" "LITERAL" "Lcom/example/edictum/edictum/io/XpathTokens$Kind;" (.ref w10)) (F_w10_ordinal : Fld Z Z.heap w10 "java/lang/Enum" "ordinal" "I" (.int 16)) (S20 : Sta Z Z.heap "com/example/edictum/edictum/io/XpathTokens$Kind" "NUMBER" "Lcom/example/edictum/edictum/io/XpathTokens$Kind;" (.ref w11)) (F_w11_ordinal : Fld Z Z.heap w11 "java/lang/Enum" "ordinal" "I" (.int 17)) :
    MF l Z (⟨"com/example/edictum/edictum/io/XpathTokensNamesNextPinLaw", "endsOperand", "(Lcom/example/edictum/edictum/io/XpathTokens$Kind;)Z"⟩ : MethodName) (Jvm.Cond.code (⟨"com/example/edictum/edictum/io/XpathTokensNamesNextPinLaw", "endsOperand", "(Lcom/example/edictum/edictum/io/XpathTokens$Kind;)Z"⟩ : MethodName) method_3_code 1 (some .boolean)) ws ({ frames := 0, cells := 0, slots := 0, locals := 0 } : Room) #[(.ref w13)] h0 (Q2_5 Z w13 w2 w3 w4 w5 w6 w7 w8 w9 w10 w11 h0 n0) := by
  refine MetFree.of_bodySF (plainFor_of_name pn_0) hisR ?_
  intro p e s m args below meth c s₁ Bd hml0 hP hK
  obtain ⟨rfl, hZ, hh⟩ := hP
  have hx := Bd.exec
  have hby := Bd.bytes
  have hml : c.maxLocals = 1 := hml0
  have hown : s.vm.findClass "com/example/edictum/edictum/io/XpathTokensNamesNextPinLaw" = some m.cls := findClass_of_methodNamed Bd.named
  have hnm := (name_of_methodNamed Bd.named Bd.method).1
  have X0 : Stand p l e ({ frames := 0, cells := 0, slots := 0, locals := 0 } : Room) s m #[(.ref w13)] below meth c s₁ [] 0 0 := Stand.of_body Bd
  have e0 : s₁.heap = h0 := by rw [← hh, Bd.state]; rfl
  have N0 := Fr.nil n0
  have pre0 : ∀ t, SF p e below s₁ (mkF m 0 #[rv w13] []) t → SF p e below s₁ (entryFrame m #[(.ref w13)] 1) t := fun t k => castTop (ef_1 m w13) k
  obtain ⟨T1, X1, e1, st1⟩ := getS2 X0 hx hZ hown (host := "") (Or.inl (tw hw 11 rfl)) Via.refl e0 (S2.ext P2.2) (g := (mkF m 1 #[rv w13] [(.ref w13)])) rfl (hb hby d2_1)
  obtain ⟨T2, X2, e2, st2⟩ := getS2 X1 hx hZ hown (host := "") (Or.inl (tw hw 13 rfl)) Via.refl e1 (S4.ext P2.2) (g := (mkF m 8 #[rv w13] [(.ref w13)])) rfl (hb hby d2_8)
  obtain ⟨T3, X3, e3, st3⟩ := getS2 X2 hx hZ hown (host := "") (Or.inl (tw hw 15 rfl)) Via.refl e2 (S6.ext P2.2) (g := (mkF m 15 #[rv w13] [(.ref w13)])) rfl (hb hby d2_15)
  obtain ⟨T4, X4, e4, st4⟩ := getS2 X3 hx hZ hown (host := "") (Or.inl (tw hw 17 rfl)) Via.refl e3 (S8.ext P2.2) (g := (mkF m 22 #[rv w13] [(.ref w13)])) rfl (hb hby d2_22)
  obtain ⟨T5, X5, e5, st5⟩ := getS2 X4 hx hZ hown (host := "") (Or.inl (tw hw 19 rfl)) Via.refl e4 (S10.ext P2.2) (g := (mkF m 29 #[rv w13] [(.ref w13)])) rfl (hb hby d2_29)
  obtain ⟨T6, X6, e6, st6⟩ := getS2 X5 hx hZ hown (host := "") (Or.inl (tw hw 21 rfl)) Via.refl e5 (S12.ext P2.2) (g := (mkF m 36 #[rv w13] [(.ref w13)])) rfl (hb hby d2_36)
  obtain ⟨T7, X7, e7, st7⟩ := getS2 X6 hx hZ hown (host := "") (Or.inl (tw hw 23 rfl)) Via.refl e6 (S14.ext P2.2) (g := (mkF m 43 #[rv w13] [(.ref w13)])) rfl (hb hby d2_43)
  obtain ⟨T8, X8, e8, st8⟩ := getS2 X7 hx hZ hown (host := "") (Or.inl (tw hw 25 rfl)) Via.refl e7 (S16.ext P2.2) (g := (mkF m 50 #[rv w13] [(.ref w13)])) rfl (hb hby d2_50)
  obtain ⟨T9, X9, e9, st9⟩ := getS2 X8 hx hZ hown (host := "") (Or.inl (tw hw 27 rfl)) Via.refl e8 (S18.ext P2.2) (g := (mkF m 57 #[rv w13] [(.ref w13)])) rfl (hb hby d2_57)
  obtain ⟨T10, X10, e10, st10⟩ := getS2 X9 hx hZ hown (host := "") (Or.inl (tw hw 29 rfl)) Via.refl e9 (S20.ext P2.2) (g := (mkF m 64 #[rv w13] [(.ref w13)])) rfl (hb hby d2_64)
  obtain ⟨fs, hr, hrun, hended, hW, hsame⟩ := X10.leave (v := some (.int 0)) (fun h => by rw [Bd.returns] at h; cases h)
  refine ⟨_, _, pre0 _ ?_, hrun, hended, _, _, rfl, ?_, ⟨_, rfl⟩, hW, hsame.mono (by decide) (by decide)⟩
  · show SF p e below s₁ (mkF m 0 #[rv w13] []) _
    refine XS.aloadN X0.here hx rfl (hb hby d2_0) rfl rfl ?_
    show SF p e below s₁ (mkF m 1 #[rv w13] [(.ref w13)]) _
    refine st1 _ ?_
    show SF p e below T1 (mkF m 4 #[rv w13] [(.ref w2), (.ref w13)]) _
    refine Jvm.RoadKit.acmp (g := (mkF m 4 #[rv w13] [(.ref w2), (.ref w13)])) X1 hx rfl rfl rfl (pc0 := 4) (pc' := 7) (same := false) rfl (hb hby d2_4) rfl (decide_eq_false fun q => (Fld.ne F_w13_ordinal F_w2_ordinal (by decide)) (Value.ref.inj q)) (by decide) (by decide) ?_
    show SF p e below T1 (mkF m 7 #[rv w13] []) _
    refine XS.aloadN X1.here hx rfl (hb hby d2_7) rfl rfl ?_
    show SF p e below T1 (mkF m 8 #[rv w13] [(.ref w13)]) _
    refine st2 _ ?_
    show SF p e below T2 (mkF m 11 #[rv w13] [(.ref w3), (.ref w13)]) _
    refine Jvm.RoadKit.acmp (g := (mkF m 11 #[rv w13] [(.ref w3), (.ref w13)])) X2 hx rfl rfl rfl (pc0 := 11) (pc' := 14) (same := false) rfl (hb hby d2_11) rfl (decide_eq_false fun q => (Fld.ne F_w13_ordinal F_w3_ordinal (by decide)) (Value.ref.inj q)) (by decide) (by decide) ?_
    show SF p e below T2 (mkF m 14 #[rv w13] []) _
    refine XS.aloadN X2.here hx rfl (hb hby d2_14) rfl rfl ?_
    show SF p e below T2 (mkF m 15 #[rv w13] [(.ref w13)]) _
    refine st3 _ ?_
    show SF p e below T3 (mkF m 18 #[rv w13] [(.ref w4), (.ref w13)]) _
    refine Jvm.RoadKit.acmp (g := (mkF m 18 #[rv w13] [(.ref w4), (.ref w13)])) X3 hx rfl rfl rfl (pc0 := 18) (pc' := 21) (same := false) rfl (hb hby d2_18) rfl (decide_eq_false fun q => (Fld.ne F_w13_ordinal F_w4_ordinal (by decide)) (Value.ref.inj q)) (by decide) (by decide) ?_
    show SF p e below T3 (mkF m 21 #[rv w13] []) _
    refine XS.aloadN X3.here hx rfl (hb hby d2_21) rfl rfl ?_
    show SF p e below T3 (mkF m 22 #[rv w13] [(.ref w13)]) _
    refine st4 _ ?_
    show SF p e below T4 (mkF m 25 #[rv w13] [(.ref w5), (.ref w13)]) _
    refine Jvm.RoadKit.acmp (g := (mkF m 25 #[rv w13] [(.ref w5), (.ref w13)])) X4 hx rfl rfl rfl (pc0 := 25) (pc' := 28) (same := false) rfl (hb hby d2_25) rfl (decide_eq_false fun q => (Fld.ne F_w13_ordinal F_w5_ordinal (by decide)) (Value.ref.inj q)) (by decide) (by decide) ?_
    show SF p e below T4 (mkF m 28 #[rv w13] []) _
    refine XS.aloadN X4.here hx rfl (hb hby d2_28) rfl rfl ?_
    show SF p e below T4 (mkF m 29 #[rv w13] [(.ref w13)]) _
    refine st5 _ ?_
    show SF p e below T5 (mkF m 32 #[rv w13] [(.ref w6), (.ref w13)]) _
    refine Jvm.RoadKit.acmp (g := (mkF m 32 #[rv w13] [(.ref w6), (.ref w13)])) X5 hx rfl rfl rfl (pc0 := 32) (pc' := 35) (same := false) rfl (hb hby d2_32) rfl (decide_eq_false fun q => (Fld.ne F_w13_ordinal F_w6_ordinal (by decide)) (Value.ref.inj q)) (by decide) (by decide) ?_
    show SF p e below T5 (mkF m 35 #[rv w13] []) _
    refine XS.aloadN X5.here hx rfl (hb hby d2_35) rfl rfl ?_
    show SF p e below T5 (mkF m 36 #[rv w13] [(.ref w13)]) _
    refine st6 _ ?_
    show SF p e below T6 (mkF m 39 #[rv w13] [(.ref w7), (.ref w13)]) _
    refine Jvm.RoadKit.acmp (g := (mkF m 39 #[rv w13] [(.ref w7), (.ref w13)])) X6 hx rfl rfl rfl (pc0 := 39) (pc' := 42) (same := false) rfl (hb hby d2_39) rfl (decide_eq_false fun q => (Fld.ne F_w13_ordinal F_w7_ordinal (by decide)) (Value.ref.inj q)) (by decide) (by decide) ?_
    show SF p e below T6 (mkF m 42 #[rv w13] []) _
    refine XS.aloadN X6.here hx rfl (hb hby d2_42) rfl rfl ?_
    show SF p e below T6 (mkF m 43 #[rv w13] [(.ref w13)]) _
    refine st7 _ ?_
    show SF p e below T7 (mkF m 46 #[rv w13] [(.ref w8), (.ref w13)]) _
    refine Jvm.RoadKit.acmp (g := (mkF m 46 #[rv w13] [(.ref w8), (.ref w13)])) X7 hx rfl rfl rfl (pc0 := 46) (pc' := 49) (same := false) rfl (hb hby d2_46) rfl (decide_eq_false fun q => (Fld.ne F_w13_ordinal F_w8_ordinal (by decide)) (Value.ref.inj q)) (by decide) (by decide) ?_
    show SF p e below T7 (mkF m 49 #[rv w13] []) _
    refine XS.aloadN X7.here hx rfl (hb hby d2_49) rfl rfl ?_
    show SF p e below T7 (mkF m 50 #[rv w13] [(.ref w13)]) _
    refine st8 _ ?_
    show SF p e below T8 (mkF m 53 #[rv w13] [(.ref w9), (.ref w13)]) _
    refine Jvm.RoadKit.acmp (g := (mkF m 53 #[rv w13] [(.ref w9), (.ref w13)])) X8 hx rfl rfl rfl (pc0 := 53) (pc' := 56) (same := false) rfl (hb hby d2_53) rfl (decide_eq_false fun q => (Fld.ne F_w13_ordinal F_w9_ordinal (by decide)) (Value.ref.inj q)) (by decide) (by decide) ?_
    show SF p e below T8 (mkF m 56 #[rv w13] []) _
    refine XS.aloadN X8.here hx rfl (hb hby d2_56) rfl rfl ?_
    show SF p e below T8 (mkF m 57 #[rv w13] [(.ref w13)]) _
    refine st9 _ ?_
    show SF p e below T9 (mkF m 60 #[rv w13] [(.ref w10), (.ref w13)]) _
    refine Jvm.RoadKit.acmp (g := (mkF m 60 #[rv w13] [(.ref w10), (.ref w13)])) X9 hx rfl rfl rfl (pc0 := 60) (pc' := 63) (same := false) rfl (hb hby d2_60) rfl (decide_eq_false fun q => (Fld.ne F_w13_ordinal F_w10_ordinal (by decide)) (Value.ref.inj q)) (by decide) (by decide) ?_
    show SF p e below T9 (mkF m 63 #[rv w13] []) _
    refine XS.aloadN X9.here hx rfl (hb hby d2_63) rfl rfl ?_
    show SF p e below T9 (mkF m 64 #[rv w13] [(.ref w13)]) _
    refine st10 _ ?_
    show SF p e below T10 (mkF m 67 #[rv w13] [(.ref w11), (.ref w13)]) _
    refine Jvm.RoadKit.acmp (g := (mkF m 67 #[rv w13] [(.ref w11), (.ref w13)])) X10 hx rfl rfl rfl (pc0 := 67) (pc' := 74) (same := false) rfl (hb hby d2_67) rfl (decide_eq_false fun q => (Fld.ne F_w13_ordinal F_w11_ordinal (by decide)) (Value.ref.inj q)) (by decide) (by decide) ?_
    show SF p e below T10 (mkF m 74 #[rv w13] []) _
    refine XS.iconst X10.here hx rfl (hb hby d2_74) ?_
    show SF p e below T10 (mkF m 75 #[rv w13] [(.int 0)]) _
    exact retN X10 hx (t := .boolean) Bd.returns (by simp) (hb hby d2_75) hr
  · show Q2_5 Z w13 w2 w3 w4 w5 w6 w7 w8 w9 w10 w11 h0 n0 _ T10.heap _
    rw [e10]
    exact ⟨rfl, N0, rfl⟩
theorem d3_7 : decode prog_251_method_4_code 7 = .ok (.aload_n 0, 1) := by decide +kernel
theorem d3_8 : decode prog_251_method_4_code 8 = .ok (.getstatic 7, 3) := by decide +kernel
theorem d3_11 : decode prog_251_method_4_code 11 = .ok (.if_acmp .eq 45, 3) := by decide +kernel
-- XpathTokens$Kind.namesNext 
def Q3_6 (Z : State) (w13 : Addr) (w1 : Addr) (h0 : Heap) (n0 : Nat) (v : Option Value) (h : Heap) (L : List Loc) : Prop := v = some (.int 1) ∧ Fr n0 L ∧ h = h0
set_option maxRecDepth 65536 in
set_option maxHeartbeats 40000000 in
theorem rm3_6 (l : Launch) (Z : State) (a0 : Array Value) (hw : HW Z a0) (ws : List Jvm.Cond) (w13 : Addr) (w1 : Addr) (h0 : Heap) (n0 : Nat) (Z0 : n0 ≤ h0.size) (S0 : Sta Z Z.heap "com/example/edictum/edictum/io/XpathTokens$Kind" "AT" "Lcom/example/edictum/edictum/io/XpathTokens$Kind;" (.ref w1)) (P2 : Old Z n0 h0) (F_w13_ordinal : Fld Z Z.heap w13 "java/lang/Enum" "ordinal" "I" (.int 1)) (F_w1_ordinal : Fld Z Z.heap w1 "java/lang/Enum" "ordinal" "I" (.int 0)) (S24 : Sta Z Z.heap "com/example/edictum/edictum/io/XpathTokens$Kind" "AXIS_SEPARATOR" "Lcom/example/edictum/edictum/io/XpathTokens$Kind;" (.ref w13)) :
    MF l Z (⟨"com/example/edictum/edictum/io/XpathTokens$Kind", "namesNext", "()Z"⟩ : MethodName) (Jvm.Cond.code (⟨"com/example/edictum/edictum/io/XpathTokens$Kind", "namesNext", "()Z"⟩ : MethodName) prog_251_method_4_code 1 (some .boolean)) ws ({ frames := 0, cells := 0, slots := 0, locals := 0 } : Room) #[(.ref w13)] h0 (Q3_6 Z w13 w1 h0 n0) := by
  refine MetFree.of_bodySF (plainFor_of_name pn_1) hisR ?_
  intro p e s m args below meth c s₁ Bd hml0 hP hK
  obtain ⟨rfl, hZ, hh⟩ := hP
  have hx := Bd.exec
  have hby := Bd.bytes
  have hml : c.maxLocals = 1 := hml0
  have hown : s.vm.findClass "com/example/edictum/edictum/io/XpathTokens$Kind" = some m.cls := findClass_of_methodNamed Bd.named
  have hnm := (name_of_methodNamed Bd.named Bd.method).1
  have X0 : Stand p l e ({ frames := 0, cells := 0, slots := 0, locals := 0 } : Room) s m #[(.ref w13)] below meth c s₁ [] 0 0 := Stand.of_body Bd
  have e0 : s₁.heap = h0 := by rw [← hh, Bd.state]; rfl
  have N0 := Fr.nil n0
  have pre0 : ∀ t, SF p e below s₁ (mkF m 0 #[rv w13] []) t → SF p e below s₁ (entryFrame m #[(.ref w13)] 1) t := fun t k => castTop (ef_2 m w13) k
  obtain ⟨T1, X1, e1, st1⟩ := getS2 X0 hx hZ hown (host := "") (Or.inl (tw hw 36 rfl)) Via.refl e0 (S0.ext P2.2) (g := (mkF m 1 #[rv w13] [(.ref w13)])) rfl (hb hby d3_1)
  obtain ⟨T2, X2, e2, st2⟩ := getS2 X1 hx hZ hown (host := "") (Or.inl (tw hw 39 rfl)) Via.refl e1 (S24.ext P2.2) (g := (mkF m 8 #[rv w13] [(.ref w13)])) rfl (hb hby d3_8)
  obtain ⟨fs, hr, hrun, hended, hW, hsame⟩ := X2.leave (v := some (.int 1)) (fun h => by rw [Bd.returns] at h; cases h)
  refine ⟨_, _, pre0 _ ?_, hrun, hended, _, _, rfl, ?_, ⟨_, rfl⟩, hW, hsame.mono (by decide) (by decide)⟩
  · show SF p e below s₁ (mkF m 0 #[rv w13] []) _
    refine XS.aloadN X0.here hx rfl (hb hby d3_0) rfl rfl ?_
    show SF p e below s₁ (mkF m 1 #[rv w13] [(.ref w13)]) _
    refine st1 _ ?_
    show SF p e below T1 (mkF m 4 #[rv w13] [(.ref w1), (.ref w13)]) _
    refine Jvm.RoadKit.acmp (g := (mkF m 4 #[rv w13] [(.ref w1), (.ref w13)])) X1 hx rfl rfl rfl (pc0 := 4) (pc' := 7) (same := false) rfl (hb hby d3_4) rfl (decide_eq_false fun q => (Fld.ne F_w13_ordinal F_w1_ordinal (by decide)) (Value.ref.inj q)) (by decide) (by decide) ?_
    show SF p e below T1 (mkF m 7 #[rv w13] []) _
    refine XS.aloadN X1.here hx rfl (hb hby d3_7) rfl rfl ?_
    show SF p e below T1 (mkF m 8 #[rv w13] [(.ref w13)]) _
    refine st2 _ ?_
    show SF p e below T2 (mkF m 11 #[rv w13] [(.ref w13), (.ref w13)]) _
    refine Jvm.RoadKit.acmp (g := (mkF m 11 #[rv w13] [(.ref w13), (.ref w13)])) X2 hx rfl rfl rfl (pc0 := 11) (pc' := 56) (same := true) rfl (hb hby d3_11) rfl (decide_eq_true rfl) (by decide) (by decide) ?_
    show SF p e below T2 (mkF m 56 #[rv w13] []) _
    refine XS.iconst X2.here hx rfl (hb hby d3_56) ?_
    show SF p e below T2 (mkF m 57 #[rv w13] [(.int 1)]) _
    refine XS.goto X2.here hx rfl (pc0 := 57) (pc' := 61) rfl (hb hby d3_57) (by decide) (by decide) ?_
    show SF p e below T2 (mkF m 61 #[rv w13] [(.int 1)]) _
    exact retN X2 hx (t := .boolean) Bd.returns (by simp) (hb hby d3_61) hr
  · show Q3_6 Z w13 w1 h0 n0 _ T2.heap _
    rw [e2]
    exact ⟨rfl, N0, rfl⟩
theorem d1_17 : decode method_2_code 17 = .ok (.iload_n 0, 1) := by decide +kernel
theorem d1_18 : decode method_2_code 18 = .ok (.iconst 2, 1) := by decide +kernel
theorem d1_19 : decode method_2_code 19 = .ok (.if_icmp .ne 7, 3) := by decide +kernel
theorem d1_22 : decode method_2_code 22 = .ok (.getstatic 16, 3) := by decide +kernel
theorem d1_25 : decode method_2_code 25 = .ok (.areturn, 1) := by decide +kernel
-- XpathTokensNamesNextPinLaw.kindOf 
def Q1_7 (Z : State) (w14 : Addr) (h0 : Heap) (n0 : Nat) (v : Option Value) (h : Heap) (L : List Loc) : Prop := v = some (.ref w14) ∧ Fr n0 L ∧ h = h0
set_option maxRecDepth 65536 in
set_option maxHeartbeats 40000000 in
theorem rm1_7 (l : Launch) (Z : State) (a0 : Array Value) (hw : HW Z a0) (ws : List Jvm.Cond) (w14 : Addr) (h0 : Heap) (n0 : Nat) (Z0 : n0 ≤ h0.size) (S26 : Sta Z Z.heap "com/example/edictum/edictum/io/XpathTokens$Kind" "LEFT_PAREN" "Lcom/example/edictum/edictum/io/XpathTokens$Kind;" (.ref w14)) (P2 : Old Z n0 h0) :
    MF l Z (⟨"com/example/edictum/edictum/io/XpathTokensNamesNextPinLaw", "kindOf", "(I)Lcom/example/edictum/edictum/io/XpathTokens$Kind;"⟩ : MethodName) (Jvm.Cond.code (⟨"com/example/edictum/edictum/io/XpathTokensNamesNextPinLaw", "kindOf", "(I)Lcom/example/edictum/edictum/io/XpathTokens$Kind;"⟩ : MethodName) method_2_code 1 (some (.object "com/example/edictum/edictum/io/XpathTokens$Kind"))) ws ({ frames := 0, cells := 0, slots := 0, locals := 0 } : Room) #[(.int 2)] h0 (Q1_7 Z w14 h0 n0) := by
  refine MetFree.of_bodySF (plainFor_of_name pn_0) hisR ?_
  intro p e s m args below meth c s₁ Bd hml0 hP hK
  obtain ⟨rfl, hZ, hh⟩ := hP
  have hx := Bd.exec
  have hby := Bd.bytes
  have hml : c.maxLocals = 1 := hml0
  have hown : s.vm.findClass "com/example/edictum/edictum/io/XpathTokensNamesNextPinLaw" = some m.cls := findClass_of_methodNamed Bd.named
  have hnm := (name_of_methodNamed Bd.named Bd.method).1
  have X0 : Stand p l e ({ frames := 0, cells := 0, slots := 0, locals := 0 } : Room) s m #[(.int 2)] below meth c s₁ [] 0 0 := Stand.of_body Bd
  have e0 : s₁.heap = h0 := by rw [← hh, Bd.state]; rfl
  have N0 := Fr.nil n0
  have pre0 : ∀ t, SF p e below s₁ (mkF m 0 #[iv 2] []) t → SF p e below s₁ (entryFrame m #[(.int 2)] 1) t := fun t k => castTop (ef_0 m (2 : Int32)) k
  obtain ⟨T1, X1, e1, st1⟩ := getS2 X0 hx hZ hown (host := "") (Or.inl (tw hw 44 rfl)) Via.refl e0 (S26.ext P2.2) (g := (mkF m 22 #[iv 2] [])) rfl (hb hby d1_22)
  obtain ⟨fs, hr, hrun, hended, hW, hsame⟩ := X1.leave (v := some (.ref w14)) (fun h => by rw [Bd.returns] at h; cases h)
  refine ⟨_, _, pre0 _ ?_, hrun, hended, _, _, rfl, ?_, ⟨_, rfl⟩, hW, hsame.mono (by decide) (by decide)⟩
  · show SF p e below s₁ (mkF m 0 #[iv 2] []) _
    refine XS.iloadN X0.here hx rfl (hb hby d1_0) rfl ?_
    show SF p e below s₁ (mkF m 1 #[iv 2] [(.int 2)]) _
    refine XS.ifYes X0.here hx rfl (pc0 := 1) (pc' := 8) rfl (hb hby d1_1) rfl ((if0 _ _).trans (feq (by decide : ¬ ((2 : Int32) = (0 : Int32)))).2) (by decide) (by decide) ?_
    show SF p e below s₁ (mkF m 8 #[iv 2] []) _
    refine XS.iloadN X0.here hx rfl (hb hby d1_8) rfl ?_
    show SF p e below s₁ (mkF m 9 #[iv 2] [(.int 2)]) _
    refine XS.iconst X0.here hx rfl (hb hby d1_9) ?_
    show SF p e below s₁ (mkF m 10 #[iv 2] [(.int 1), (.int 2)]) _
    refine XS.icmpYes X0.here hx rfl (pc0 := 10) (pc' := 17) rfl (hb hby d1_10) rfl (feq (by decide : ¬ ((2 : Int32) = (1 : Int32)))).2 (by decide) (by decide) ?_
    show SF p e below s₁ (mkF m 17 #[iv 2] []) _
    refine XS.iloadN X0.here hx rfl (hb hby d1_17) rfl ?_
    show SF p e below s₁ (mkF m 18 #[iv 2] [(.int 2)]) _
    refine XS.iconst X0.here hx rfl (hb hby d1_18) ?_
    show SF p e below s₁ (mkF m 19 #[iv 2] [(.int 2), (.int 2)]) _
    refine XS.icmpNo X0.here hx rfl (hb hby d1_19) rfl (teq (by decide : (2 : Int32) = (2 : Int32))).2 ?_
    show SF p e below s₁ (mkF m 22 #[iv 2] []) _
    refine st1 _ ?_
    show SF p e below T1 (mkF m 25 #[iv 2] [(.ref w14)]) _
    exact own_retR X1 hx Bd.returns rfl rfl (hb hby d1_25) hr
  · show Q1_7 Z w14 h0 n0 _ T1.heap _
    rw [e1]
    exact ⟨rfl, N0, rfl⟩
-- XpathTokensNamesNextPinLaw.endsOperand 
def Q2_8 (Z : State) (w14 : Addr) (w2 : Addr) (w3 : Addr) (w4 : Addr) (w5 : Addr) (w6 : Addr) (w7 : Addr) (w8 : Addr) (w9 : Addr) (w10 : Addr) (w11 : Addr) (h0 : Heap) (n0 : Nat) (v : Option Value) (h : Heap) (L : List Loc) : Prop := v = some (.int 0) ∧ Fr n0 L ∧ h = h0
set_option maxRecDepth 65536 in
set_option maxHeartbeats 40000000 in
theorem rm2_8 (l : Launch) (Z : State) (a0 : Array Value) (hw : HW Z a0) (ws : List Jvm.Cond) (w14 : Addr) (w2 : Addr) (w3 : Addr) (w4 : Addr) (w5 : Addr) (w6 : Addr) (w7 : Addr) (w8 : Addr) (w9 : Addr) (w10 : Addr) (w11 : Addr) (h0 : Heap) (n0 : Nat) (Z0 : n0 ≤ h0.size) (S2 : Sta Z Z.heap "com/example/edictum/edictum/io/XpathTokens$Kind" "RIGHT_PAREN" "Lcom/example/edictum/edictum/io/XpathTokens$Kind;" (.ref w2)) (P2 : Old Z n0 h0) (F_w14_ordinal : Fld Z Z.heap w14 "java/lang/Enum" "ordinal" "I" (.int 2)) (F_w2_ordinal : Fld Z Z.heap w2 "java/lang/Enum" "ordinal" "I" (.int 5)) (S4 : Sta Z Z.heap "com/example/edictum/edictum/io/XpathTokens$Kind" "RIGHT_BRACKET" "Lcom/example/edictum/edictum/io/XpathTokens$Kind;" (.ref w3)) (F_w3_ordinal : Fld Z Z.heap w3 "java/lang/Enum" "ordinal" "I" (.int 6)) (S6 : Sta Z Z.heap "com/example/edictum/edictum/io/XpathTokens$Kind" "AXIS" "Lcom/example/edictum/edictum/io/XpathTokens$Kind;" (.ref w4)) (F_w4_ordinal : Fld Z Z.heap w4 "java/lang/Enum" "ordinal" "I" (.int 10)) (S8 : Sta Z Z.heap "com/example/edictum/edictum/io/XpathTokens$Kind" "FUNCTION" "Lcom/example/edictum/edictum/io/XpathTokens$Kind;" (.ref w5)) (F_w5_ordinal : Fld Z Z.heap w5 "java/lang/Enum" "ordinal" "I" (.int 11)) (S10 : Sta Z Z.heap "com/example/edictum/edictum/io/XpathTokens$Kind" "NODE_TYPE" "Lcom/example/edictum/edictum/io/XpathTokens$Kind;" (.ref w6)) (F_w6_ordinal : Fld Z Z.heap w6 "java/lang/Enum" "ordinal" "I" (.int 12)) (S12 : Sta Z Z.heap "com/example/edictum/edictum/io/XpathTokens$Kind" "NAME_TEST" "Lcom/example/edictum/edictum/io/XpathTokens$Kind;" (.ref w7)) (F_w7_ordinal : Fld Z Z.heap w7 "java/lang/Enum" "ordinal" "I" (.int 13)) (S14 : Sta Z Z.heap "com/example/edictum/edictum/io/XpathTokens$Kind" "DOT" "Lcom/example/edictum/edictum/io/XpathTokens$Kind;" (.ref w8)) (F_w8_ordinal : Fld Z Z.heap w8 "java/lang/Enum" "ordinal" "I" (.int 14)) (S16 : Sta Z Z.heap "com/example/edictum/edictum/io/XpathTokens$Kind" "DOT_DOT" "Lcom/example/edictum/edictum/io/XpathTokens$Kind;" (.ref w9)) (F_w9_ordinal : Fld Z Z.heap w9 "java/lang/Enum" "ordinal" "I" (.int 15)) (S18 : Sta Z Z.heap "com/example/edictum/edictum/io/XpathTokens$Kind" "LITERAL" "Lcom/example/edictum/edictum/io/XpathTokens$Kind;" (.ref w10)) (F_w10_ordinal : Fld Z Z.heap w10 "java/lang/Enum" "ordinal" "I" (.int 16)) (S20 : Sta Z Z.heap "com/example/edictum/edictum/io/XpathTokens$Kind" "NUMBER" "Lcom/example/edictum/edictum/io/XpathTokens$Kind;" (.ref w11)) (F_w11_ordinal : Fld Z Z.heap w11 "java/lang/Enum" "ordinal" "I" (.int 17)) :
    MF l Z (⟨"com/example/edictum/edictum/io/XpathTokensNamesNextPinLaw", "endsOperand", "(Lcom/example/edictum/edictum/io/XpathTokens$Kind;)Z"⟩ : MethodName) (Jvm.Cond.code (⟨"com/example/edictum/edictum/io/XpathTokensNamesNextPinLaw", "endsOperand", "(Lcom/example/edictum/edictum/io/XpathTokens$Kind;)Z"⟩ : MethodName) method_3_code 1 (some .boolean)) ws ({ frames := 0, cells := 0, slots := 0, locals := 0 } : Room) #[(.ref w14)] h0 (Q2_8 Z w14 w2 w3 w4 w5 w6 w7 w8 w9 w10 w11 h0 n0) := by
  refine MetFree.of_bodySF (plainFor_of_name pn_0) hisR ?_
  intro p e s m args below meth c s₁ Bd hml0 hP hK
  obtain ⟨rfl, hZ, hh⟩ := hP
  have hx := Bd.exec
  have hby := Bd.bytes
  have hml : c.maxLocals = 1 := hml0
  have hown : s.vm.findClass "com/example/edictum/edictum/io/XpathTokensNamesNextPinLaw" = some m.cls := findClass_of_methodNamed Bd.named
  have hnm := (name_of_methodNamed Bd.named Bd.method).1
  have X0 : Stand p l e ({ frames := 0, cells := 0, slots := 0, locals := 0 } : Room) s m #[(.ref w14)] below meth c s₁ [] 0 0 := Stand.of_body Bd
  have e0 : s₁.heap = h0 := by rw [← hh, Bd.state]; rfl
  have N0 := Fr.nil n0
  have pre0 : ∀ t, SF p e below s₁ (mkF m 0 #[rv w14] []) t → SF p e below s₁ (entryFrame m #[(.ref w14)] 1) t := fun t k => castTop (ef_1 m w14) k
  obtain ⟨T1, X1, e1, st1⟩ := getS2 X0 hx hZ hown (host := "") (Or.inl (tw hw 11 rfl)) Via.refl e0 (S2.ext P2.2) (g := (mkF m 1 #[rv w14] [(.ref w14)])) rfl (hb hby d2_1)
  obtain ⟨T2, X2, e2, st2⟩ := getS2 X1 hx hZ hown (host := "") (Or.inl (tw hw 13 rfl)) Via.refl e1 (S4.ext P2.2) (g := (mkF m 8 #[rv w14] [(.ref w14)])) rfl (hb hby d2_8)
  obtain ⟨T3, X3, e3, st3⟩ := getS2 X2 hx hZ hown (host := "") (Or.inl (tw hw 15 rfl)) Via.refl e2 (S6.ext P2.2) (g := (mkF m 15 #[rv w14] [(.ref w14)])) rfl (hb hby d2_15)
  obtain ⟨T4, X4, e4, st4⟩ := getS2 X3 hx hZ hown (host := "") (Or.inl (tw hw 17 rfl)) Via.refl e3 (S8.ext P2.2) (g := (mkF m 22 #[rv w14] [(.ref w14)])) rfl (hb hby d2_22)
  obtain ⟨T5, X5, e5, st5⟩ := getS2 X4 hx hZ hown (host := "") (Or.inl (tw hw 19 rfl)) Via.refl e4 (S10.ext P2.2) (g := (mkF m 29 #[rv w14] [(.ref w14)])) rfl (hb hby d2_29)
  obtain ⟨T6, X6, e6, st6⟩ := getS2 X5 hx hZ hown (host := "") (Or.inl (tw hw 21 rfl)) Via.refl e5 (S12.ext P2.2) (g := (mkF m 36 #[rv w14] [(.ref w14)])) rfl (hb hby d2_36)
  obtain ⟨T7, X7, e7, st7⟩ := getS2 X6 hx hZ hown (host := "") (Or.inl (tw hw 23 rfl)) Via.refl e6 (S14.ext P2.2) (g := (mkF m 43 #[rv w14] [(.ref w14)])) rfl (hb hby d2_43)
  obtain ⟨T8, X8, e8, st8⟩ := getS2 X7 hx hZ hown (host := "") (Or.inl (tw hw 25 rfl)) Via.refl e7 (S16.ext P2.2) (g := (mkF m 50 #[rv w14] [(.ref w14)])) rfl (hb hby d2_50)
  obtain ⟨T9, X9, e9, st9⟩ := getS2 X8 hx hZ hown (host := "") (Or.inl (tw hw 27 rfl)) Via.refl e8 (S18.ext P2.2) (g := (mkF m 57 #[rv w14] [(.ref w14)])) rfl (hb hby d2_57)
  obtain ⟨T10, X10, e10, st10⟩ := getS2 X9 hx hZ hown (host := "") (Or.inl (tw hw 29 rfl)) Via.refl e9 (S20.ext P2.2) (g := (mkF m 64 #[rv w14] [(.ref w14)])) rfl (hb hby d2_64)
  obtain ⟨fs, hr, hrun, hended, hW, hsame⟩ := X10.leave (v := some (.int 0)) (fun h => by rw [Bd.returns] at h; cases h)
  refine ⟨_, _, pre0 _ ?_, hrun, hended, _, _, rfl, ?_, ⟨_, rfl⟩, hW, hsame.mono (by decide) (by decide)⟩
  · show SF p e below s₁ (mkF m 0 #[rv w14] []) _
    refine XS.aloadN X0.here hx rfl (hb hby d2_0) rfl rfl ?_
    show SF p e below s₁ (mkF m 1 #[rv w14] [(.ref w14)]) _
    refine st1 _ ?_
    show SF p e below T1 (mkF m 4 #[rv w14] [(.ref w2), (.ref w14)]) _
    refine Jvm.RoadKit.acmp (g := (mkF m 4 #[rv w14] [(.ref w2), (.ref w14)])) X1 hx rfl rfl rfl (pc0 := 4) (pc' := 7) (same := false) rfl (hb hby d2_4) rfl (decide_eq_false fun q => (Fld.ne F_w14_ordinal F_w2_ordinal (by decide)) (Value.ref.inj q)) (by decide) (by decide) ?_
    show SF p e below T1 (mkF m 7 #[rv w14] []) _
    refine XS.aloadN X1.here hx rfl (hb hby d2_7) rfl rfl ?_
    show SF p e below T1 (mkF m 8 #[rv w14] [(.ref w14)]) _
    refine st2 _ ?_
    show SF p e below T2 (mkF m 11 #[rv w14] [(.ref w3), (.ref w14)]) _
    refine Jvm.RoadKit.acmp (g := (mkF m 11 #[rv w14] [(.ref w3), (.ref w14)])) X2 hx rfl rfl rfl (pc0 := 11) (pc' := 14) (same := false) rfl (hb hby d2_11) rfl (decide_eq_false fun q => (Fld.ne F_w14_ordinal F_w3_ordinal (by decide)) (Value.ref.inj q)) (by decide) (by decide) ?_
    show SF p e below T2 (mkF m 14 #[rv w14] []) _
    refine XS.aloadN X2.here hx rfl (hb hby d2_14) rfl rfl ?_
    show SF p e below T2 (mkF m 15 #[rv w14] [(.ref w14)]) _
    refine st3 _ ?_
    show SF p e below T3 (mkF m 18 #[rv w14] [(.ref w4), (.ref w14)]) _
    refine Jvm.RoadKit.acmp (g := (mkF m 18 #[rv w14] [(.ref w4), (.ref w14)])) X3 hx rfl rfl rfl (pc0 := 18) (pc' := 21) (same := false) rfl (hb hby d2_18) rfl (decide_eq_false fun q => (Fld.ne F_w14_ordinal F_w4_ordinal (by decide)) (Value.ref.inj q)) (by decide) (by decide) ?_
    show SF p e below T3 (mkF m 21 #[rv w14] []) _
    refine XS.aloadN X3.here hx rfl (hb hby d2_21) rfl rfl ?_
    show SF p e below T3 (mkF m 22 #[rv w14] [(.ref w14)]) _
    refine st4 _ ?_
    show SF p e below T4 (mkF m 25 #[rv w14] [(.ref w5), (.ref w14)]) _
    refine Jvm.RoadKit.acmp (g := (mkF m 25 #[rv w14] [(.ref w5), (.ref w14)])) X4 hx rfl rfl rfl (pc0 := 25) (pc' := 28) (same := false) rfl (hb hby d2_25) rfl (decide_eq_false fun q => (Fld.ne F_w14_ordinal F_w5_ordinal (by decide)) (Value.ref.inj q)) (by decide) (by decide) ?_
    show SF p e below T4 (mkF m 28 #[rv w14] []) _
    refine XS.aloadN X4.here hx rfl (hb hby d2_28) rfl rfl ?_
    show SF p e below T4 (mkF m 29 #[rv w14] [(.ref w14)]) _
    refine st5 _ ?_
    show SF p e below T5 (mkF m 32 #[rv w14] [(.ref w6), (.ref w14)]) _
    refine Jvm.RoadKit.acmp (g := (mkF m 32 #[rv w14] [(.ref w6), (.ref w14)])) X5 hx rfl rfl rfl (pc0 := 32) (pc' := 35) (same := false) rfl (hb hby d2_32) rfl (decide_eq_false fun q => (Fld.ne F_w14_ordinal F_w6_ordinal (by decide)) (Value.ref.inj q)) (by decide) (by decide) ?_
    show SF p e below T5 (mkF m 35 #[rv w14] []) _
    refine XS.aloadN X5.here hx rfl (hb hby d2_35) rfl rfl ?_
    show SF p e below T5 (mkF m 36 #[rv w14] [(.ref w14)]) _
    refine st6 _ ?_
    show SF p e below T6 (mkF m 39 #[rv w14] [(.ref w7), (.ref w14)]) _
    refine Jvm.RoadKit.acmp (g := (mkF m 39 #[rv w14] [(.ref w7), (.ref w14)])) X6 hx rfl rfl rfl (pc0 := 39) (pc' := 42) (same := false) rfl (hb hby d2_39) rfl (decide_eq_false fun q => (Fld.ne F_w14_ordinal F_w7_ordinal (by decide)) (Value.ref.inj q)) (by decide) (by decide) ?_
    show SF p e below T6 (mkF m 42 #[rv w14] []) _
    refine XS.aloadN X6.here hx rfl (hb hby d2_42) rfl rfl ?_
    show SF p e below T6 (mkF m 43 #[rv w14] [(.ref w14)]) _
    refine st7 _ ?_
    show SF p e below T7 (mkF m 46 #[rv w14] [(.ref w8), (.ref w14)]) _
    refine Jvm.RoadKit.acmp (g := (mkF m 46 #[rv w14] [(.ref w8), (.ref w14)])) X7 hx rfl rfl rfl (pc0 := 46) (pc' := 49) (same := false) rfl (hb hby d2_46) rfl (decide_eq_false fun q => (Fld.ne F_w14_ordinal F_w8_ordinal (by decide)) (Value.ref.inj q)) (by decide) (by decide) ?_
    show SF p e below T7 (mkF m 49 #[rv w14] []) _
    refine XS.aloadN X7.here hx rfl (hb hby d2_49) rfl rfl ?_
    show SF p e below T7 (mkF m 50 #[rv w14] [(.ref w14)]) _
    refine st8 _ ?_
    show SF p e below T8 (mkF m 53 #[rv w14] [(.ref w9), (.ref w14)]) _
    refine Jvm.RoadKit.acmp (g := (mkF m 53 #[rv w14] [(.ref w9), (.ref w14)])) X8 hx rfl rfl rfl (pc0 := 53) (pc' := 56) (same := false) rfl (hb hby d2_53) rfl (decide_eq_false fun q => (Fld.ne F_w14_ordinal F_w9_ordinal (by decide)) (Value.ref.inj q)) (by decide) (by decide) ?_
    show SF p e below T8 (mkF m 56 #[rv w14] []) _
    refine XS.aloadN X8.here hx rfl (hb hby d2_56) rfl rfl ?_
    show SF p e below T8 (mkF m 57 #[rv w14] [(.ref w14)]) _
    refine st9 _ ?_
    show SF p e below T9 (mkF m 60 #[rv w14] [(.ref w10), (.ref w14)]) _
    refine Jvm.RoadKit.acmp (g := (mkF m 60 #[rv w14] [(.ref w10), (.ref w14)])) X9 hx rfl rfl rfl (pc0 := 60) (pc' := 63) (same := false) rfl (hb hby d2_60) rfl (decide_eq_false fun q => (Fld.ne F_w14_ordinal F_w10_ordinal (by decide)) (Value.ref.inj q)) (by decide) (by decide) ?_
    show SF p e below T9 (mkF m 63 #[rv w14] []) _
    refine XS.aloadN X9.here hx rfl (hb hby d2_63) rfl rfl ?_
    show SF p e below T9 (mkF m 64 #[rv w14] [(.ref w14)]) _
    refine st10 _ ?_
    show SF p e below T10 (mkF m 67 #[rv w14] [(.ref w11), (.ref w14)]) _
    refine Jvm.RoadKit.acmp (g := (mkF m 67 #[rv w14] [(.ref w11), (.ref w14)])) X10 hx rfl rfl rfl (pc0 := 67) (pc' := 74) (same := false) rfl (hb hby d2_67) rfl (decide_eq_false fun q => (Fld.ne F_w14_ordinal F_w11_ordinal (by decide)) (Value.ref.inj q)) (by decide) (by decide) ?_
    show SF p e below T10 (mkF m 74 #[rv w14] []) _
    refine XS.iconst X10.here hx rfl (hb hby d2_74) ?_
    show SF p e below T10 (mkF m 75 #[rv w14] [(.int 0)]) _
    exact retN X10 hx (t := .boolean) Bd.returns (by simp) (hb hby d2_75) hr
  · show Q2_8 Z w14 w2 w3 w4 w5 w6 w7 w8 w9 w10 w11 h0 n0 _ T10.heap _
    rw [e10]
    exact ⟨rfl, N0, rfl⟩
theorem d3_14 : decode prog_251_method_4_code 14 = .ok (.aload_n 0, 1) := by decide +kernel
theorem d3_15 : decode prog_251_method_4_code 15 = .ok (.getstatic 10, 3) := by decide +kernel
theorem d3_18 : decode prog_251_method_4_code 18 = .ok (.if_acmp .eq 38, 3) := by decide +kernel
-- XpathTokens$Kind.namesNext 
def Q3_9 (Z : State) (w14 : Addr) (w1 : Addr) (w13 : Addr) (h0 : Heap) (n0 : Nat) (v : Option Value) (h : Heap) (L : List Loc) : Prop := v = some (.int 1) ∧ Fr n0 L ∧ h = h0
set_option maxRecDepth 65536 in
set_option maxHeartbeats 40000000 in
theorem rm3_9 (l : Launch) (Z : State) (a0 : Array Value) (hw : HW Z a0) (ws : List Jvm.Cond) (w14 : Addr) (w1 : Addr) (w13 : Addr) (h0 : Heap) (n0 : Nat) (Z0 : n0 ≤ h0.size) (S0 : Sta Z Z.heap "com/example/edictum/edictum/io/XpathTokens$Kind" "AT" "Lcom/example/edictum/edictum/io/XpathTokens$Kind;" (.ref w1)) (P2 : Old Z n0 h0) (F_w14_ordinal : Fld Z Z.heap w14 "java/lang/Enum" "ordinal" "I" (.int 2)) (F_w1_ordinal : Fld Z Z.heap w1 "java/lang/Enum" "ordinal" "I" (.int 0)) (S24 : Sta Z Z.heap "com/example/edictum/edictum/io/XpathTokens$Kind" "AXIS_SEPARATOR" "Lcom/example/edictum/edictum/io/XpathTokens$Kind;" (.ref w13)) (F_w13_ordinal : Fld Z Z.heap w13 "java/lang/Enum" "ordinal" "I" (.int 1)) (S26 : Sta Z Z.heap "com/example/edictum/edictum/io/XpathTokens$Kind" "LEFT_PAREN" "Lcom/example/edictum/edictum/io/XpathTokens$Kind;" (.ref w14)) :
    MF l Z (⟨"com/example/edictum/edictum/io/XpathTokens$Kind", "namesNext", "()Z"⟩ : MethodName) (Jvm.Cond.code (⟨"com/example/edictum/edictum/io/XpathTokens$Kind", "namesNext", "()Z"⟩ : MethodName) prog_251_method_4_code 1 (some .boolean)) ws ({ frames := 0, cells := 0, slots := 0, locals := 0 } : Room) #[(.ref w14)] h0 (Q3_9 Z w14 w1 w13 h0 n0) := by
  refine MetFree.of_bodySF (plainFor_of_name pn_1) hisR ?_
  intro p e s m args below meth c s₁ Bd hml0 hP hK
  obtain ⟨rfl, hZ, hh⟩ := hP
  have hx := Bd.exec
  have hby := Bd.bytes
  have hml : c.maxLocals = 1 := hml0
  have hown : s.vm.findClass "com/example/edictum/edictum/io/XpathTokens$Kind" = some m.cls := findClass_of_methodNamed Bd.named
  have hnm := (name_of_methodNamed Bd.named Bd.method).1
  have X0 : Stand p l e ({ frames := 0, cells := 0, slots := 0, locals := 0 } : Room) s m #[(.ref w14)] below meth c s₁ [] 0 0 := Stand.of_body Bd
  have e0 : s₁.heap = h0 := by rw [← hh, Bd.state]; rfl
  have N0 := Fr.nil n0
  have pre0 : ∀ t, SF p e below s₁ (mkF m 0 #[rv w14] []) t → SF p e below s₁ (entryFrame m #[(.ref w14)] 1) t := fun t k => castTop (ef_2 m w14) k
  obtain ⟨T1, X1, e1, st1⟩ := getS2 X0 hx hZ hown (host := "") (Or.inl (tw hw 36 rfl)) Via.refl e0 (S0.ext P2.2) (g := (mkF m 1 #[rv w14] [(.ref w14)])) rfl (hb hby d3_1)
  obtain ⟨T2, X2, e2, st2⟩ := getS2 X1 hx hZ hown (host := "") (Or.inl (tw hw 39 rfl)) Via.refl e1 (S24.ext P2.2) (g := (mkF m 8 #[rv w14] [(.ref w14)])) rfl (hb hby d3_8)
  obtain ⟨T3, X3, e3, st3⟩ := getS2 X2 hx hZ hown (host := "") (Or.inl (tw hw 41 rfl)) Via.refl e2 (S26.ext P2.2) (g := (mkF m 15 #[rv w14] [(.ref w14)])) rfl (hb hby d3_15)
  obtain ⟨fs, hr, hrun, hended, hW, hsame⟩ := X3.leave (v := some (.int 1)) (fun h => by rw [Bd.returns] at h; cases h)
  refine ⟨_, _, pre0 _ ?_, hrun, hended, _, _, rfl, ?_, ⟨_, rfl⟩, hW, hsame.mono (by decide) (by decide)⟩
  · show SF p e below s₁ (mkF m 0 #[rv w14] []) _
    refine XS.aloadN X0.here hx rfl (hb hby d3_0) rfl rfl ?_
    show SF p e below s₁ (mkF m 1 #[rv w14] [(.ref w14)]) _
    refine st1 _ ?_
    show SF p e below T1 (mkF m 4 #[rv w14] [(.ref w1), (.ref w14)]) _
    refine Jvm.RoadKit.acmp (g := (mkF m 4 #[rv w14] [(.ref w1), (.ref w14)])) X1 hx rfl rfl rfl (pc0 := 4) (pc' := 7) (same := false) rfl (hb hby d3_4) rfl (decide_eq_false fun q => (Fld.ne F_w14_ordinal F_w1_ordinal (by decide)) (Value.ref.inj q)) (by decide) (by decide) ?_
    show SF p e below T1 (mkF m 7 #[rv w14] []) _
    refine XS.aloadN X1.here hx rfl (hb hby d3_7) rfl rfl ?_
    show SF p e below T1 (mkF m 8 #[rv w14] [(.ref w14)]) _
    refine st2 _ ?_
    show SF p e below T2 (mkF m 11 #[rv w14] [(.ref w13), (.ref w14)]) _
    refine Jvm.RoadKit.acmp (g := (mkF m 11 #[rv w14] [(.ref w13), (.ref w14)])) X2 hx rfl rfl rfl (pc0 := 11) (pc' := 14) (same := false) rfl (hb hby d3_11) rfl (decide_eq_false fun q => (Fld.ne F_w14_ordinal F_w13_ordinal (by decide)) (Value.ref.inj q)) (by decide) (by decide) ?_
    show SF p e below T2 (mkF m 14 #[rv w14] []) _
    refine XS.aloadN X2.here hx rfl (hb hby d3_14) rfl rfl ?_
    show SF p e below T2 (mkF m 15 #[rv w14] [(.ref w14)]) _
    refine st3 _ ?_
    show SF p e below T3 (mkF m 18 #[rv w14] [(.ref w14), (.ref w14)]) _
    refine Jvm.RoadKit.acmp (g := (mkF m 18 #[rv w14] [(.ref w14), (.ref w14)])) X3 hx rfl rfl rfl (pc0 := 18) (pc' := 56) (same := true) rfl (hb hby d3_18) rfl (decide_eq_true rfl) (by decide) (by decide) ?_
    show SF p e below T3 (mkF m 56 #[rv w14] []) _
    refine XS.iconst X3.here hx rfl (hb hby d3_56) ?_
    show SF p e below T3 (mkF m 57 #[rv w14] [(.int 1)]) _
    refine XS.goto X3.here hx rfl (pc0 := 57) (pc' := 61) rfl (hb hby d3_57) (by decide) (by decide) ?_
    show SF p e below T3 (mkF m 61 #[rv w14] [(.int 1)]) _
    exact retN X3 hx (t := .boolean) Bd.returns (by simp) (hb hby d3_61) hr
  · show Q3_9 Z w14 w1 w13 h0 n0 _ T3.heap _
    rw [e3]
    exact ⟨rfl, N0, rfl⟩
theorem d1_26 : decode method_2_code 26 = .ok (.iload_n 0, 1) := by decide +kernel
theorem d1_27 : decode method_2_code 27 = .ok (.iconst 3, 1) := by decide +kernel
theorem d1_28 : decode method_2_code 28 = .ok (.if_icmp .ne 7, 3) := by decide +kernel
theorem d1_31 : decode method_2_code 31 = .ok (.getstatic 19, 3) := by decide +kernel
theorem d1_34 : decode method_2_code 34 = .ok (.areturn, 1) := by decide +kernel
-- XpathTokensNamesNextPinLaw.kindOf 
def Q1_10 (Z : State) (w12 : Addr) (h0 : Heap) (n0 : Nat) (v : Option Value) (h : Heap) (L : List Loc) : Prop := v = some (.ref w12) ∧ Fr n0 L ∧ h = h0
set_option maxRecDepth 65536 in
set_option maxHeartbeats 40000000 in
theorem rm1_10 (l : Launch) (Z : State) (a0 : Array Value) (hw : HW Z a0) (ws : List Jvm.Cond) (w12 : Addr) (h0 : Heap) (n0 : Nat) (Z0 : n0 ≤ h0.size) (S22 : Sta Z Z.heap "com/example/edictum/edictum/io/XpathTokens$Kind" "LEFT_BRACKET" "Lcom/example/edictum/edictum/io/XpathTokens$Kind;" (.ref w12)) (P2 : Old Z n0 h0) :
    MF l Z (⟨"com/example/edictum/edictum/io/XpathTokensNamesNextPinLaw", "kindOf", "(I)Lcom/example/edictum/edictum/io/XpathTokens$Kind;"⟩ : MethodName) (Jvm.Cond.code (⟨"com/example/edictum/edictum/io/XpathTokensNamesNextPinLaw", "kindOf", "(I)Lcom/example/edictum/edictum/io/XpathTokens$Kind;"⟩ : MethodName) method_2_code 1 (some (.object "com/example/edictum/edictum/io/XpathTokens$Kind"))) ws ({ frames := 0, cells := 0, slots := 0, locals := 0 } : Room) #[(.int 3)] h0 (Q1_10 Z w12 h0 n0) := by
  refine MetFree.of_bodySF (plainFor_of_name pn_0) hisR ?_
  intro p e s m args below meth c s₁ Bd hml0 hP hK
  obtain ⟨rfl, hZ, hh⟩ := hP
  have hx := Bd.exec
  have hby := Bd.bytes
  have hml : c.maxLocals = 1 := hml0
  have hown : s.vm.findClass "com/example/edictum/edictum/io/XpathTokensNamesNextPinLaw" = some m.cls := findClass_of_methodNamed Bd.named
  have hnm := (name_of_methodNamed Bd.named Bd.method).1
  have X0 : Stand p l e ({ frames := 0, cells := 0, slots := 0, locals := 0 } : Room) s m #[(.int 3)] below meth c s₁ [] 0 0 := Stand.of_body Bd
  have e0 : s₁.heap = h0 := by rw [← hh, Bd.state]; rfl
  have N0 := Fr.nil n0
  have pre0 : ∀ t, SF p e below s₁ (mkF m 0 #[iv 3] []) t → SF p e below s₁ (entryFrame m #[(.int 3)] 1) t := fun t k => castTop (ef_0 m (3 : Int32)) k
  obtain ⟨T1, X1, e1, st1⟩ := getS2 X0 hx hZ hown (host := "") (Or.inl (tw hw 37 rfl)) Via.refl e0 (S22.ext P2.2) (g := (mkF m 31 #[iv 3] [])) rfl (hb hby d1_31)
  obtain ⟨fs, hr, hrun, hended, hW, hsame⟩ := X1.leave (v := some (.ref w12)) (fun h => by rw [Bd.returns] at h; cases h)
  refine ⟨_, _, pre0 _ ?_, hrun, hended, _, _, rfl, ?_, ⟨_, rfl⟩, hW, hsame.mono (by decide) (by decide)⟩
  · show SF p e below s₁ (mkF m 0 #[iv 3] []) _
    refine XS.iloadN X0.here hx rfl (hb hby d1_0) rfl ?_
    show SF p e below s₁ (mkF m 1 #[iv 3] [(.int 3)]) _
    refine XS.ifYes X0.here hx rfl (pc0 := 1) (pc' := 8) rfl (hb hby d1_1) rfl ((if0 _ _).trans (feq (by decide : ¬ ((3 : Int32) = (0 : Int32)))).2) (by decide) (by decide) ?_
    show SF p e below s₁ (mkF m 8 #[iv 3] []) _
    refine XS.iloadN X0.here hx rfl (hb hby d1_8) rfl ?_
    show SF p e below s₁ (mkF m 9 #[iv 3] [(.int 3)]) _
    refine XS.iconst X0.here hx rfl (hb hby d1_9) ?_
    show SF p e below s₁ (mkF m 10 #[iv 3] [(.int 1), (.int 3)]) _
    refine XS.icmpYes X0.here hx rfl (pc0 := 10) (pc' := 17) rfl (hb hby d1_10) rfl (feq (by decide : ¬ ((3 : Int32) = (1 : Int32)))).2 (by decide) (by decide) ?_
    show SF p e below s₁ (mkF m 17 #[iv 3] []) _
    refine XS.iloadN X0.here hx rfl (hb hby d1_17) rfl ?_
    show SF p e below s₁ (mkF m 18 #[iv 3] [(.int 3)]) _
    refine XS.iconst X0.here hx rfl (hb hby d1_18) ?_
    show SF p e below s₁ (mkF m 19 #[iv 3] [(.int 2), (.int 3)]) _
    refine XS.icmpYes X0.here hx rfl (pc0 := 19) (pc' := 26) rfl (hb hby d1_19) rfl (feq (by decide : ¬ ((3 : Int32) = (2 : Int32)))).2 (by decide) (by decide) ?_
    show SF p e below s₁ (mkF m 26 #[iv 3] []) _
    refine XS.iloadN X0.here hx rfl (hb hby d1_26) rfl ?_
    show SF p e below s₁ (mkF m 27 #[iv 3] [(.int 3)]) _
    refine XS.iconst X0.here hx rfl (hb hby d1_27) ?_
    show SF p e below s₁ (mkF m 28 #[iv 3] [(.int 3), (.int 3)]) _
    refine XS.icmpNo X0.here hx rfl (hb hby d1_28) rfl (teq (by decide : (3 : Int32) = (3 : Int32))).2 ?_
    show SF p e below s₁ (mkF m 31 #[iv 3] []) _
    refine st1 _ ?_
    show SF p e below T1 (mkF m 34 #[iv 3] [(.ref w12)]) _
    exact own_retR X1 hx Bd.returns rfl rfl (hb hby d1_34) hr
  · show Q1_10 Z w12 h0 n0 _ T1.heap _
    rw [e1]
    exact ⟨rfl, N0, rfl⟩
-- XpathTokensNamesNextPinLaw.endsOperand 
def Q2_11 (Z : State) (w12 : Addr) (w2 : Addr) (w3 : Addr) (w4 : Addr) (w5 : Addr) (w6 : Addr) (w7 : Addr) (w8 : Addr) (w9 : Addr) (w10 : Addr) (w11 : Addr) (h0 : Heap) (n0 : Nat) (v : Option Value) (h : Heap) (L : List Loc) : Prop := v = some (.int 0) ∧ Fr n0 L ∧ h = h0
set_option maxRecDepth 65536 in
set_option maxHeartbeats 40000000 in
theorem rm2_11 (l : Launch) (Z : State) (a0 : Array Value) (hw : HW Z a0) (ws : List Jvm.Cond) (w12 : Addr) (w2 : Addr) (w3 : Addr) (w4 : Addr) (w5 : Addr) (w6 : Addr) (w7 : Addr) (w8 : Addr) (w9 : Addr) (w10 : Addr) (w11 : Addr) (h0 : Heap) (n0 : Nat) (Z0 : n0 ≤ h0.size) (S2 : Sta Z Z.heap "com/example/edictum/edictum/io/XpathTokens$Kind" "RIGHT_PAREN" "Lcom/example/edictum/edictum/io/XpathTokens$Kind;" (.ref w2)) (P2 : Old Z n0 h0) (F_w12_ordinal : Fld Z Z.heap w12 "java/lang/Enum" "ordinal" "I" (.int 3)) (F_w2_ordinal : Fld Z Z.heap w2 "java/lang/Enum" "ordinal" "I" (.int 5)) (S4 : Sta Z Z.heap "com/example/edictum/edictum/io/XpathTokens$Kind" "RIGHT_BRACKET" "Lcom/example/edictum/edictum/io/XpathTokens$Kind;" (.ref w3)) (F_w3_ordinal : Fld Z Z.heap w3 "java/lang/Enum" "ordinal" "I" (.int 6)) (S6 : Sta Z Z.heap "com/example/edictum/edictum/io/XpathTokens$Kind" "AXIS" "Lcom/example/edictum/edictum/io/XpathTokens$Kind;" (.ref w4)) (F_w4_ordinal : Fld Z Z.heap w4 "java/lang/Enum" "ordinal" "I" (.int 10)) (S8 : Sta Z Z.heap "com/example/edictum/edictum/io/XpathTokens$Kind" "FUNCTION" "Lcom/example/edictum/edictum/io/XpathTokens$Kind;" (.ref w5)) (F_w5_ordinal : Fld Z Z.heap w5 "java/lang/Enum" "ordinal" "I" (.int 11)) (S10 : Sta Z Z.heap "com/example/edictum/edictum/io/XpathTokens$Kind" "NODE_TYPE" "Lcom/example/edictum/edictum/io/XpathTokens$Kind;" (.ref w6)) (F_w6_ordinal : Fld Z Z.heap w6 "java/lang/Enum" "ordinal" "I" (.int 12)) (S12 : Sta Z Z.heap "com/example/edictum/edictum/io/XpathTokens$Kind" "NAME_TEST" "Lcom/example/edictum/edictum/io/XpathTokens$Kind;" (.ref w7)) (F_w7_ordinal : Fld Z Z.heap w7 "java/lang/Enum" "ordinal" "I" (.int 13)) (S14 : Sta Z Z.heap "com/example/edictum/edictum/io/XpathTokens$Kind" "DOT" "Lcom/example/edictum/edictum/io/XpathTokens$Kind;" (.ref w8)) (F_w8_ordinal : Fld Z Z.heap w8 "java/lang/Enum" "ordinal" "I" (.int 14)) (S16 : Sta Z Z.heap "com/example/edictum/edictum/io/XpathTokens$Kind" "DOT_DOT" "Lcom/example/edictum/edictum/io/XpathTokens$Kind;" (.ref w9)) (F_w9_ordinal : Fld Z Z.heap w9 "java/lang/Enum" "ordinal" "I" (.int 15)) (S18 : Sta Z Z.heap "com/example/edictum/edictum/io/XpathTokens$Kind" "LITERAL" "Lcom/example/edictum/edictum/io/XpathTokens$Kind;" (.ref w10)) (F_w10_ordinal : Fld Z Z.heap w10 "java/lang/Enum" "ordinal" "I" (.int 16)) (S20 : Sta Z Z.heap "com/example/edictum/edictum/io/XpathTokens$Kind" "NUMBER" "Lcom/example/edictum/edictum/io/XpathTokens$Kind;" (.ref w11)) (F_w11_ordinal : Fld Z Z.heap w11 "java/lang/Enum" "ordinal" "I" (.int 17)) :
    MF l Z (⟨"com/example/edictum/edictum/io/XpathTokensNamesNextPinLaw", "endsOperand", "(Lcom/example/edictum/edictum/io/XpathTokens$Kind;)Z"⟩ : MethodName) (Jvm.Cond.code (⟨"com/example/edictum/edictum/io/XpathTokensNamesNextPinLaw", "endsOperand", "(Lcom/example/edictum/edictum/io/XpathTokens$Kind;)Z"⟩ : MethodName) method_3_code 1 (some .boolean)) ws ({ frames := 0, cells := 0, slots := 0, locals := 0 } : Room) #[(.ref w12)] h0 (Q2_11 Z w12 w2 w3 w4 w5 w6 w7 w8 w9 w10 w11 h0 n0) := by
  refine MetFree.of_bodySF (plainFor_of_name pn_0) hisR ?_
  intro p e s m args below meth c s₁ Bd hml0 hP hK
  obtain ⟨rfl, hZ, hh⟩ := hP
  have hx := Bd.exec
  have hby := Bd.bytes
  have hml : c.maxLocals = 1 := hml0
  have hown : s.vm.findClass "com/example/edictum/edictum/io/XpathTokensNamesNextPinLaw" = some m.cls := findClass_of_methodNamed Bd.named
  have hnm := (name_of_methodNamed Bd.named Bd.method).1
  have X0 : Stand p l e ({ frames := 0, cells := 0, slots := 0, locals := 0 } : Room) s m #[(.ref w12)] below meth c s₁ [] 0 0 := Stand.of_body Bd
  have e0 : s₁.heap = h0 := by rw [← hh, Bd.state]; rfl
  have N0 := Fr.nil n0
  have pre0 : ∀ t, SF p e below s₁ (mkF m 0 #[rv w12] []) t → SF p e below s₁ (entryFrame m #[(.ref w12)] 1) t := fun t k => castTop (ef_1 m w12) k
  obtain ⟨T1, X1, e1, st1⟩ := getS2 X0 hx hZ hown (host := "") (Or.inl (tw hw 11 rfl)) Via.refl e0 (S2.ext P2.2) (g := (mkF m 1 #[rv w12] [(.ref w12)])) rfl (hb hby d2_1)
  obtain ⟨T2, X2, e2, st2⟩ := getS2 X1 hx hZ hown (host := "") (Or.inl (tw hw 13 rfl)) Via.refl e1 (S4.ext P2.2) (g := (mkF m 8 #[rv w12] [(.ref w12)])) rfl (hb hby d2_8)
  obtain ⟨T3, X3, e3, st3⟩ := getS2 X2 hx hZ hown (host := "") (Or.inl (tw hw 15 rfl)) Via.refl e2 (S6.ext P2.2) (g := (mkF m 15 #[rv w12] [(.ref w12)])) rfl (hb hby d2_15)
  obtain ⟨T4, X4, e4, st4⟩ := getS2 X3 hx hZ hown (host := "") (Or.inl (tw hw 17 rfl)) Via.refl e3 (S8.ext P2.2) (g := (mkF m 22 #[rv w12] [(.ref w12)])) rfl (hb hby d2_22)
  obtain ⟨T5, X5, e5, st5⟩ := getS2 X4 hx hZ hown (host := "") (Or.inl (tw hw 19 rfl)) Via.refl e4 (S10.ext P2.2) (g := (mkF m 29 #[rv w12] [(.ref w12)])) rfl (hb hby d2_29)
  obtain ⟨T6, X6, e6, st6⟩ := getS2 X5 hx hZ hown (host := "") (Or.inl (tw hw 21 rfl)) Via.refl e5 (S12.ext P2.2) (g := (mkF m 36 #[rv w12] [(.ref w12)])) rfl (hb hby d2_36)
  obtain ⟨T7, X7, e7, st7⟩ := getS2 X6 hx hZ hown (host := "") (Or.inl (tw hw 23 rfl)) Via.refl e6 (S14.ext P2.2) (g := (mkF m 43 #[rv w12] [(.ref w12)])) rfl (hb hby d2_43)
  obtain ⟨T8, X8, e8, st8⟩ := getS2 X7 hx hZ hown (host := "") (Or.inl (tw hw 25 rfl)) Via.refl e7 (S16.ext P2.2) (g := (mkF m 50 #[rv w12] [(.ref w12)])) rfl (hb hby d2_50)
  obtain ⟨T9, X9, e9, st9⟩ := getS2 X8 hx hZ hown (host := "") (Or.inl (tw hw 27 rfl)) Via.refl e8 (S18.ext P2.2) (g := (mkF m 57 #[rv w12] [(.ref w12)])) rfl (hb hby d2_57)
  obtain ⟨T10, X10, e10, st10⟩ := getS2 X9 hx hZ hown (host := "") (Or.inl (tw hw 29 rfl)) Via.refl e9 (S20.ext P2.2) (g := (mkF m 64 #[rv w12] [(.ref w12)])) rfl (hb hby d2_64)
  obtain ⟨fs, hr, hrun, hended, hW, hsame⟩ := X10.leave (v := some (.int 0)) (fun h => by rw [Bd.returns] at h; cases h)
  refine ⟨_, _, pre0 _ ?_, hrun, hended, _, _, rfl, ?_, ⟨_, rfl⟩, hW, hsame.mono (by decide) (by decide)⟩
  · show SF p e below s₁ (mkF m 0 #[rv w12] []) _
    refine XS.aloadN X0.here hx rfl (hb hby d2_0) rfl rfl ?_
    show SF p e below s₁ (mkF m 1 #[rv w12] [(.ref w12)]) _
    refine st1 _ ?_
    show SF p e below T1 (mkF m 4 #[rv w12] [(.ref w2), (.ref w12)]) _
    refine Jvm.RoadKit.acmp (g := (mkF m 4 #[rv w12] [(.ref w2), (.ref w12)])) X1 hx rfl rfl rfl (pc0 := 4) (pc' := 7) (same := false) rfl (hb hby d2_4) rfl (decide_eq_false fun q => (Fld.ne F_w12_ordinal F_w2_ordinal (by decide)) (Value.ref.inj q)) (by decide) (by decide) ?_
    show SF p e below T1 (mkF m 7 #[rv w12] []) _
    refine XS.aloadN X1.here hx rfl (hb hby d2_7) rfl rfl ?_
    show SF p e below T1 (mkF m 8 #[rv w12] [(.ref w12)]) _
    refine st2 _ ?_
    show SF p e below T2 (mkF m 11 #[rv w12] [(.ref w3), (.ref w12)]) _
    refine Jvm.RoadKit.acmp (g := (mkF m 11 #[rv w12] [(.ref w3), (.ref w12)])) X2 hx rfl rfl rfl (pc0 := 11) (pc' := 14) (same := false) rfl (hb hby d2_11) rfl (decide_eq_false fun q => (Fld.ne F_w12_ordinal F_w3_ordinal (by decide)) (Value.ref.inj q)) (by decide) (by decide) ?_
    show SF p e below T2 (mkF m 14 #[rv w12] []) _
    refine XS.aloadN X2.here hx rfl (hb hby d2_14) rfl rfl ?_
    show SF p e below T2 (mkF m 15 #[rv w12] [(.ref w12)]) _
    refine st3 _ ?_
    show SF p e below T3 (mkF m 18 #[rv w12] [(.ref w4), (.ref w12)]) _
    refine Jvm.RoadKit.acmp (g := (mkF m 18 #[rv w12] [(.ref w4), (.ref w12)])) X3 hx rfl rfl rfl (pc0 := 18) (pc' := 21) (same := false) rfl (hb hby d2_18) rfl (decide_eq_false fun q => (Fld.ne F_w12_ordinal F_w4_ordinal (by decide)) (Value.ref.inj q)) (by decide) (by decide) ?_
    show SF p e below T3 (mkF m 21 #[rv w12] []) _
    refine XS.aloadN X3.here hx rfl (hb hby d2_21) rfl rfl ?_
    show SF p e below T3 (mkF m 22 #[rv w12] [(.ref w12)]) _
    refine st4 _ ?_
    show SF p e below T4 (mkF m 25 #[rv w12] [(.ref w5), (.ref w12)]) _
    refine Jvm.RoadKit.acmp (g := (mkF m 25 #[rv w12] [(.ref w5), (.ref w12)])) X4 hx rfl rfl rfl (pc0 := 25) (pc' := 28) (same := false) rfl (hb hby d2_25) rfl (decide_eq_false fun q => (Fld.ne F_w12_ordinal F_w5_ordinal (by decide)) (Value.ref.inj q)) (by decide) (by decide) ?_
    show SF p e below T4 (mkF m 28 #[rv w12] []) _
    refine XS.aloadN X4.here hx rfl (hb hby d2_28) rfl rfl ?_
    show SF p e below T4 (mkF m 29 #[rv w12] [(.ref w12)]) _
    refine st5 _ ?_
    show SF p e below T5 (mkF m 32 #[rv w12] [(.ref w6), (.ref w12)]) _
    refine Jvm.RoadKit.acmp (g := (mkF m 32 #[rv w12] [(.ref w6), (.ref w12)])) X5 hx rfl rfl rfl (pc0 := 32) (pc' := 35) (same := false) rfl (hb hby d2_32) rfl (decide_eq_false fun q => (Fld.ne F_w12_ordinal F_w6_ordinal (by decide)) (Value.ref.inj q)) (by decide) (by decide) ?_
    show SF p e below T5 (mkF m 35 #[rv w12] []) _
    refine XS.aloadN X5.here hx rfl (hb hby d2_35) rfl rfl ?_
    show SF p e below T5 (mkF m 36 #[rv w12] [(.ref w12)]) _
    refine st6 _ ?_
    show SF p e below T6 (mkF m 39 #[rv w12] [(.ref w7), (.ref w12)]) _
    refine Jvm.RoadKit.acmp (g := (mkF m 39 #[rv w12] [(.ref w7), (.ref w12)])) X6 hx rfl rfl rfl (pc0 := 39) (pc' := 42) (same := false) rfl (hb hby d2_39) rfl (decide_eq_false fun q => (Fld.ne F_w12_ordinal F_w7_ordinal (by decide)) (Value.ref.inj q)) (by decide) (by decide) ?_
    show SF p e below T6 (mkF m 42 #[rv w12] []) _
    refine XS.aloadN X6.here hx rfl (hb hby d2_42) rfl rfl ?_
    show SF p e below T6 (mkF m 43 #[rv w12] [(.ref w12)]) _
    refine st7 _ ?_
    show SF p e below T7 (mkF m 46 #[rv w12] [(.ref w8), (.ref w12)]) _
    refine Jvm.RoadKit.acmp (g := (mkF m 46 #[rv w12] [(.ref w8), (.ref w12)])) X7 hx rfl rfl rfl (pc0 := 46) (pc' := 49) (same := false) rfl (hb hby d2_46) rfl (decide_eq_false fun q => (Fld.ne F_w12_ordinal F_w8_ordinal (by decide)) (Value.ref.inj q)) (by decide) (by decide) ?_
    show SF p e below T7 (mkF m 49 #[rv w12] []) _
    refine XS.aloadN X7.here hx rfl (hb hby d2_49) rfl rfl ?_
    show SF p e below T7 (mkF m 50 #[rv w12] [(.ref w12)]) _
    refine st8 _ ?_
    show SF p e below T8 (mkF m 53 #[rv w12] [(.ref w9), (.ref w12)]) _
    refine Jvm.RoadKit.acmp (g := (mkF m 53 #[rv w12] [(.ref w9), (.ref w12)])) X8 hx rfl rfl rfl (pc0 := 53) (pc' := 56) (same := false) rfl (hb hby d2_53) rfl (decide_eq_false fun q => (Fld.ne F_w12_ordinal F_w9_ordinal (by decide)) (Value.ref.inj q)) (by decide) (by decide) ?_
    show SF p e below T8 (mkF m 56 #[rv w12] []) _
    refine XS.aloadN X8.here hx rfl (hb hby d2_56) rfl rfl ?_
    show SF p e below T8 (mkF m 57 #[rv w12] [(.ref w12)]) _
    refine st9 _ ?_
    show SF p e below T9 (mkF m 60 #[rv w12] [(.ref w10), (.ref w12)]) _
    refine Jvm.RoadKit.acmp (g := (mkF m 60 #[rv w12] [(.ref w10), (.ref w12)])) X9 hx rfl rfl rfl (pc0 := 60) (pc' := 63) (same := false) rfl (hb hby d2_60) rfl (decide_eq_false fun q => (Fld.ne F_w12_ordinal F_w10_ordinal (by decide)) (Value.ref.inj q)) (by decide) (by decide) ?_
    show SF p e below T9 (mkF m 63 #[rv w12] []) _
    refine XS.aloadN X9.here hx rfl (hb hby d2_63) rfl rfl ?_
    show SF p e below T9 (mkF m 64 #[rv w12] [(.ref w12)]) _
    refine st10 _ ?_
    show SF p e below T10 (mkF m 67 #[rv w12] [(.ref w11), (.ref w12)]) _
    refine Jvm.RoadKit.acmp (g := (mkF m 67 #[rv w12] [(.ref w11), (.ref w12)])) X10 hx rfl rfl rfl (pc0 := 67) (pc' := 74) (same := false) rfl (hb hby d2_67) rfl (decide_eq_false fun q => (Fld.ne F_w12_ordinal F_w11_ordinal (by decide)) (Value.ref.inj q)) (by decide) (by decide) ?_
    show SF p e below T10 (mkF m 74 #[rv w12] []) _
    refine XS.iconst X10.here hx rfl (hb hby d2_74) ?_
    show SF p e below T10 (mkF m 75 #[rv w12] [(.int 0)]) _
    exact retN X10 hx (t := .boolean) Bd.returns (by simp) (hb hby d2_75) hr
  · show Q2_11 Z w12 w2 w3 w4 w5 w6 w7 w8 w9 w10 w11 h0 n0 _ T10.heap _
    rw [e10]
    exact ⟨rfl, N0, rfl⟩
theorem d3_21 : decode prog_251_method_4_code 21 = .ok (.aload_n 0, 1) := by decide +kernel
theorem d3_22 : decode prog_251_method_4_code 22 = .ok (.getstatic 13, 3) := by decide +kernel
theorem d3_25 : decode prog_251_method_4_code 25 = .ok (.if_acmp .eq 31, 3) := by decide +kernel
-- XpathTokens$Kind.namesNext 
def Q3_12 (Z : State) (w12 : Addr) (w1 : Addr) (w13 : Addr) (w14 : Addr) (h0 : Heap) (n0 : Nat) (v : Option Value) (h : Heap) (L : List Loc) : Prop := v = some (.int 1) ∧ Fr n0 L ∧ h = h0
set_option maxRecDepth 65536 in
set_option maxHeartbeats 40000000 in
theorem rm3_12 (l : Launch) (Z : State) (a0 : Array Value) (hw : HW Z a0) (ws : List Jvm.Cond) (w12 : Addr) (w1 : Addr) (w13 : Addr) (w14 : Addr) (h0 : Heap) (n0 : Nat) (Z0 : n0 ≤ h0.size) (S0 : Sta Z Z.heap "com/example/edictum/edictum/io/XpathTokens$Kind" "AT" "Lcom/example/edictum/edictum/io/XpathTokens$Kind;" (.ref w1)) (P2 : Old Z n0 h0) (F_w12_ordinal : Fld Z Z.heap w12 "java/lang/Enum" "ordinal" "I" (.int 3)) (F_w1_ordinal : Fld Z Z.heap w1 "java/lang/Enum" "ordinal" "I" (.int 0)) (S24 : Sta Z Z.heap "com/example/edictum/edictum/io/XpathTokens$Kind" "AXIS_SEPARATOR" "Lcom/example/edictum/edictum/io/XpathTokens$Kind;" (.ref w13)) (F_w13_ordinal : Fld Z Z.heap w13 "java/lang/Enum" "ordinal" "I" (.int 1)) (S26 : Sta Z Z.heap "com/example/edictum/edictum/io/XpathTokens$Kind" "LEFT_PAREN" "Lcom/example/edictum/edictum/io/XpathTokens$Kind;" (.ref w14)) (F_w14_ordinal : Fld Z Z.heap w14 "java/lang/Enum" "ordinal" "I" (.int 2)) (S22 : Sta Z Z.heap "com/example/edictum/edictum/io/XpathTokens$Kind" "LEFT_BRACKET" "Lcom/example/edictum/edictum/io/XpathTokens$Kind;" (.ref w12)) :
    MF l Z (⟨"com/example/edictum/edictum/io/XpathTokens$Kind", "namesNext", "()Z"⟩ : MethodName) (Jvm.Cond.code (⟨"com/example/edictum/edictum/io/XpathTokens$Kind", "namesNext", "()Z"⟩ : MethodName) prog_251_method_4_code 1 (some .boolean)) ws ({ frames := 0, cells := 0, slots := 0, locals := 0 } : Room) #[(.ref w12)] h0 (Q3_12 Z w12 w1 w13 w14 h0 n0) := by
  refine MetFree.of_bodySF (plainFor_of_name pn_1) hisR ?_
  intro p e s m args below meth c s₁ Bd hml0 hP hK
  obtain ⟨rfl, hZ, hh⟩ := hP
  have hx := Bd.exec
  have hby := Bd.bytes
  have hml : c.maxLocals = 1 := hml0
  have hown : s.vm.findClass "com/example/edictum/edictum/io/XpathTokens$Kind" = some m.cls := findClass_of_methodNamed Bd.named
  have hnm := (name_of_methodNamed Bd.named Bd.method).1
  have X0 : Stand p l e ({ frames := 0, cells := 0, slots := 0, locals := 0 } : Room) s m #[(.ref w12)] below meth c s₁ [] 0 0 := Stand.of_body Bd
  have e0 : s₁.heap = h0 := by rw [← hh, Bd.state]; rfl
  have N0 := Fr.nil n0
  have pre0 : ∀ t, SF p e below s₁ (mkF m 0 #[rv w12] []) t → SF p e below s₁ (entryFrame m #[(.ref w12)] 1) t := fun t k => castTop (ef_2 m w12) k
  obtain ⟨T1, X1, e1, st1⟩ := getS2 X0 hx hZ hown (host := "") (Or.inl (tw hw 36 rfl)) Via.refl e0 (S0.ext P2.2) (g := (mkF m 1 #[rv w12] [(.ref w12)])) rfl (hb hby d3_1)
  obtain ⟨T2, X2, e2, st2⟩ := getS2 X1 hx hZ hown (host := "") (Or.inl (tw hw 39 rfl)) Via.refl e1 (S24.ext P2.2) (g := (mkF m 8 #[rv w12] [(.ref w12)])) rfl (hb hby d3_8)
  obtain ⟨T3, X3, e3, st3⟩ := getS2 X2 hx hZ hown (host := "") (Or.inl (tw hw 41 rfl)) Via.refl e2 (S26.ext P2.2) (g := (mkF m 15 #[rv w12] [(.ref w12)])) rfl (hb hby d3_15)
  obtain ⟨T4, X4, e4, st4⟩ := getS2 X3 hx hZ hown (host := "") (Or.inl (tw hw 43 rfl)) Via.refl e3 (S22.ext P2.2) (g := (mkF m 22 #[rv w12] [(.ref w12)])) rfl (hb hby d3_22)
  obtain ⟨fs, hr, hrun, hended, hW, hsame⟩ := X4.leave (v := some (.int 1)) (fun h => by rw [Bd.returns] at h; cases h)
  refine ⟨_, _, pre0 _ ?_, hrun, hended, _, _, rfl, ?_, ⟨_, rfl⟩, hW, hsame.mono (by decide) (by decide)⟩
  · show SF p e below s₁ (mkF m 0 #[rv w12] []) _
    refine XS.aloadN X0.here hx rfl (hb hby d3_0) rfl rfl ?_
    show SF p e below s₁ (mkF m 1 #[rv w12] [(.ref w12)]) _
    refine st1 _ ?_
    show SF p e below T1 (mkF m 4 #[rv w12] [(.ref w1), (.ref w12)]) _
    refine Jvm.RoadKit.acmp (g := (mkF m 4 #[rv w12] [(.ref w1), (.ref w12)])) X1 hx rfl rfl rfl (pc0 := 4) (pc' := 7) (same := false) rfl (hb hby d3_4) rfl (decide_eq_false fun q => (Fld.ne F_w12_ordinal F_w1_ordinal (by decide)) (Value.ref.inj q)) (by decide) (by decide) ?_
    show SF p e below T1 (mkF m 7 #[rv w12] []) _
    refine XS.aloadN X1.here hx rfl (hb hby d3_7) rfl rfl ?_
    show SF p e below T1 (mkF m 8 #[rv w12] [(.ref w12)]) _
    refine st2 _ ?_
    show SF p e below T2 (mkF m 11 #[rv w12] [(.ref w13), (.ref w12)]) _
    refine Jvm.RoadKit.acmp (g := (mkF m 11 #[rv w12] [(.ref w13), (.ref w12)])) X2 hx rfl rfl rfl (pc0 := 11) (pc' := 14) (same := false) rfl (hb hby d3_11) rfl (decide_eq_false fun q => (Fld.ne F_w12_ordinal F_w13_ordinal (by decide)) (Value.ref.inj q)) (by decide) (by decide) ?_
    show SF p e below T2 (mkF m 14 #[rv w12] []) _
    refine XS.aloadN X2.here hx rfl (hb hby d3_14) rfl rfl ?_
    show SF p e below T2 (mkF m 15 #[rv w12] [(.ref w12)]) _
    refine st3 _ ?_
    show SF p e below T3 (mkF m 18 #[rv w12] [(.ref w14), (.ref w12)]) _
    refine Jvm.RoadKit.acmp (g := (mkF m 18 #[rv w12] [(.ref w14), (.ref w12)])) X3 hx rfl rfl rfl (pc0 := 18) (pc' := 21) (same := false) rfl (hb hby d3_18) rfl (decide_eq_false fun q => (Fld.ne F_w12_ordinal F_w14_ordinal (by decide)) (Value.ref.inj q)) (by decide) (by decide) ?_
    show SF p e below T3 (mkF m 21 #[rv w12] []) _
    refine XS.aloadN X3.here hx rfl (hb hby d3_21) rfl rfl ?_
    show SF p e below T3 (mkF m 22 #[rv w12] [(.ref w12)]) _
    refine st4 _ ?_
    show SF p e below T4 (mkF m 25 #[rv w12] [(.ref w12), (.ref w12)]) _
    refine Jvm.RoadKit.acmp (g := (mkF m 25 #[rv w12] [(.ref w12), (.ref w12)])) X4 hx rfl rfl rfl (pc0 := 25) (pc' := 56) (same := true) rfl (hb hby d3_25) rfl (decide_eq_true rfl) (by decide) (by decide) ?_
    show SF p e below T4 (mkF m 56 #[rv w12] []) _
    refine XS.iconst X4.here hx rfl (hb hby d3_56) ?_
    show SF p e below T4 (mkF m 57 #[rv w12] [(.int 1)]) _
    refine XS.goto X4.here hx rfl (pc0 := 57) (pc' := 61) rfl (hb hby d3_57) (by decide) (by decide) ?_
    show SF p e below T4 (mkF m 61 #[rv w12] [(.int 1)]) _
    exact retN X4 hx (t := .boolean) Bd.returns (by simp) (hb hby d3_61) hr
  · show Q3_12 Z w12 w1 w13 w14 h0 n0 _ T4.heap _
    rw [e4]
    exact ⟨rfl, N0, rfl⟩
theorem d1_35 : decode method_2_code 35 = .ok (.iload_n 0, 1) := by decide +kernel
theorem d1_36 : decode method_2_code 36 = .ok (.iconst 4, 1) := by decide +kernel
theorem d1_37 : decode method_2_code 37 = .ok (.if_icmp .ne 7, 3) := by decide +kernel
theorem d1_40 : decode method_2_code 40 = .ok (.getstatic 22, 3) := by decide +kernel
theorem d1_43 : decode method_2_code 43 = .ok (.areturn, 1) := by decide +kernel
-- XpathTokensNamesNextPinLaw.kindOf 
def Q1_13 (Z : State) (w16 : Addr) (h0 : Heap) (n0 : Nat) (v : Option Value) (h : Heap) (L : List Loc) : Prop := v = some (.ref w16) ∧ Fr n0 L ∧ h = h0
set_option maxRecDepth 65536 in
set_option maxHeartbeats 40000000 in
theorem rm1_13 (l : Launch) (Z : State) (a0 : Array Value) (hw : HW Z a0) (ws : List Jvm.Cond) (w16 : Addr) (h0 : Heap) (n0 : Nat) (Z0 : n0 ≤ h0.size) (S30 : Sta Z Z.heap "com/example/edictum/edictum/io/XpathTokens$Kind" "COMMA" "Lcom/example/edictum/edictum/io/XpathTokens$Kind;" (.ref w16)) (P2 : Old Z n0 h0) :
    MF l Z (⟨"com/example/edictum/edictum/io/XpathTokensNamesNextPinLaw", "kindOf", "(I)Lcom/example/edictum/edictum/io/XpathTokens$Kind;"⟩ : MethodName) (Jvm.Cond.code (⟨"com/example/edictum/edictum/io/XpathTokensNamesNextPinLaw", "kindOf", "(I)Lcom/example/edictum/edictum/io/XpathTokens$Kind;"⟩ : MethodName) method_2_code 1 (some (.object "com/example/edictum/edictum/io/XpathTokens$Kind"))) ws ({ frames := 0, cells := 0, slots := 0, locals := 0 } : Room) #[(.int 4)] h0 (Q1_13 Z w16 h0 n0) := by
  refine MetFree.of_bodySF (plainFor_of_name pn_0) hisR ?_
  intro p e s m args below meth c s₁ Bd hml0 hP hK
  obtain ⟨rfl, hZ, hh⟩ := hP
  have hx := Bd.exec
  have hby := Bd.bytes
  have hml : c.maxLocals = 1 := hml0
  have hown : s.vm.findClass "com/example/edictum/edictum/io/XpathTokensNamesNextPinLaw" = some m.cls := findClass_of_methodNamed Bd.named
  have hnm := (name_of_methodNamed Bd.named Bd.method).1
  have X0 : Stand p l e ({ frames := 0, cells := 0, slots := 0, locals := 0 } : Room) s m #[(.int 4)] below meth c s₁ [] 0 0 := Stand.of_body Bd
  have e0 : s₁.heap = h0 := by rw [← hh, Bd.state]; rfl
  have N0 := Fr.nil n0
  have pre0 : ∀ t, SF p e below s₁ (mkF m 0 #[iv 4] []) t → SF p e below s₁ (entryFrame m #[(.int 4)] 1) t := fun t k => castTop (ef_0 m (4 : Int32)) k
  obtain ⟨T1, X1, e1, st1⟩ := getS2 X0 hx hZ hown (host := "") (Or.inl (tw hw 55 rfl)) Via.refl e0 (S30.ext P2.2) (g := (mkF m 40 #[iv 4] [])) rfl (hb hby d1_40)
  obtain ⟨fs, hr, hrun, hended, hW, hsame⟩ := X1.leave (v := some (.ref w16)) (fun h => by rw [Bd.returns] at h; cases h)
  refine ⟨_, _, pre0 _ ?_, hrun, hended, _, _, rfl, ?_, ⟨_, rfl⟩, hW, hsame.mono (by decide) (by decide)⟩
  · show SF p e below s₁ (mkF m 0 #[iv 4] []) _
    refine XS.iloadN X0.here hx rfl (hb hby d1_0) rfl ?_
    show SF p e below s₁ (mkF m 1 #[iv 4] [(.int 4)]) _
    refine XS.ifYes X0.here hx rfl (pc0 := 1) (pc' := 8) rfl (hb hby d1_1) rfl ((if0 _ _).trans (feq (by decide : ¬ ((4 : Int32) = (0 : Int32)))).2) (by decide) (by decide) ?_
    show SF p e below s₁ (mkF m 8 #[iv 4] []) _
    refine XS.iloadN X0.here hx rfl (hb hby d1_8) rfl ?_
    show SF p e below s₁ (mkF m 9 #[iv 4] [(.int 4)]) _
    refine XS.iconst X0.here hx rfl (hb hby d1_9) ?_
    show SF p e below s₁ (mkF m 10 #[iv 4] [(.int 1), (.int 4)]) _
    refine XS.icmpYes X0.here hx rfl (pc0 := 10) (pc' := 17) rfl (hb hby d1_10) rfl (feq (by decide : ¬ ((4 : Int32) = (1 : Int32)))).2 (by decide) (by decide) ?_
    show SF p e below s₁ (mkF m 17 #[iv 4] []) _
    refine XS.iloadN X0.here hx rfl (hb hby d1_17) rfl ?_
    show SF p e below s₁ (mkF m 18 #[iv 4] [(.int 4)]) _
    refine XS.iconst X0.here hx rfl (hb hby d1_18) ?_
    show SF p e below s₁ (mkF m 19 #[iv 4] [(.int 2), (.int 4)]) _
    refine XS.icmpYes X0.here hx rfl (pc0 := 19) (pc' := 26) rfl (hb hby d1_19) rfl (feq (by decide : ¬ ((4 : Int32) = (2 : Int32)))).2 (by decide) (by decide) ?_
    show SF p e below s₁ (mkF m 26 #[iv 4] []) _
    refine XS.iloadN X0.here hx rfl (hb hby d1_26) rfl ?_
    show SF p e below s₁ (mkF m 27 #[iv 4] [(.int 4)]) _
    refine XS.iconst X0.here hx rfl (hb hby d1_27) ?_
    show SF p e below s₁ (mkF m 28 #[iv 4] [(.int 3), (.int 4)]) _
    refine XS.icmpYes X0.here hx rfl (pc0 := 28) (pc' := 35) rfl (hb hby d1_28) rfl (feq (by decide : ¬ ((4 : Int32) = (3 : Int32)))).2 (by decide) (by decide) ?_
    show SF p e below s₁ (mkF m 35 #[iv 4] []) _
    refine XS.iloadN X0.here hx rfl (hb hby d1_35) rfl ?_
    show SF p e below s₁ (mkF m 36 #[iv 4] [(.int 4)]) _
    refine XS.iconst X0.here hx rfl (hb hby d1_36) ?_
    show SF p e below s₁ (mkF m 37 #[iv 4] [(.int 4), (.int 4)]) _
    refine XS.icmpNo X0.here hx rfl (hb hby d1_37) rfl (teq (by decide : (4 : Int32) = (4 : Int32))).2 ?_
    show SF p e below s₁ (mkF m 40 #[iv 4] []) _
    refine st1 _ ?_
    show SF p e below T1 (mkF m 43 #[iv 4] [(.ref w16)]) _
    exact own_retR X1 hx Bd.returns rfl rfl (hb hby d1_43) hr
  · show Q1_13 Z w16 h0 n0 _ T1.heap _
    rw [e1]
    exact ⟨rfl, N0, rfl⟩
-- XpathTokensNamesNextPinLaw.endsOperand 
def Q2_14 (Z : State) (w16 : Addr) (w2 : Addr) (w3 : Addr) (w4 : Addr) (w5 : Addr) (w6 : Addr) (w7 : Addr) (w8 : Addr) (w9 : Addr) (w10 : Addr) (w11 : Addr) (h0 : Heap) (n0 : Nat) (v : Option Value) (h : Heap) (L : List Loc) : Prop := v = some (.int 0) ∧ Fr n0 L ∧ h = h0
set_option maxRecDepth 65536 in
set_option maxHeartbeats 40000000 in
theorem rm2_14 (l : Launch) (Z : State) (a0 : Array Value) (hw : HW Z a0) (ws : List Jvm.Cond) (w16 : Addr) (w2 : Addr) (w3 : Addr) (w4 : Addr) (w5 : Addr) (w6 : Addr) (w7 : Addr) (w8 : Addr) (w9 : Addr) (w10 : Addr) (w11 : Addr) (h0 : Heap) (n0 : Nat) (Z0 : n0 ≤ h0.size) (S2 : Sta Z Z.heap "com/example/edictum/edictum/io/XpathTokens$Kind" "RIGHT_PAREN" "Lcom/example/edictum/edictum/io/XpathTokens$Kind;" (.ref w2)) (P2 : Old Z n0 h0) (F_w16_ordinal : Fld Z Z.heap w16 "java/lang/Enum" "ordinal" "I" (.int 4)) (F_w2_ordinal : Fld Z Z.heap w2 "java/lang/Enum" "ordinal" "I" (.int 5)) (S4 : Sta Z Z.heap "com/example/edictum/edictum/io/XpathTokens$Kind" "RIGHT_BRACKET" "Lcom/example/edictum/edictum/io/XpathTokens$Kind;" (.ref w3)) (F_w3_ordinal : Fld Z Z.heap w3 "java/lang/Enum" "ordinal" "I" (.int 6)) (S6 : Sta Z Z.heap "com/example/edictum/edictum/io/XpathTokens$Kind" "AXIS" "Lcom/example/edictum/edictum/io/XpathTokens$Kind;" (.ref w4)) (F_w4_ordinal : Fld Z Z.heap w4 "java/lang/Enum" "ordinal" "I" (.int 10)) (S8 : Sta Z Z.heap "com/example/edictum/edictum/io/XpathTokens$Kind" "FUNCTION" "Lcom/example/edictum/edictum/io/XpathTokens$Kind;" (.ref w5)) (F_w5_ordinal : Fld Z Z.heap w5 "java/lang/Enum" "ordinal" "I" (.int 11)) (S10 : Sta Z Z.heap "com/example/edictum/edictum/io/XpathTokens$Kind" "NODE_TYPE" "Lcom/example/edictum/edictum/io/XpathTokens$Kind;" (.ref w6)) (F_w6_ordinal : Fld Z Z.heap w6 "java/lang/Enum" "ordinal" "I" (.int 12)) (S12 : Sta Z Z.heap "com/example/edictum/edictum/io/XpathTokens$Kind" "NAME_TEST" "Lcom/example/edictum/edictum/io/XpathTokens$Kind;" (.ref w7)) (F_w7_ordinal : Fld Z Z.heap w7 "java/lang/Enum" "ordinal" "I" (.int 13)) (S14 : Sta Z Z.heap "com/example/edictum/edictum/io/XpathTokens$Kind" "DOT" "Lcom/example/edictum/edictum/io/XpathTokens$Kind;" (.ref w8)) (F_w8_ordinal : Fld Z Z.heap w8 "java/lang/Enum" "ordinal" "I" (.int 14)) (S16 : Sta Z Z.heap "com/example/edictum/edictum/io/XpathTokens$Kind" "DOT_DOT" "Lcom/example/edictum/edictum/io/XpathTokens$Kind;" (.ref w9)) (F_w9_ordinal : Fld Z Z.heap w9 "java/lang/Enum" "ordinal" "I" (.int 15)) (S18 : Sta Z Z.heap "com/example/edictum/edictum/io/XpathTokens$Kind" "LITERAL" "Lcom/example/edictum/edictum/io/XpathTokens$Kind;" (.ref w10)) (F_w10_ordinal : Fld Z Z.heap w10 "java/lang/Enum" "ordinal" "I" (.int 16)) (S20 : Sta Z Z.heap "com/example/edictum/edictum/io/XpathTokens$Kind" "NUMBER" "Lcom/example/edictum/edictum/io/XpathTokens$Kind;" (.ref w11)) (F_w11_ordinal : Fld Z Z.heap w11 "java/lang/Enum" "ordinal" "I" (.int 17)) :
    MF l Z (⟨"com/example/edictum/edictum/io/XpathTokensNamesNextPinLaw", "endsOperand", "(Lcom/example/edictum/edictum/io/XpathTokens$Kind;)Z"⟩ : MethodName) (Jvm.Cond.code (⟨"com/example/edictum/edictum/io/XpathTokensNamesNextPinLaw", "endsOperand", "(Lcom/example/edictum/edictum/io/XpathTokens$Kind;)Z"⟩ : MethodName) method_3_code 1 (some .boolean)) ws ({ frames := 0, cells := 0, slots := 0, locals := 0 } : Room) #[(.ref w16)] h0 (Q2_14 Z w16 w2 w3 w4 w5 w6 w7 w8 w9 w10 w11 h0 n0) := by
  refine MetFree.of_bodySF (plainFor_of_name pn_0) hisR ?_
  intro p e s m args below meth c s₁ Bd hml0 hP hK
  obtain ⟨rfl, hZ, hh⟩ := hP
  have hx := Bd.exec
  have hby := Bd.bytes
  have hml : c.maxLocals = 1 := hml0
  have hown : s.vm.findClass "com/example/edictum/edictum/io/XpathTokensNamesNextPinLaw" = some m.cls := findClass_of_methodNamed Bd.named
  have hnm := (name_of_methodNamed Bd.named Bd.method).1
  have X0 : Stand p l e ({ frames := 0, cells := 0, slots := 0, locals := 0 } : Room) s m #[(.ref w16)] below meth c s₁ [] 0 0 := Stand.of_body Bd
  have e0 : s₁.heap = h0 := by rw [← hh, Bd.state]; rfl
  have N0 := Fr.nil n0
  have pre0 : ∀ t, SF p e below s₁ (mkF m 0 #[rv w16] []) t → SF p e below s₁ (entryFrame m #[(.ref w16)] 1) t := fun t k => castTop (ef_1 m w16) k
  obtain ⟨T1, X1, e1, st1⟩ := getS2 X0 hx hZ hown (host := "") (Or.inl (tw hw 11 rfl)) Via.refl e0 (S2.ext P2.2) (g := (mkF m 1 #[rv w16] [(.ref w16)])) rfl (hb hby d2_1)
  obtain ⟨T2, X2, e2, st2⟩ := getS2 X1 hx hZ hown (host := "") (Or.inl (tw hw 13 rfl)) Via.refl e1 (S4.ext P2.2) (g := (mkF m 8 #[rv w16] [(.ref w16)])) rfl (hb hby d2_8)
  obtain ⟨T3, X3, e3, st3⟩ := getS2 X2 hx hZ hown (host := "") (Or.inl (tw hw 15 rfl)) Via.refl e2 (S6.ext P2.2) (g := (mkF m 15 #[rv w16] [(.ref w16)])) rfl (hb hby d2_15)
  obtain ⟨T4, X4, e4, st4⟩ := getS2 X3 hx hZ hown (host := "") (Or.inl (tw hw 17 rfl)) Via.refl e3 (S8.ext P2.2) (g := (mkF m 22 #[rv w16] [(.ref w16)])) rfl (hb hby d2_22)
  obtain ⟨T5, X5, e5, st5⟩ := getS2 X4 hx hZ hown (host := "") (Or.inl (tw hw 19 rfl)) Via.refl e4 (S10.ext P2.2) (g := (mkF m 29 #[rv w16] [(.ref w16)])) rfl (hb hby d2_29)
  obtain ⟨T6, X6, e6, st6⟩ := getS2 X5 hx hZ hown (host := "") (Or.inl (tw hw 21 rfl)) Via.refl e5 (S12.ext P2.2) (g := (mkF m 36 #[rv w16] [(.ref w16)])) rfl (hb hby d2_36)
  obtain ⟨T7, X7, e7, st7⟩ := getS2 X6 hx hZ hown (host := "") (Or.inl (tw hw 23 rfl)) Via.refl e6 (S14.ext P2.2) (g := (mkF m 43 #[rv w16] [(.ref w16)])) rfl (hb hby d2_43)
  obtain ⟨T8, X8, e8, st8⟩ := getS2 X7 hx hZ hown (host := "") (Or.inl (tw hw 25 rfl)) Via.refl e7 (S16.ext P2.2) (g := (mkF m 50 #[rv w16] [(.ref w16)])) rfl (hb hby d2_50)
  obtain ⟨T9, X9, e9, st9⟩ := getS2 X8 hx hZ hown (host := "") (Or.inl (tw hw 27 rfl)) Via.refl e8 (S18.ext P2.2) (g := (mkF m 57 #[rv w16] [(.ref w16)])) rfl (hb hby d2_57)
  obtain ⟨T10, X10, e10, st10⟩ := getS2 X9 hx hZ hown (host := "") (Or.inl (tw hw 29 rfl)) Via.refl e9 (S20.ext P2.2) (g := (mkF m 64 #[rv w16] [(.ref w16)])) rfl (hb hby d2_64)
  obtain ⟨fs, hr, hrun, hended, hW, hsame⟩ := X10.leave (v := some (.int 0)) (fun h => by rw [Bd.returns] at h; cases h)
  refine ⟨_, _, pre0 _ ?_, hrun, hended, _, _, rfl, ?_, ⟨_, rfl⟩, hW, hsame.mono (by decide) (by decide)⟩
  · show SF p e below s₁ (mkF m 0 #[rv w16] []) _
    refine XS.aloadN X0.here hx rfl (hb hby d2_0) rfl rfl ?_
    show SF p e below s₁ (mkF m 1 #[rv w16] [(.ref w16)]) _
    refine st1 _ ?_
    show SF p e below T1 (mkF m 4 #[rv w16] [(.ref w2), (.ref w16)]) _
    refine Jvm.RoadKit.acmp (g := (mkF m 4 #[rv w16] [(.ref w2), (.ref w16)])) X1 hx rfl rfl rfl (pc0 := 4) (pc' := 7) (same := false) rfl (hb hby d2_4) rfl (decide_eq_false fun q => (Fld.ne F_w16_ordinal F_w2_ordinal (by decide)) (Value.ref.inj q)) (by decide) (by decide) ?_
    show SF p e below T1 (mkF m 7 #[rv w16] []) _
    refine XS.aloadN X1.here hx rfl (hb hby d2_7) rfl rfl ?_
    show SF p e below T1 (mkF m 8 #[rv w16] [(.ref w16)]) _
    refine st2 _ ?_
    show SF p e below T2 (mkF m 11 #[rv w16] [(.ref w3), (.ref w16)]) _
    refine Jvm.RoadKit.acmp (g := (mkF m 11 #[rv w16] [(.ref w3), (.ref w16)])) X2 hx rfl rfl rfl (pc0 := 11) (pc' := 14) (same := false) rfl (hb hby d2_11) rfl (decide_eq_false fun q => (Fld.ne F_w16_ordinal F_w3_ordinal (by decide)) (Value.ref.inj q)) (by decide) (by decide) ?_
    show SF p e below T2 (mkF m 14 #[rv w16] []) _
    refine XS.aloadN X2.here hx rfl (hb hby d2_14) rfl rfl ?_
    show SF p e below T2 (mkF m 15 #[rv w16] [(.ref w16)]) _
    refine st3 _ ?_
    show SF p e below T3 (mkF m 18 #[rv w16] [(.ref w4), (.ref w16)]) _
    refine Jvm.RoadKit.acmp (g := (mkF m 18 #[rv w16] [(.ref w4), (.ref w16)])) X3 hx rfl rfl rfl (pc0 := 18) (pc' := 21) (same := false) rfl (hb hby d2_18) rfl (decide_eq_false fun q => (Fld.ne F_w16_ordinal F_w4_ordinal (by decide)) (Value.ref.inj q)) (by decide) (by decide) ?_
    show SF p e below T3 (mkF m 21 #[rv w16] []) _
    refine XS.aloadN X3.here hx rfl (hb hby d2_21) rfl rfl ?_
    show SF p e below T3 (mkF m 22 #[rv w16] [(.ref w16)]) _
    refine st4 _ ?_
    show SF p e below T4 (mkF m 25 #[rv w16] [(.ref w5), (.ref w16)]) _
    refine Jvm.RoadKit.acmp (g := (mkF m 25 #[rv w16] [(.ref w5), (.ref w16)])) X4 hx rfl rfl rfl (pc0 := 25) (pc' := 28) (same := false) rfl (hb hby d2_25) rfl (decide_eq_false fun q => (Fld.ne F_w16_ordinal F_w5_ordinal (by decide)) (Value.ref.inj q)) (by decide) (by decide) ?_
    show SF p e below T4 (mkF m 28 #[rv w16] []) _
    refine XS.aloadN X4.here hx rfl (hb hby d2_28) rfl rfl ?_
    show SF p e below T4 (mkF m 29 #[rv w16] [(.ref w16)]) _
    refine st5 _ ?_
    show SF p e below T5 (mkF m 32 #[rv w16] [(.ref w6), (.ref w16)]) _
    refine Jvm.RoadKit.acmp (g := (mkF m 32 #[rv w16] [(.ref w6), (.ref w16)])) X5 hx rfl rfl rfl (pc0 := 32) (pc' := 35) (same := false) rfl (hb hby d2_32) rfl (decide_eq_false fun q => (Fld.ne F_w16_ordinal F_w6_ordinal (by decide)) (Value.ref.inj q)) (by decide) (by decide) ?_
    show SF p e below T5 (mkF m 35 #[rv w16] []) _
    refine XS.aloadN X5.here hx rfl (hb hby d2_35) rfl rfl ?_
    show SF p e below T5 (mkF m 36 #[rv w16] [(.ref w16)]) _
    refine st6 _ ?_
    show SF p e below T6 (mkF m 39 #[rv w16] [(.ref w7), (.ref w16)]) _
    refine Jvm.RoadKit.acmp (g := (mkF m 39 #[rv w16] [(.ref w7), (.ref w16)])) X6 hx rfl rfl rfl (pc0 := 39) (pc' := 42) (same := false) rfl (hb hby d2_39) rfl (decide_eq_false fun q => (Fld.ne F_w16_ordinal F_w7_ordinal (by decide)) (Value.ref.inj q)) (by decide) (by decide) ?_
    show SF p e below T6 (mkF m 42 #[rv w16] []) _
    refine XS.aloadN X6.here hx rfl (hb hby d2_42) rfl rfl ?_
    show SF p e below T6 (mkF m 43 #[rv w16] [(.ref w16)]) _
    refine st7 _ ?_
    show SF p e below T7 (mkF m 46 #[rv w16] [(.ref w8), (.ref w16)]) _
    refine Jvm.RoadKit.acmp (g := (mkF m 46 #[rv w16] [(.ref w8), (.ref w16)])) X7 hx rfl rfl rfl (pc0 := 46) (pc' := 49) (same := false) rfl (hb hby d2_46) rfl (decide_eq_false fun q => (Fld.ne F_w16_ordinal F_w8_ordinal (by decide)) (Value.ref.inj q)) (by decide) (by decide) ?_
    show SF p e below T7 (mkF m 49 #[rv w16] []) _
    refine XS.aloadN X7.here hx rfl (hb hby d2_49) rfl rfl ?_
    show SF p e below T7 (mkF m 50 #[rv w16] [(.ref w16)]) _
    refine st8 _ ?_
    show SF p e below T8 (mkF m 53 #[rv w16] [(.ref w9), (.ref w16)]) _
    refine Jvm.RoadKit.acmp (g := (mkF m 53 #[rv w16] [(.ref w9), (.ref w16)])) X8 hx rfl rfl rfl (pc0 := 53) (pc' := 56) (same := false) rfl (hb hby d2_53) rfl (decide_eq_false fun q => (Fld.ne F_w16_ordinal F_w9_ordinal (by decide)) (Value.ref.inj q)) (by decide) (by decide) ?_
    show SF p e below T8 (mkF m 56 #[rv w16] []) _
    refine XS.aloadN X8.here hx rfl (hb hby d2_56) rfl rfl ?_
    show SF p e below T8 (mkF m 57 #[rv w16] [(.ref w16)]) _
    refine st9 _ ?_
    show SF p e below T9 (mkF m 60 #[rv w16] [(.ref w10), (.ref w16)]) _
    refine Jvm.RoadKit.acmp (g := (mkF m 60 #[rv w16] [(.ref w10), (.ref w16)])) X9 hx rfl rfl rfl (pc0 := 60) (pc' := 63) (same := false) rfl (hb hby d2_60) rfl (decide_eq_false fun q => (Fld.ne F_w16_ordinal F_w10_ordinal (by decide)) (Value.ref.inj q)) (by decide) (by decide) ?_
    show SF p e below T9 (mkF m 63 #[rv w16] []) _
    refine XS.aloadN X9.here hx rfl (hb hby d2_63) rfl rfl ?_
    show SF p e below T9 (mkF m 64 #[rv w16] [(.ref w16)]) _
    refine st10 _ ?_
    show SF p e below T10 (mkF m 67 #[rv w16] [(.ref w11), (.ref w16)]) _
    refine Jvm.RoadKit.acmp (g := (mkF m 67 #[rv w16] [(.ref w11), (.ref w16)])) X10 hx rfl rfl rfl (pc0 := 67) (pc' := 74) (same := false) rfl (hb hby d2_67) rfl (decide_eq_false fun q => (Fld.ne F_w16_ordinal F_w11_ordinal (by decide)) (Value.ref.inj q)) (by decide) (by decide) ?_
    show SF p e below T10 (mkF m 74 #[rv w16] []) _
    refine XS.iconst X10.here hx rfl (hb hby d2_74) ?_
    show SF p e below T10 (mkF m 75 #[rv w16] [(.int 0)]) _
    exact retN X10 hx (t := .boolean) Bd.returns (by simp) (hb hby d2_75) hr
  · show Q2_14 Z w16 w2 w3 w4 w5 w6 w7 w8 w9 w10 w11 h0 n0 _ T10.heap _
    rw [e10]
    exact ⟨rfl, N0, rfl⟩
theorem d3_28 : decode prog_251_method_4_code 28 = .ok (.aload_n 0, 1) := by decide +kernel
theorem d3_29 : decode prog_251_method_4_code 29 = .ok (.getstatic 16, 3) := by decide +kernel
theorem d3_32 : decode prog_251_method_4_code 32 = .ok (.if_acmp .eq 24, 3) := by decide +kernel
-- XpathTokens$Kind.namesNext 
def Q3_15 (Z : State) (w16 : Addr) (w1 : Addr) (w13 : Addr) (w14 : Addr) (w12 : Addr) (h0 : Heap) (n0 : Nat) (v : Option Value) (h : Heap) (L : List Loc) : Prop := v = some (.int 1) ∧ Fr n0 L ∧ h = h0
set_option maxRecDepth 65536 in
set_option maxHeartbeats 40000000 in
theorem rm3_15 (l : Launch) (Z : State) (a0 : Array Value) (hw : HW Z a0) (ws : List Jvm.Cond) (w16 : Addr) (w1 : Addr) (w13 : Addr) (w14 : Addr) (w12 : Addr) (h0 : Heap) (n0 : Nat) (Z0 : n0 ≤ h0.size) (S0 : Sta Z Z.heap "com/example/edictum/edictum/io/XpathTokens$Kind" "AT" "Lcom/example/edictum/edictum/io/XpathTokens$Kind;" (.ref w1)) (P2 : Old Z n0 h0) (F_w16_ordinal : Fld Z Z.heap w16 "java/lang/Enum" "ordinal" "I" (.int 4)) (F_w1_ordinal : Fld Z Z.heap w1 "java/lang/Enum" "ordinal" "I" (.int 0)) (S24 : Sta Z Z.heap "com/example/edictum/edictum/io/XpathTokens$Kind" "AXIS_SEPARATOR" "Lcom/example/edictum/edictum/io/XpathTokens$Kind;" (.ref w13)) (F_w13_ordinal : Fld Z Z.heap w13 "java/lang/Enum" "ordinal" "I" (.int 1)) (S26 : Sta Z Z.heap "com/example/edictum/edictum/io/XpathTokens$Kind" "LEFT_PAREN" "Lcom/example/edictum/edictum/io/XpathTokens$Kind;" (.ref w14)) (F_w14_ordinal : Fld Z Z.heap w14 "java/lang/Enum" "ordinal" "I" (.int 2)) (S22 : Sta Z Z.heap "com/example/edictum/edictum/io/XpathTokens$Kind" "LEFT_BRACKET" "Lcom/example/edictum/edictum/io/XpathTokens$Kind;" (.ref w12)) (F_w12_ordinal : Fld Z Z.heap w12 "java/lang/Enum" "ordinal" "I" (.int 3)) (S30 : Sta Z Z.heap "com/example/edictum/edictum/io/XpathTokens$Kind" "COMMA" "Lcom/example/edictum/edictum/io/XpathTokens$Kind;" (.ref w16)) :
    MF l Z (⟨"com/example/edictum/edictum/io/XpathTokens$Kind", "namesNext", "()Z"⟩ : MethodName) (Jvm.Cond.code (⟨"com/example/edictum/edictum/io/XpathTokens$Kind", "namesNext", "()Z"⟩ : MethodName) prog_251_method_4_code 1 (some .boolean)) ws ({ frames := 0, cells := 0, slots := 0, locals := 0 } : Room) #[(.ref w16)] h0 (Q3_15 Z w16 w1 w13 w14 w12 h0 n0) := by
  refine MetFree.of_bodySF (plainFor_of_name pn_1) hisR ?_
  intro p e s m args below meth c s₁ Bd hml0 hP hK
  obtain ⟨rfl, hZ, hh⟩ := hP
  have hx := Bd.exec
  have hby := Bd.bytes
  have hml : c.maxLocals = 1 := hml0
  have hown : s.vm.findClass "com/example/edictum/edictum/io/XpathTokens$Kind" = some m.cls := findClass_of_methodNamed Bd.named
  have hnm := (name_of_methodNamed Bd.named Bd.method).1
  have X0 : Stand p l e ({ frames := 0, cells := 0, slots := 0, locals := 0 } : Room) s m #[(.ref w16)] below meth c s₁ [] 0 0 := Stand.of_body Bd
  have e0 : s₁.heap = h0 := by rw [← hh, Bd.state]; rfl
  have N0 := Fr.nil n0
  have pre0 : ∀ t, SF p e below s₁ (mkF m 0 #[rv w16] []) t → SF p e below s₁ (entryFrame m #[(.ref w16)] 1) t := fun t k => castTop (ef_2 m w16) k
  obtain ⟨T1, X1, e1, st1⟩ := getS2 X0 hx hZ hown (host := "") (Or.inl (tw hw 36 rfl)) Via.refl e0 (S0.ext P2.2) (g := (mkF m 1 #[rv w16] [(.ref w16)])) rfl (hb hby d3_1)
  obtain ⟨T2, X2, e2, st2⟩ := getS2 X1 hx hZ hown (host := "") (Or.inl (tw hw 39 rfl)) Via.refl e1 (S24.ext P2.2) (g := (mkF m 8 #[rv w16] [(.ref w16)])) rfl (hb hby d3_8)
  obtain ⟨T3, X3, e3, st3⟩ := getS2 X2 hx hZ hown (host := "") (Or.inl (tw hw 41 rfl)) Via.refl e2 (S26.ext P2.2) (g := (mkF m 15 #[rv w16] [(.ref w16)])) rfl (hb hby d3_15)
  obtain ⟨T4, X4, e4, st4⟩ := getS2 X3 hx hZ hown (host := "") (Or.inl (tw hw 43 rfl)) Via.refl e3 (S22.ext P2.2) (g := (mkF m 22 #[rv w16] [(.ref w16)])) rfl (hb hby d3_22)
  obtain ⟨T5, X5, e5, st5⟩ := getS2 X4 hx hZ hown (host := "") (Or.inl (tw hw 48 rfl)) Via.refl e4 (S30.ext P2.2) (g := (mkF m 29 #[rv w16] [(.ref w16)])) rfl (hb hby d3_29)
  obtain ⟨fs, hr, hrun, hended, hW, hsame⟩ := X5.leave (v := some (.int 1)) (fun h => by rw [Bd.returns] at h; cases h)
  refine ⟨_, _, pre0 _ ?_, hrun, hended, _, _, rfl, ?_, ⟨_, rfl⟩, hW, hsame.mono (by decide) (by decide)⟩
  · show SF p e below s₁ (mkF m 0 #[rv w16] []) _
    refine XS.aloadN X0.here hx rfl (hb hby d3_0) rfl rfl ?_
    show SF p e below s₁ (mkF m 1 #[rv w16] [(.ref w16)]) _
    refine st1 _ ?_
    show SF p e below T1 (mkF m 4 #[rv w16] [(.ref w1), (.ref w16)]) _
    refine Jvm.RoadKit.acmp (g := (mkF m 4 #[rv w16] [(.ref w1), (.ref w16)])) X1 hx rfl rfl rfl (pc0 := 4) (pc' := 7) (same := false) rfl (hb hby d3_4) rfl (decide_eq_false fun q => (Fld.ne F_w16_ordinal F_w1_ordinal (by decide)) (Value.ref.inj q)) (by decide) (by decide) ?_
    show SF p e below T1 (mkF m 7 #[rv w16] []) _
    refine XS.aloadN X1.here hx rfl (hb hby d3_7) rfl rfl ?_
    show SF p e below T1 (mkF m 8 #[rv w16] [(.ref w16)]) _
    refine st2 _ ?_
    show SF p e below T2 (mkF m 11 #[rv w16] [(.ref w13), (.ref w16)]) _
    refine Jvm.RoadKit.acmp (g := (mkF m 11 #[rv w16] [(.ref w13), (.ref w16)])) X2 hx rfl rfl rfl (pc0 := 11) (pc' := 14) (same := false) rfl (hb hby d3_11) rfl (decide_eq_false fun q => (Fld.ne F_w16_ordinal F_w13_ordinal (by decide)) (Value.ref.inj q)) (by decide) (by decide) ?_
    show SF p e below T2 (mkF m 14 #[rv w16] []) _
    refine XS.aloadN X2.here hx rfl (hb hby d3_14) rfl rfl ?_
    show SF p e below T2 (mkF m 15 #[rv w16] [(.ref w16)]) _
    refine st3 _ ?_
    show SF p e below T3 (mkF m 18 #[rv w16] [(.ref w14), (.ref w16)]) _
    refine Jvm.RoadKit.acmp (g := (mkF m 18 #[rv w16] [(.ref w14), (.ref w16)])) X3 hx rfl rfl rfl (pc0 := 18) (pc' := 21) (same := false) rfl (hb hby d3_18) rfl (decide_eq_false fun q => (Fld.ne F_w16_ordinal F_w14_ordinal (by decide)) (Value.ref.inj q)) (by decide) (by decide) ?_
    show SF p e below T3 (mkF m 21 #[rv w16] []) _
    refine XS.aloadN X3.here hx rfl (hb hby d3_21) rfl rfl ?_
    show SF p e below T3 (mkF m 22 #[rv w16] [(.ref w16)]) _
    refine st4 _ ?_
    show SF p e below T4 (mkF m 25 #[rv w16] [(.ref w12), (.ref w16)]) _
    refine Jvm.RoadKit.acmp (g := (mkF m 25 #[rv w16] [(.ref w12), (.ref w16)])) X4 hx rfl rfl rfl (pc0 := 25) (pc' := 28) (same := false) rfl (hb hby d3_25) rfl (decide_eq_false fun q => (Fld.ne F_w16_ordinal F_w12_ordinal (by decide)) (Value.ref.inj q)) (by decide) (by decide) ?_
    show SF p e below T4 (mkF m 28 #[rv w16] []) _
    refine XS.aloadN X4.here hx rfl (hb hby d3_28) rfl rfl ?_
    show SF p e below T4 (mkF m 29 #[rv w16] [(.ref w16)]) _
    refine st5 _ ?_
    show SF p e below T5 (mkF m 32 #[rv w16] [(.ref w16), (.ref w16)]) _
    refine Jvm.RoadKit.acmp (g := (mkF m 32 #[rv w16] [(.ref w16), (.ref w16)])) X5 hx rfl rfl rfl (pc0 := 32) (pc' := 56) (same := true) rfl (hb hby d3_32) rfl (decide_eq_true rfl) (by decide) (by decide) ?_
    show SF p e below T5 (mkF m 56 #[rv w16] []) _
    refine XS.iconst X5.here hx rfl (hb hby d3_56) ?_
    show SF p e below T5 (mkF m 57 #[rv w16] [(.int 1)]) _
    refine XS.goto X5.here hx rfl (pc0 := 57) (pc' := 61) rfl (hb hby d3_57) (by decide) (by decide) ?_
    show SF p e below T5 (mkF m 61 #[rv w16] [(.int 1)]) _
    exact retN X5 hx (t := .boolean) Bd.returns (by simp) (hb hby d3_61) hr
  · show Q3_15 Z w16 w1 w13 w14 w12 h0 n0 _ T5.heap _
    rw [e5]
    exact ⟨rfl, N0, rfl⟩
theorem d1_44 : decode method_2_code 44 = .ok (.iload_n 0, 1) := by decide +kernel
theorem d1_45 : decode method_2_code 45 = .ok (.iconst 5, 1) := by decide +kernel
theorem d1_46 : decode method_2_code 46 = .ok (.if_icmp .ne 7, 3) := by decide +kernel
theorem d1_49 : decode method_2_code 49 = .ok (.getstatic 25, 3) := by decide +kernel
theorem d1_52 : decode method_2_code 52 = .ok (.areturn, 1) := by decide +kernel
-- XpathTokensNamesNextPinLaw.kindOf 
def Q1_16 (Z : State) (w2 : Addr) (h0 : Heap) (n0 : Nat) (v : Option Value) (h : Heap) (L : List Loc) : Prop := v = some (.ref w2) ∧ Fr n0 L ∧ h = h0
set_option maxRecDepth 65536 in
set_option maxHeartbeats 40000000 in
theorem rm1_16 (l : Launch) (Z : State) (a0 : Array Value) (hw : HW Z a0) (ws : List Jvm.Cond) (w2 : Addr) (h0 : Heap) (n0 : Nat) (Z0 : n0 ≤ h0.size) (S2 : Sta Z Z.heap "com/example/edictum/edictum/io/XpathTokens$Kind" "RIGHT_PAREN" "Lcom/example/edictum/edictum/io/XpathTokens$Kind;" (.ref w2)) (P2 : Old Z n0 h0) :
    MF l Z (⟨"com/example/edictum/edictum/io/XpathTokensNamesNextPinLaw", "kindOf", "(I)Lcom/example/edictum/edictum/io/XpathTokens$Kind;"⟩ : MethodName) (Jvm.Cond.code (⟨"com/example/edictum/edictum/io/XpathTokensNamesNextPinLaw", "kindOf", "(I)Lcom/example/edictum/edictum/io/XpathTokens$Kind;"⟩ : MethodName) method_2_code 1 (some (.object "com/example/edictum/edictum/io/XpathTokens$Kind"))) ws ({ frames := 0, cells := 0, slots := 0, locals := 0 } : Room) #[(.int 5)] h0 (Q1_16 Z w2 h0 n0) := by
  refine MetFree.of_bodySF (plainFor_of_name pn_0) hisR ?_
  intro p e s m args below meth c s₁ Bd hml0 hP hK
  obtain ⟨rfl, hZ, hh⟩ := hP
  have hx := Bd.exec
  have hby := Bd.bytes
  have hml : c.maxLocals = 1 := hml0
  have hown : s.vm.findClass "com/example/edictum/edictum/io/XpathTokensNamesNextPinLaw" = some m.cls := findClass_of_methodNamed Bd.named
  have hnm := (name_of_methodNamed Bd.named Bd.method).1
  have X0 : Stand p l e ({ frames := 0, cells := 0, slots := 0, locals := 0 } : Room) s m #[(.int 5)] below meth c s₁ [] 0 0 := Stand.of_body Bd
  have e0 : s₁.heap = h0 := by rw [← hh, Bd.state]; rfl
  have N0 := Fr.nil n0
  have pre0 : ∀ t, SF p e below s₁ (mkF m 0 #[iv 5] []) t → SF p e below s₁ (entryFrame m #[(.int 5)] 1) t := fun t k => castTop (ef_0 m (5 : Int32)) k
  obtain ⟨T1, X1, e1, st1⟩ := getS2 X0 hx hZ hown (host := "") (Or.inl (tw hw 11 rfl)) Via.refl e0 (S2.ext P2.2) (g := (mkF m 49 #[iv 5] [])) rfl (hb hby d1_49)
  obtain ⟨fs, hr, hrun, hended, hW, hsame⟩ := X1.leave (v := some (.ref w2)) (fun h => by rw [Bd.returns] at h; cases h)
  refine ⟨_, _, pre0 _ ?_, hrun, hended, _, _, rfl, ?_, ⟨_, rfl⟩, hW, hsame.mono (by decide) (by decide)⟩
  · show SF p e below s₁ (mkF m 0 #[iv 5] []) _
    refine XS.iloadN X0.here hx rfl (hb hby d1_0) rfl ?_
    show SF p e below s₁ (mkF m 1 #[iv 5] [(.int 5)]) _
    refine XS.ifYes X0.here hx rfl (pc0 := 1) (pc' := 8) rfl (hb hby d1_1) rfl ((if0 _ _).trans (feq (by decide : ¬ ((5 : Int32) = (0 : Int32)))).2) (by decide) (by decide) ?_
    show SF p e below s₁ (mkF m 8 #[iv 5] []) _
    refine XS.iloadN X0.here hx rfl (hb hby d1_8) rfl ?_
    show SF p e below s₁ (mkF m 9 #[iv 5] [(.int 5)]) _
    refine XS.iconst X0.here hx rfl (hb hby d1_9) ?_
    show SF p e below s₁ (mkF m 10 #[iv 5] [(.int 1), (.int 5)]) _
    refine XS.icmpYes X0.here hx rfl (pc0 := 10) (pc' := 17) rfl (hb hby d1_10) rfl (feq (by decide : ¬ ((5 : Int32) = (1 : Int32)))).2 (by decide) (by decide) ?_
    show SF p e below s₁ (mkF m 17 #[iv 5] []) _
    refine XS.iloadN X0.here hx rfl (hb hby d1_17) rfl ?_
    show SF p e below s₁ (mkF m 18 #[iv 5] [(.int 5)]) _
    refine XS.iconst X0.here hx rfl (hb hby d1_18) ?_
    show SF p e below s₁ (mkF m 19 #[iv 5] [(.int 2), (.int 5)]) _
    refine XS.icmpYes X0.here hx rfl (pc0 := 19) (pc' := 26) rfl (hb hby d1_19) rfl (feq (by decide : ¬ ((5 : Int32) = (2 : Int32)))).2 (by decide) (by decide) ?_
    show SF p e below s₁ (mkF m 26 #[iv 5] []) _
    refine XS.iloadN X0.here hx rfl (hb hby d1_26) rfl ?_
    show SF p e below s₁ (mkF m 27 #[iv 5] [(.int 5)]) _
    refine XS.iconst X0.here hx rfl (hb hby d1_27) ?_
    show SF p e below s₁ (mkF m 28 #[iv 5] [(.int 3), (.int 5)]) _
    refine XS.icmpYes X0.here hx rfl (pc0 := 28) (pc' := 35) rfl (hb hby d1_28) rfl (feq (by decide : ¬ ((5 : Int32) = (3 : Int32)))).2 (by decide) (by decide) ?_
    show SF p e below s₁ (mkF m 35 #[iv 5] []) _
    refine XS.iloadN X0.here hx rfl (hb hby d1_35) rfl ?_
    show SF p e below s₁ (mkF m 36 #[iv 5] [(.int 5)]) _
    refine XS.iconst X0.here hx rfl (hb hby d1_36) ?_
    show SF p e below s₁ (mkF m 37 #[iv 5] [(.int 4), (.int 5)]) _
    refine XS.icmpYes X0.here hx rfl (pc0 := 37) (pc' := 44) rfl (hb hby d1_37) rfl (feq (by decide : ¬ ((5 : Int32) = (4 : Int32)))).2 (by decide) (by decide) ?_
    show SF p e below s₁ (mkF m 44 #[iv 5] []) _
    refine XS.iloadN X0.here hx rfl (hb hby d1_44) rfl ?_
    show SF p e below s₁ (mkF m 45 #[iv 5] [(.int 5)]) _
    refine XS.iconst X0.here hx rfl (hb hby d1_45) ?_
    show SF p e below s₁ (mkF m 46 #[iv 5] [(.int 5), (.int 5)]) _
    refine XS.icmpNo X0.here hx rfl (hb hby d1_46) rfl (teq (by decide : (5 : Int32) = (5 : Int32))).2 ?_
    show SF p e below s₁ (mkF m 49 #[iv 5] []) _
    refine st1 _ ?_
    show SF p e below T1 (mkF m 52 #[iv 5] [(.ref w2)]) _
    exact own_retR X1 hx Bd.returns rfl rfl (hb hby d1_52) hr
  · show Q1_16 Z w2 h0 n0 _ T1.heap _
    rw [e1]
    exact ⟨rfl, N0, rfl⟩
theorem d2_70 : decode method_3_code 70 = .ok (.iconst 1, 1) := by decide +kernel
theorem d2_71 : decode method_3_code 71 = .ok (.goto 4, 3) := by decide +kernel
-- XpathTokensNamesNextPinLaw.endsOperand 
def Q2_17 (Z : State) (w2 : Addr) (h0 : Heap) (n0 : Nat) (v : Option Value) (h : Heap) (L : List Loc) : Prop := v = some (.int 1) ∧ Fr n0 L ∧ h = h0
set_option maxRecDepth 65536 in
set_option maxHeartbeats 40000000 in
theorem rm2_17 (l : Launch) (Z : State) (a0 : Array Value) (hw : HW Z a0) (ws : List Jvm.Cond) (w2 : Addr) (h0 : Heap) (n0 : Nat) (Z0 : n0 ≤ h0.size) (S2 : Sta Z Z.heap "com/example/edictum/edictum/io/XpathTokens$Kind" "RIGHT_PAREN" "Lcom/example/edictum/edictum/io/XpathTokens$Kind;" (.ref w2)) (P2 : Old Z n0 h0) :
    MF l Z (⟨"com/example/edictum/edictum/io/XpathTokensNamesNextPinLaw", "endsOperand", "(Lcom/example/edictum/edictum/io/XpathTokens$Kind;)Z"⟩ : MethodName) (Jvm.Cond.code (⟨"com/example/edictum/edictum/io/XpathTokensNamesNextPinLaw", "endsOperand", "(Lcom/example/edictum/edictum/io/XpathTokens$Kind;)Z"⟩ : MethodName) method_3_code 1 (some .boolean)) ws ({ frames := 0, cells := 0, slots := 0, locals := 0 } : Room) #[(.ref w2)] h0 (Q2_17 Z w2 h0 n0) := by
  refine MetFree.of_bodySF (plainFor_of_name pn_0) hisR ?_
  intro p e s m args below meth c s₁ Bd hml0 hP hK
  obtain ⟨rfl, hZ, hh⟩ := hP
  have hx := Bd.exec
  have hby := Bd.bytes
  have hml : c.maxLocals = 1 := hml0
  have hown : s.vm.findClass "com/example/edictum/edictum/io/XpathTokensNamesNextPinLaw" = some m.cls := findClass_of_methodNamed Bd.named
  have hnm := (name_of_methodNamed Bd.named Bd.method).1
  have X0 : Stand p l e ({ frames := 0, cells := 0, slots := 0, locals := 0 } : Room) s m #[(.ref w2)] below meth c s₁ [] 0 0 := Stand.of_body Bd
  have e0 : s₁.heap = h0 := by rw [← hh, Bd.state]; rfl
  have N0 := Fr.nil n0
  have pre0 : ∀ t, SF p e below s₁ (mkF m 0 #[rv w2] []) t → SF p e below s₁ (entryFrame m #[(.ref w2)] 1) t := fun t k => castTop (ef_1 m w2) k
  obtain ⟨T1, X1, e1, st1⟩ := getS2 X0 hx hZ hown (host := "") (Or.inl (tw hw 11 rfl)) Via.refl e0 (S2.ext P2.2) (g := (mkF m 1 #[rv w2] [(.ref w2)])) rfl (hb hby d2_1)
  obtain ⟨fs, hr, hrun, hended, hW, hsame⟩ := X1.leave (v := some (.int 1)) (fun h => by rw [Bd.returns] at h; cases h)
  refine ⟨_, _, pre0 _ ?_, hrun, hended, _, _, rfl, ?_, ⟨_, rfl⟩, hW, hsame.mono (by decide) (by decide)⟩
  · show SF p e below s₁ (mkF m 0 #[rv w2] []) _
    refine XS.aloadN X0.here hx rfl (hb hby d2_0) rfl rfl ?_
    show SF p e below s₁ (mkF m 1 #[rv w2] [(.ref w2)]) _
    refine st1 _ ?_
    show SF p e below T1 (mkF m 4 #[rv w2] [(.ref w2), (.ref w2)]) _
    refine Jvm.RoadKit.acmp (g := (mkF m 4 #[rv w2] [(.ref w2), (.ref w2)])) X1 hx rfl rfl rfl (pc0 := 4) (pc' := 70) (same := true) rfl (hb hby d2_4) rfl (decide_eq_true rfl) (by decide) (by decide) ?_
    show SF p e below T1 (mkF m 70 #[rv w2] []) _
    refine XS.iconst X1.here hx rfl (hb hby d2_70) ?_
    show SF p e below T1 (mkF m 71 #[rv w2] [(.int 1)]) _
    refine XS.goto X1.here hx rfl (pc0 := 71) (pc' := 75) rfl (hb hby d2_71) (by decide) (by decide) ?_
    show SF p e below T1 (mkF m 75 #[rv w2] [(.int 1)]) _
    exact retN X1 hx (t := .boolean) Bd.returns (by simp) (hb hby d2_75) hr
  · show Q2_17 Z w2 h0 n0 _ T1.heap _
    rw [e1]
    exact ⟨rfl, N0, rfl⟩
theorem d3_35 : decode prog_251_method_4_code 35 = .ok (.aload_n 0, 1) := by decide +kernel
theorem d3_36 : decode prog_251_method_4_code 36 = .ok (.getstatic 25, 3) := by decide +kernel
theorem d3_39 : decode prog_251_method_4_code 39 = .ok (.if_acmp .eq 17, 3) := by decide +kernel
theorem d3_42 : decode prog_251_method_4_code 42 = .ok (.aload_n 0, 1) := by decide +kernel
theorem d3_43 : decode prog_251_method_4_code 43 = .ok (.getstatic 28, 3) := by decide +kernel
theorem d3_46 : decode prog_251_method_4_code 46 = .ok (.if_acmp .eq 10, 3) := by decide +kernel
theorem d3_49 : decode prog_251_method_4_code 49 = .ok (.aload_n 0, 1) := by decide +kernel
theorem d3_50 : decode prog_251_method_4_code 50 = .ok (.getstatic 31, 3) := by decide +kernel
theorem d3_53 : decode prog_251_method_4_code 53 = .ok (.if_acmp .ne 7, 3) := by decide +kernel
theorem d3_60 : decode prog_251_method_4_code 60 = .ok (.iconst 0, 1) := by decide +kernel
-- XpathTokens$Kind.namesNext 
def Q3_18 (Z : State) (w2 : Addr) (w1 : Addr) (w13 : Addr) (w14 : Addr) (w12 : Addr) (w16 : Addr) (w15 : Addr) (w17 : Addr) (w18 : Addr) (h0 : Heap) (n0 : Nat) (v : Option Value) (h : Heap) (L : List Loc) : Prop := v = some (.int 0) ∧ Fr n0 L ∧ h = h0
set_option maxRecDepth 65536 in
set_option maxHeartbeats 40000000 in
theorem rm3_18 (l : Launch) (Z : State) (a0 : Array Value) (hw : HW Z a0) (ws : List Jvm.Cond) (w2 : Addr) (w1 : Addr) (w13 : Addr) (w14 : Addr) (w12 : Addr) (w16 : Addr) (w15 : Addr) (w17 : Addr) (w18 : Addr) (h0 : Heap) (n0 : Nat) (Z0 : n0 ≤ h0.size) (S0 : Sta Z Z.heap "com/example/edictum/edictum/io/XpathTokens$Kind" "AT" "Lcom/example/edictum/edictum/io/XpathTokens$Kind;" (.ref w1)) (P2 : Old Z n0 h0) (F_w2_ordinal : Fld Z Z.heap w2 "java/lang/Enum" "ordinal" "I" (.int 5)) (F_w1_ordinal : Fld Z Z.heap w1 "java/lang/Enum" "ordinal" "I" (.int 0)) (S24 : Sta Z Z.heap "com/example/edictum/edictum/io/XpathTokens$Kind" "AXIS_SEPARATOR" "Lcom/example/edictum/edictum/io/XpathTokens$Kind;" (.ref w13)) (F_w13_ordinal : Fld Z Z.heap w13 "java/lang/Enum" "ordinal" "I" (.int 1)) (S26 : Sta Z Z.heap "com/example/edictum/edictum/io/XpathTokens$Kind" "LEFT_PAREN" "Lcom/example/edictum/edictum/io/XpathTokens$Kind;" (.ref w14)) (F_w14_ordinal : Fld Z Z.heap w14 "java/lang/Enum" "ordinal" "I" (.int 2)) (S22 : Sta Z Z.heap "com/example/edictum/edictum/io/XpathTokens$Kind" "LEFT_BRACKET" "Lcom/example/edictum/edictum/io/XpathTokens$Kind;" (.ref w12)) (F_w12_ordinal : Fld Z Z.heap w12 "java/lang/Enum" "ordinal" "I" (.int 3)) (S30 : Sta Z Z.heap "com/example/edictum/edictum/io/XpathTokens$Kind" "COMMA" "Lcom/example/edictum/edictum/io/XpathTokens$Kind;" (.ref w16)) (F_w16_ordinal : Fld Z Z.heap w16 "java/lang/Enum" "ordinal" "I" (.int 4)) (S28 : Sta Z Z.heap "com/example/edictum/edictum/io/XpathTokens$Kind" "SLASH" "Lcom/example/edictum/edictum/io/XpathTokens$Kind;" (.ref w15)) (F_w15_ordinal : Fld Z Z.heap w15 "java/lang/Enum" "ordinal" "I" (.int 7)) (S32 : Sta Z Z.heap "com/example/edictum/edictum/io/XpathTokens$Kind" "DOUBLE_SLASH" "Lcom/example/edictum/edictum/io/XpathTokens$Kind;" (.ref w17)) (F_w17_ordinal : Fld Z Z.heap w17 "java/lang/Enum" "ordinal" "I" (.int 8)) (S34 : Sta Z Z.heap "com/example/edictum/edictum/io/XpathTokens$Kind" "OPERATOR" "Lcom/example/edictum/edictum/io/XpathTokens$Kind;" (.ref w18)) (F_w18_ordinal : Fld Z Z.heap w18 "java/lang/Enum" "ordinal" "I" (.int 9)) :
    MF l Z (⟨"com/example/edictum/edictum/io/XpathTokens$Kind", "namesNext", "()Z"⟩ : MethodName) (Jvm.Cond.code (⟨"com/example/edictum/edictum/io/XpathTokens$Kind", "namesNext", "()Z"⟩ : MethodName) prog_251_method_4_code 1 (some .boolean)) ws ({ frames := 0, cells := 0, slots := 0, locals := 0 } : Room) #[(.ref w2)] h0 (Q3_18 Z w2 w1 w13 w14 w12 w16 w15 w17 w18 h0 n0) := by
  refine MetFree.of_bodySF (plainFor_of_name pn_1) hisR ?_
  intro p e s m args below meth c s₁ Bd hml0 hP hK
  obtain ⟨rfl, hZ, hh⟩ := hP
  have hx := Bd.exec
  have hby := Bd.bytes
  have hml : c.maxLocals = 1 := hml0
  have hown : s.vm.findClass "com/example/edictum/edictum/io/XpathTokens$Kind" = some m.cls := findClass_of_methodNamed Bd.named
  have hnm := (name_of_methodNamed Bd.named Bd.method).1
  have X0 : Stand p l e ({ frames := 0, cells := 0, slots := 0, locals := 0 } : Room) s m #[(.ref w2)] below meth c s₁ [] 0 0 := Stand.of_body Bd
  have e0 : s₁.heap = h0 := by rw [← hh, Bd.state]; rfl
  have N0 := Fr.nil n0
  have pre0 : ∀ t, SF p e below s₁ (mkF m 0 #[rv w2] []) t → SF p e below s₁ (entryFrame m #[(.ref w2)] 1) t := fun t k => castTop (ef_2 m w2) k
  obtain ⟨T1, X1, e1, st1⟩ := getS2 X0 hx hZ hown (host := "") (Or.inl (tw hw 36 rfl)) Via.refl e0 (S0.ext P2.2) (g := (mkF m 1 #[rv w2] [(.ref w2)])) rfl (hb hby d3_1)
  obtain ⟨T2, X2, e2, st2⟩ := getS2 X1 hx hZ hown (host := "") (Or.inl (tw hw 39 rfl)) Via.refl e1 (S24.ext P2.2) (g := (mkF m 8 #[rv w2] [(.ref w2)])) rfl (hb hby d3_8)
  obtain ⟨T3, X3, e3, st3⟩ := getS2 X2 hx hZ hown (host := "") (Or.inl (tw hw 41 rfl)) Via.refl e2 (S26.ext P2.2) (g := (mkF m 15 #[rv w2] [(.ref w2)])) rfl (hb hby d3_15)
  obtain ⟨T4, X4, e4, st4⟩ := getS2 X3 hx hZ hown (host := "") (Or.inl (tw hw 43 rfl)) Via.refl e3 (S22.ext P2.2) (g := (mkF m 22 #[rv w2] [(.ref w2)])) rfl (hb hby d3_22)
  obtain ⟨T5, X5, e5, st5⟩ := getS2 X4 hx hZ hown (host := "") (Or.inl (tw hw 48 rfl)) Via.refl e4 (S30.ext P2.2) (g := (mkF m 29 #[rv w2] [(.ref w2)])) rfl (hb hby d3_29)
  obtain ⟨T6, X6, e6, st6⟩ := getS2 X5 hx hZ hown (host := "") (Or.inl (tw hw 50 rfl)) Via.refl e5 (S28.ext P2.2) (g := (mkF m 36 #[rv w2] [(.ref w2)])) rfl (hb hby d3_36)
  obtain ⟨T7, X7, e7, st7⟩ := getS2 X6 hx hZ hown (host := "") (Or.inl (tw hw 51 rfl)) Via.refl e6 (S32.ext P2.2) (g := (mkF m 43 #[rv w2] [(.ref w2)])) rfl (hb hby d3_43)
  obtain ⟨T8, X8, e8, st8⟩ := getS2 X7 hx hZ hown (host := "") (Or.inl (tw hw 53 rfl)) Via.refl e7 (S34.ext P2.2) (g := (mkF m 50 #[rv w2] [(.ref w2)])) rfl (hb hby d3_50)
  obtain ⟨fs, hr, hrun, hended, hW, hsame⟩ := X8.leave (v := some (.int 0)) (fun h => by rw [Bd.returns] at h; cases h)
  refine ⟨_, _, pre0 _ ?_, hrun, hended, _, _, rfl, ?_, ⟨_, rfl⟩, hW, hsame.mono (by decide) (by decide)⟩
  · show SF p e below s₁ (mkF m 0 #[rv w2] []) _
    refine XS.aloadN X0.here hx rfl (hb hby d3_0) rfl rfl ?_
    show SF p e below s₁ (mkF m 1 #[rv w2] [(.ref w2)]) _
    refine st1 _ ?_
    show SF p e below T1 (mkF m 4 #[rv w2] [(.ref w1), (.ref w2)]) _
    refine Jvm.RoadKit.acmp (g := (mkF m 4 #[rv w2] [(.ref w1), (.ref w2)])) X1 hx rfl rfl rfl (pc0 := 4) (pc' := 7) (same := false) rfl (hb hby d3_4) rfl (decide_eq_false fun q => (Fld.ne F_w2_ordinal F_w1_ordinal (by decide)) (Value.ref.inj q)) (by decide) (by decide) ?_
    show SF p e below T1 (mkF m 7 #[rv w2] []) _
    refine XS.aloadN X1.here hx rfl (hb hby d3_7) rfl rfl ?_
    show SF p e below T1 (mkF m 8 #[rv w2] [(.ref w2)]) _
    refine st2 _ ?_
    show SF p e below T2 (mkF m 11 #[rv w2] [(.ref w13), (.ref w2)]) _
    refine Jvm.RoadKit.acmp (g := (mkF m 11 #[rv w2] [(.ref w13), (.ref w2)])) X2 hx rfl rfl rfl (pc0 := 11) (pc' := 14) (same := false) rfl (hb hby d3_11) rfl (decide_eq_false fun q => (Fld.ne F_w2_ordinal F_w13_ordinal (by decide)) (Value.ref.inj q)) (by decide) (by decide) ?_
    show SF p e below T2 (mkF m 14 #[rv w2] []) _
    refine XS.aloadN X2.here hx rfl (hb hby d3_14) rfl rfl ?_
    show SF p e below T2 (mkF m 15 #[rv w2] [(.ref w2)]) _
    refine st3 _ ?_
    show SF p e below T3 (mkF m 18 #[rv w2] [(.ref w14), (.ref w2)]) _
    refine Jvm.RoadKit.acmp (g := (mkF m 18 #[rv w2] [(.ref w14), (.ref w2)])) X3 hx rfl rfl rfl (pc0 := 18) (pc' := 21) (same := false) rfl (hb hby d3_18) rfl (decide_eq_false fun q => (Fld.ne F_w2_ordinal F_w14_ordinal (by decide)) (Value.ref.inj q)) (by decide) (by decide) ?_
    show SF p e below T3 (mkF m 21 #[rv w2] []) _
    refine XS.aloadN X3.here hx rfl (hb hby d3_21) rfl rfl ?_
    show SF p e below T3 (mkF m 22 #[rv w2] [(.ref w2)]) _
    refine st4 _ ?_
    show SF p e below T4 (mkF m 25 #[rv w2] [(.ref w12), (.ref w2)]) _
    refine Jvm.RoadKit.acmp (g := (mkF m 25 #[rv w2] [(.ref w12), (.ref w2)])) X4 hx rfl rfl rfl (pc0 := 25) (pc' := 28) (same := false) rfl (hb hby d3_25) rfl (decide_eq_false fun q => (Fld.ne F_w2_ordinal F_w12_ordinal (by decide)) (Value.ref.inj q)) (by decide) (by decide) ?_
    show SF p e below T4 (mkF m 28 #[rv w2] []) _
    refine XS.aloadN X4.here hx rfl (hb hby d3_28) rfl rfl ?_
    show SF p e below T4 (mkF m 29 #[rv w2] [(.ref w2)]) _
    refine st5 _ ?_
    show SF p e below T5 (mkF m 32 #[rv w2] [(.ref w16), (.ref w2)]) _
    refine Jvm.RoadKit.acmp (g := (mkF m 32 #[rv w2] [(.ref w16), (.ref w2)])) X5 hx rfl rfl rfl (pc0 := 32) (pc' := 35) (same := false) rfl (hb hby d3_32) rfl (decide_eq_false fun q => (Fld.ne F_w2_ordinal F_w16_ordinal (by decide)) (Value.ref.inj q)) (by decide) (by decide) ?_
    show SF p e below T5 (mkF m 35 #[rv w2] []) _
    refine XS.aloadN X5.here hx rfl (hb hby d3_35) rfl rfl ?_
    show SF p e below T5 (mkF m 36 #[rv w2] [(.ref w2)]) _
    refine st6 _ ?_
    show SF p e below T6 (mkF m 39 #[rv w2] [(.ref w15), (.ref w2)]) _
    refine Jvm.RoadKit.acmp (g := (mkF m 39 #[rv w2] [(.ref w15), (.ref w2)])) X6 hx rfl rfl rfl (pc0 := 39) (pc' := 42) (same := false) rfl (hb hby d3_39) rfl (decide_eq_false fun q => (Fld.ne F_w2_ordinal F_w15_ordinal (by decide)) (Value.ref.inj q)) (by decide) (by decide) ?_
    show SF p e below T6 (mkF m 42 #[rv w2] []) _
    refine XS.aloadN X6.here hx rfl (hb hby d3_42) rfl rfl ?_
    show SF p e below T6 (mkF m 43 #[rv w2] [(.ref w2)]) _
    refine st7 _ ?_
    show SF p e below T7 (mkF m 46 #[rv w2] [(.ref w17), (.ref w2)]) _
    refine Jvm.RoadKit.acmp (g := (mkF m 46 #[rv w2] [(.ref w17), (.ref w2)])) X7 hx rfl rfl rfl (pc0 := 46) (pc' := 49) (same := false) rfl (hb hby d3_46) rfl (decide_eq_false fun q => (Fld.ne F_w2_ordinal F_w17_ordinal (by decide)) (Value.ref.inj q)) (by decide) (by decide) ?_
    show SF p e below T7 (mkF m 49 #[rv w2] []) _
    refine XS.aloadN X7.here hx rfl (hb hby d3_49) rfl rfl ?_
    show SF p e below T7 (mkF m 50 #[rv w2] [(.ref w2)]) _
    refine st8 _ ?_
    show SF p e below T8 (mkF m 53 #[rv w2] [(.ref w18), (.ref w2)]) _
    refine Jvm.RoadKit.acmp (g := (mkF m 53 #[rv w2] [(.ref w18), (.ref w2)])) X8 hx rfl rfl rfl (pc0 := 53) (pc' := 60) (same := false) rfl (hb hby d3_53) rfl (decide_eq_false fun q => (Fld.ne F_w2_ordinal F_w18_ordinal (by decide)) (Value.ref.inj q)) (by decide) (by decide) ?_
    show SF p e below T8 (mkF m 60 #[rv w2] []) _
    refine XS.iconst X8.here hx rfl (hb hby d3_60) ?_
    show SF p e below T8 (mkF m 61 #[rv w2] [(.int 0)]) _
    exact retN X8 hx (t := .boolean) Bd.returns (by simp) (hb hby d3_61) hr
  · show Q3_18 Z w2 w1 w13 w14 w12 w16 w15 w17 w18 h0 n0 _ T8.heap _
    rw [e8]
    exact ⟨rfl, N0, rfl⟩
theorem d1_53 : decode method_2_code 53 = .ok (.iload_n 0, 1) := by decide +kernel
theorem d1_54 : decode method_2_code 54 = .ok (.bipush 6, 2) := by decide +kernel
theorem d1_56 : decode method_2_code 56 = .ok (.if_icmp .ne 7, 3) := by decide +kernel
theorem d1_59 : decode method_2_code 59 = .ok (.getstatic 28, 3) := by decide +kernel
theorem d1_62 : decode method_2_code 62 = .ok (.areturn, 1) := by decide +kernel
-- XpathTokensNamesNextPinLaw.kindOf 
def Q1_19 (Z : State) (w3 : Addr) (h0 : Heap) (n0 : Nat) (v : Option Value) (h : Heap) (L : List Loc) : Prop := v = some (.ref w3) ∧ Fr n0 L ∧ h = h0
set_option maxRecDepth 65536 in
set_option maxHeartbeats 40000000 in
theorem rm1_19 (l : Launch) (Z : State) (a0 : Array Value) (hw : HW Z a0) (ws : List Jvm.Cond) (w3 : Addr) (h0 : Heap) (n0 : Nat) (Z0 : n0 ≤ h0.size) (S4 : Sta Z Z.heap "com/example/edictum/edictum/io/XpathTokens$Kind" "RIGHT_BRACKET" "Lcom/example/edictum/edictum/io/XpathTokens$Kind;" (.ref w3)) (P2 : Old Z n0 h0) :
    MF l Z (⟨"com/example/edictum/edictum/io/XpathTokensNamesNextPinLaw", "kindOf", "(I)Lcom/example/edictum/edictum/io/XpathTokens$Kind;"⟩ : MethodName) (Jvm.Cond.code (⟨"com/example/edictum/edictum/io/XpathTokensNamesNextPinLaw", "kindOf", "(I)Lcom/example/edictum/edictum/io/XpathTokens$Kind;"⟩ : MethodName) method_2_code 1 (some (.object "com/example/edictum/edictum/io/XpathTokens$Kind"))) ws ({ frames := 0, cells := 0, slots := 0, locals := 0 } : Room) #[(.int 6)] h0 (Q1_19 Z w3 h0 n0) := by
  refine MetFree.of_bodySF (plainFor_of_name pn_0) hisR ?_
  intro p e s m args below meth c s₁ Bd hml0 hP hK
  obtain ⟨rfl, hZ, hh⟩ := hP
  have hx := Bd.exec
  have hby := Bd.bytes
  have hml : c.maxLocals = 1 := hml0
  have hown : s.vm.findClass "com/example/edictum/edictum/io/XpathTokensNamesNextPinLaw" = some m.cls := findClass_of_methodNamed Bd.named
  have hnm := (name_of_methodNamed Bd.named Bd.method).1
  have X0 : Stand p l e ({ frames := 0, cells := 0, slots := 0, locals := 0 } : Room) s m #[(.int 6)] below meth c s₁ [] 0 0 := Stand.of_body Bd
  have e0 : s₁.heap = h0 := by rw [← hh, Bd.state]; rfl
  have N0 := Fr.nil n0
  have pre0 : ∀ t, SF p e below s₁ (mkF m 0 #[iv 6] []) t → SF p e below s₁ (entryFrame m #[(.int 6)] 1) t := fun t k => castTop (ef_0 m (6 : Int32)) k
  obtain ⟨T1, X1, e1, st1⟩ := getS2 X0 hx hZ hown (host := "") (Or.inl (tw hw 13 rfl)) Via.refl e0 (S4.ext P2.2) (g := (mkF m 59 #[iv 6] [])) rfl (hb hby d1_59)
  obtain ⟨fs, hr, hrun, hended, hW, hsame⟩ := X1.leave (v := some (.ref w3)) (fun h => by rw [Bd.returns] at h; cases h)
  refine ⟨_, _, pre0 _ ?_, hrun, hended, _, _, rfl, ?_, ⟨_, rfl⟩, hW, hsame.mono (by decide) (by decide)⟩
  · show SF p e below s₁ (mkF m 0 #[iv 6] []) _
    refine XS.iloadN X0.here hx rfl (hb hby d1_0) rfl ?_
    show SF p e below s₁ (mkF m 1 #[iv 6] [(.int 6)]) _
    refine XS.ifYes X0.here hx rfl (pc0 := 1) (pc' := 8) rfl (hb hby d1_1) rfl ((if0 _ _).trans (feq (by decide : ¬ ((6 : Int32) = (0 : Int32)))).2) (by decide) (by decide) ?_
    show SF p e below s₁ (mkF m 8 #[iv 6] []) _
    refine XS.iloadN X0.here hx rfl (hb hby d1_8) rfl ?_
    show SF p e below s₁ (mkF m 9 #[iv 6] [(.int 6)]) _
    refine XS.iconst X0.here hx rfl (hb hby d1_9) ?_
    show SF p e below s₁ (mkF m 10 #[iv 6] [(.int 1), (.int 6)]) _
    refine XS.icmpYes X0.here hx rfl (pc0 := 10) (pc' := 17) rfl (hb hby d1_10) rfl (feq (by decide : ¬ ((6 : Int32) = (1 : Int32)))).2 (by decide) (by decide) ?_
    show SF p e below s₁ (mkF m 17 #[iv 6] []) _
    refine XS.iloadN X0.here hx rfl (hb hby d1_17) rfl ?_
    show SF p e below s₁ (mkF m 18 #[iv 6] [(.int 6)]) _
    refine XS.iconst X0.here hx rfl (hb hby d1_18) ?_
    show SF p e below s₁ (mkF m 19 #[iv 6] [(.int 2), (.int 6)]) _
    refine XS.icmpYes X0.here hx rfl (pc0 := 19) (pc' := 26) rfl (hb hby d1_19) rfl (feq (by decide : ¬ ((6 : Int32) = (2 : Int32)))).2 (by decide) (by decide) ?_
    show SF p e below s₁ (mkF m 26 #[iv 6] []) _
    refine XS.iloadN X0.here hx rfl (hb hby d1_26) rfl ?_
    show SF p e below s₁ (mkF m 27 #[iv 6] [(.int 6)]) _
    refine XS.iconst X0.here hx rfl (hb hby d1_27) ?_
    show SF p e below s₁ (mkF m 28 #[iv 6] [(.int 3), (.int 6)]) _
    refine XS.icmpYes X0.here hx rfl (pc0 := 28) (pc' := 35) rfl (hb hby d1_28) rfl (feq (by decide : ¬ ((6 : Int32) = (3 : Int32)))).2 (by decide) (by decide) ?_
    show SF p e below s₁ (mkF m 35 #[iv 6] []) _
    refine XS.iloadN X0.here hx rfl (hb hby d1_35) rfl ?_
    show SF p e below s₁ (mkF m 36 #[iv 6] [(.int 6)]) _
    refine XS.iconst X0.here hx rfl (hb hby d1_36) ?_
    show SF p e below s₁ (mkF m 37 #[iv 6] [(.int 4), (.int 6)]) _
    refine XS.icmpYes X0.here hx rfl (pc0 := 37) (pc' := 44) rfl (hb hby d1_37) rfl (feq (by decide : ¬ ((6 : Int32) = (4 : Int32)))).2 (by decide) (by decide) ?_
    show SF p e below s₁ (mkF m 44 #[iv 6] []) _
    refine XS.iloadN X0.here hx rfl (hb hby d1_44) rfl ?_
    show SF p e below s₁ (mkF m 45 #[iv 6] [(.int 6)]) _
    refine XS.iconst X0.here hx rfl (hb hby d1_45) ?_
    show SF p e below s₁ (mkF m 46 #[iv 6] [(.int 5), (.int 6)]) _
    refine XS.icmpYes X0.here hx rfl (pc0 := 46) (pc' := 53) rfl (hb hby d1_46) rfl (feq (by decide : ¬ ((6 : Int32) = (5 : Int32)))).2 (by decide) (by decide) ?_
    show SF p e below s₁ (mkF m 53 #[iv 6] []) _
    refine XS.iloadN X0.here hx rfl (hb hby d1_53) rfl ?_
    show SF p e below s₁ (mkF m 54 #[iv 6] [(.int 6)]) _
    refine XS.bipush X0.here hx rfl (hb hby d1_54) ?_
    show SF p e below s₁ (mkF m 56 #[iv 6] [(.int 6), (.int 6)]) _
    refine XS.icmpNo X0.here hx rfl (hb hby d1_56) rfl (teq (by decide : (6 : Int32) = (6 : Int32))).2 ?_
    show SF p e below s₁ (mkF m 59 #[iv 6] []) _
    refine st1 _ ?_
    show SF p e below T1 (mkF m 62 #[iv 6] [(.ref w3)]) _
    exact own_retR X1 hx Bd.returns rfl rfl (hb hby d1_62) hr
  · show Q1_19 Z w3 h0 n0 _ T1.heap _
    rw [e1]
    exact ⟨rfl, N0, rfl⟩
-- XpathTokensNamesNextPinLaw.endsOperand 
def Q2_20 (Z : State) (w3 : Addr) (w2 : Addr) (h0 : Heap) (n0 : Nat) (v : Option Value) (h : Heap) (L : List Loc) : Prop := v = some (.int 1) ∧ Fr n0 L ∧ h = h0
set_option maxRecDepth 65536 in
set_option maxHeartbeats 40000000 in
theorem rm2_20 (l : Launch) (Z : State) (a0 : Array Value) (hw : HW Z a0) (ws : List Jvm.Cond) (w3 : Addr) (w2 : Addr) (h0 : Heap) (n0 : Nat) (Z0 : n0 ≤ h0.size) (S2 : Sta Z Z.heap "com/example/edictum/edictum/io/XpathTokens$Kind" "RIGHT_PAREN" "Lcom/example/edictum/edictum/io/XpathTokens$Kind;" (.ref w2)) (P2 : Old Z n0 h0) (F_w3_ordinal : Fld Z Z.heap w3 "java/lang/Enum" "ordinal" "I" (.int 6)) (F_w2_ordinal : Fld Z Z.heap w2 "java/lang/Enum" "ordinal" "I" (.int 5)) (S4 : Sta Z Z.heap "com/example/edictum/edictum/io/XpathTokens$Kind" "RIGHT_BRACKET" "Lcom/example/edictum/edictum/io/XpathTokens$Kind;" (.ref w3)) :
    MF l Z (⟨"com/example/edictum/edictum/io/XpathTokensNamesNextPinLaw", "endsOperand", "(Lcom/example/edictum/edictum/io/XpathTokens$Kind;)Z"⟩ : MethodName) (Jvm.Cond.code (⟨"com/example/edictum/edictum/io/XpathTokensNamesNextPinLaw", "endsOperand", "(Lcom/example/edictum/edictum/io/XpathTokens$Kind;)Z"⟩ : MethodName) method_3_code 1 (some .boolean)) ws ({ frames := 0, cells := 0, slots := 0, locals := 0 } : Room) #[(.ref w3)] h0 (Q2_20 Z w3 w2 h0 n0) := by
  refine MetFree.of_bodySF (plainFor_of_name pn_0) hisR ?_
  intro p e s m args below meth c s₁ Bd hml0 hP hK
  obtain ⟨rfl, hZ, hh⟩ := hP
  have hx := Bd.exec
  have hby := Bd.bytes
  have hml : c.maxLocals = 1 := hml0
  have hown : s.vm.findClass "com/example/edictum/edictum/io/XpathTokensNamesNextPinLaw" = some m.cls := findClass_of_methodNamed Bd.named
  have hnm := (name_of_methodNamed Bd.named Bd.method).1
  have X0 : Stand p l e ({ frames := 0, cells := 0, slots := 0, locals := 0 } : Room) s m #[(.ref w3)] below meth c s₁ [] 0 0 := Stand.of_body Bd
  have e0 : s₁.heap = h0 := by rw [← hh, Bd.state]; rfl
  have N0 := Fr.nil n0
  have pre0 : ∀ t, SF p e below s₁ (mkF m 0 #[rv w3] []) t → SF p e below s₁ (entryFrame m #[(.ref w3)] 1) t := fun t k => castTop (ef_1 m w3) k
  obtain ⟨T1, X1, e1, st1⟩ := getS2 X0 hx hZ hown (host := "") (Or.inl (tw hw 11 rfl)) Via.refl e0 (S2.ext P2.2) (g := (mkF m 1 #[rv w3] [(.ref w3)])) rfl (hb hby d2_1)
  obtain ⟨T2, X2, e2, st2⟩ := getS2 X1 hx hZ hown (host := "") (Or.inl (tw hw 13 rfl)) Via.refl e1 (S4.ext P2.2) (g := (mkF m 8 #[rv w3] [(.ref w3)])) rfl (hb hby d2_8)
  obtain ⟨fs, hr, hrun, hended, hW, hsame⟩ := X2.leave (v := some (.int 1)) (fun h => by rw [Bd.returns] at h; cases h)
  refine ⟨_, _, pre0 _ ?_, hrun, hended, _, _, rfl, ?_, ⟨_, rfl⟩, hW, hsame.mono (by decide) (by decide)⟩
  · show SF p e below s₁ (mkF m 0 #[rv w3] []) _
    refine XS.aloadN X0.here hx rfl (hb hby d2_0) rfl rfl ?_
    show SF p e below s₁ (mkF m 1 #[rv w3] [(.ref w3)]) _
    refine st1 _ ?_
    show SF p e below T1 (mkF m 4 #[rv w3] [(.ref w2), (.ref w3)]) _
    refine Jvm.RoadKit.acmp (g := (mkF m 4 #[rv w3] [(.ref w2), (.ref w3)])) X1 hx rfl rfl rfl (pc0 := 4) (pc' := 7) (same := false) rfl (hb hby d2_4) rfl (decide_eq_false fun q => (Fld.ne F_w3_ordinal F_w2_ordinal (by decide)) (Value.ref.inj q)) (by decide) (by decide) ?_
    show SF p e below T1 (mkF m 7 #[rv w3] []) _
    refine XS.aloadN X1.here hx rfl (hb hby d2_7) rfl rfl ?_
    show SF p e below T1 (mkF m 8 #[rv w3] [(.ref w3)]) _
    refine st2 _ ?_
    show SF p e below T2 (mkF m 11 #[rv w3] [(.ref w3), (.ref w3)]) _
    refine Jvm.RoadKit.acmp (g := (mkF m 11 #[rv w3] [(.ref w3), (.ref w3)])) X2 hx rfl rfl rfl (pc0 := 11) (pc' := 70) (same := true) rfl (hb hby d2_11) rfl (decide_eq_true rfl) (by decide) (by decide) ?_
    show SF p e below T2 (mkF m 70 #[rv w3] []) _
    refine XS.iconst X2.here hx rfl (hb hby d2_70) ?_
    show SF p e below T2 (mkF m 71 #[rv w3] [(.int 1)]) _
    refine XS.goto X2.here hx rfl (pc0 := 71) (pc' := 75) rfl (hb hby d2_71) (by decide) (by decide) ?_
    show SF p e below T2 (mkF m 75 #[rv w3] [(.int 1)]) _
    exact retN X2 hx (t := .boolean) Bd.returns (by simp) (hb hby d2_75) hr
  · show Q2_20 Z w3 w2 h0 n0 _ T2.heap _
    rw [e2]
    exact ⟨rfl, N0, rfl⟩
-- XpathTokens$Kind.namesNext 
def Q3_21 (Z : State) (w3 : Addr) (w1 : Addr) (w13 : Addr) (w14 : Addr) (w12 : Addr) (w16 : Addr) (w15 : Addr) (w17 : Addr) (w18 : Addr) (h0 : Heap) (n0 : Nat) (v : Option Value) (h : Heap) (L : List Loc) : Prop := v = some (.int 0) ∧ Fr n0 L ∧ h = h0
set_option maxRecDepth 65536 in
set_option maxHeartbeats 40000000 in
theorem rm3_21 (l : Launch) (Z : State) (a0 : Array Value) (hw : HW Z a0) (ws : List Jvm.Cond) (w3 : Addr) (w1 : Addr) (w13 : Addr) (w14 : Addr) (w12 : Addr) (w16 : Addr) (w15 : Addr) (w17 : Addr) (w18 : Addr) (h0 : Heap) (n0 : Nat) (Z0 : n0 ≤ h0.size) (S0 : Sta Z Z.heap "com/example/edictum/edictum/io/XpathTokens$Kind" "AT" "Lcom/example/edictum/edictum/io/XpathTokens$Kind;" (.ref w1)) (P2 : Old Z n0 h0) (F_w3_ordinal : Fld Z Z.heap w3 "java/lang/Enum" "ordinal" "I" (.int 6)) (F_w1_ordinal : Fld Z Z.heap w1 "java/lang/Enum" "ordinal" "I" (.int 0)) (S24 : Sta Z Z.heap "com/example/edictum/edictum/io/XpathTokens$Kind" "AXIS_SEPARATOR" "Lcom/example/edictum/edictum/io/XpathTokens$Kind;" (.ref w13)) (F_w13_ordinal : Fld Z Z.heap w13 "java/lang/Enum" "ordinal" "I" (.int 1)) (S26 : Sta Z Z.heap "com/example/edictum/edictum/io/XpathTokens$Kind" "LEFT_PAREN" "Lcom/example/edictum/edictum/io/XpathTokens$Kind;" (.ref w14)) (F_w14_ordinal : Fld Z Z.heap w14 "java/lang/Enum" "ordinal" "I" (.int 2)) (S22 : Sta Z Z.heap "com/example/edictum/edictum/io/XpathTokens$Kind" "LEFT_BRACKET" "Lcom/example/edictum/edictum/io/XpathTokens$Kind;" (.ref w12)) (F_w12_ordinal : Fld Z Z.heap w12 "java/lang/Enum" "ordinal" "I" (.int 3)) (S30 : Sta Z Z.heap "com/example/edictum/edictum/io/XpathTokens$Kind" "COMMA" "Lcom/example/edictum/edictum/io/XpathTokens$Kind;" (.ref w16)) (F_w16_ordinal : Fld Z Z.heap w16 "java/lang/Enum" "ordinal" "I" (.int 4)) (S28 : Sta Z Z.heap "com/example/edictum/edictum/io/XpathTokens$Kind" "SLASH" "Lcom/example/edictum/edictum/io/XpathTokens$Kind;" (.ref w15)) (F_w15_ordinal : Fld Z Z.heap w15 "java/lang/Enum" "ordinal" "I" (.int 7)) (S32 : Sta Z Z.heap "com/example/edictum/edictum/io/XpathTokens$Kind" "DOUBLE_SLASH" "Lcom/example/edictum/edictum/io/XpathTokens$Kind;" (.ref w17)) (F_w17_ordinal : Fld Z Z.heap w17 "java/lang/Enum" "ordinal" "I" (.int 8)) (S34 : Sta Z Z.heap "com/example/edictum/edictum/io/XpathTokens$Kind" "OPERATOR" "Lcom/example/edictum/edictum/io/XpathTokens$Kind;" (.ref w18)) (F_w18_ordinal : Fld Z Z.heap w18 "java/lang/Enum" "ordinal" "I" (.int 9)) :
    MF l Z (⟨"com/example/edictum/edictum/io/XpathTokens$Kind", "namesNext", "()Z"⟩ : MethodName) (Jvm.Cond.code (⟨"com/example/edictum/edictum/io/XpathTokens$Kind", "namesNext", "()Z"⟩ : MethodName) prog_251_method_4_code 1 (some .boolean)) ws ({ frames := 0, cells := 0, slots := 0, locals := 0 } : Room) #[(.ref w3)] h0 (Q3_21 Z w3 w1 w13 w14 w12 w16 w15 w17 w18 h0 n0) := by
  refine MetFree.of_bodySF (plainFor_of_name pn_1) hisR ?_
  intro p e s m args below meth c s₁ Bd hml0 hP hK
  obtain ⟨rfl, hZ, hh⟩ := hP
  have hx := Bd.exec
  have hby := Bd.bytes
  have hml : c.maxLocals = 1 := hml0
  have hown : s.vm.findClass "com/example/edictum/edictum/io/XpathTokens$Kind" = some m.cls := findClass_of_methodNamed Bd.named
  have hnm := (name_of_methodNamed Bd.named Bd.method).1
  have X0 : Stand p l e ({ frames := 0, cells := 0, slots := 0, locals := 0 } : Room) s m #[(.ref w3)] below meth c s₁ [] 0 0 := Stand.of_body Bd
  have e0 : s₁.heap = h0 := by rw [← hh, Bd.state]; rfl
  have N0 := Fr.nil n0
  have pre0 : ∀ t, SF p e below s₁ (mkF m 0 #[rv w3] []) t → SF p e below s₁ (entryFrame m #[(.ref w3)] 1) t := fun t k => castTop (ef_2 m w3) k
  obtain ⟨T1, X1, e1, st1⟩ := getS2 X0 hx hZ hown (host := "") (Or.inl (tw hw 36 rfl)) Via.refl e0 (S0.ext P2.2) (g := (mkF m 1 #[rv w3] [(.ref w3)])) rfl (hb hby d3_1)
  obtain ⟨T2, X2, e2, st2⟩ := getS2 X1 hx hZ hown (host := "") (Or.inl (tw hw 39 rfl)) Via.refl e1 (S24.ext P2.2) (g := (mkF m 8 #[rv w3] [(.ref w3)])) rfl (hb hby d3_8)
  obtain ⟨T3, X3, e3, st3⟩ := getS2 X2 hx hZ hown (host := "") (Or.inl (tw hw 41 rfl)) Via.refl e2 (S26.ext P2.2) (g := (mkF m 15 #[rv w3] [(.ref w3)])) rfl (hb hby d3_15)
  obtain ⟨T4, X4, e4, st4⟩ := getS2 X3 hx hZ hown (host := "") (Or.inl (tw hw 43 rfl)) Via.refl e3 (S22.ext P2.2) (g := (mkF m 22 #[rv w3] [(.ref w3)])) rfl (hb hby d3_22)
  obtain ⟨T5, X5, e5, st5⟩ := getS2 X4 hx hZ hown (host := "") (Or.inl (tw hw 48 rfl)) Via.refl e4 (S30.ext P2.2) (g := (mkF m 29 #[rv w3] [(.ref w3)])) rfl (hb hby d3_29)
  obtain ⟨T6, X6, e6, st6⟩ := getS2 X5 hx hZ hown (host := "") (Or.inl (tw hw 50 rfl)) Via.refl e5 (S28.ext P2.2) (g := (mkF m 36 #[rv w3] [(.ref w3)])) rfl (hb hby d3_36)
  obtain ⟨T7, X7, e7, st7⟩ := getS2 X6 hx hZ hown (host := "") (Or.inl (tw hw 51 rfl)) Via.refl e6 (S32.ext P2.2) (g := (mkF m 43 #[rv w3] [(.ref w3)])) rfl (hb hby d3_43)
  obtain ⟨T8, X8, e8, st8⟩ := getS2 X7 hx hZ hown (host := "") (Or.inl (tw hw 53 rfl)) Via.refl e7 (S34.ext P2.2) (g := (mkF m 50 #[rv w3] [(.ref w3)])) rfl (hb hby d3_50)
  obtain ⟨fs, hr, hrun, hended, hW, hsame⟩ := X8.leave (v := some (.int 0)) (fun h => by rw [Bd.returns] at h; cases h)
  refine ⟨_, _, pre0 _ ?_, hrun, hended, _, _, rfl, ?_, ⟨_, rfl⟩, hW, hsame.mono (by decide) (by decide)⟩
  · show SF p e below s₁ (mkF m 0 #[rv w3] []) _
    refine XS.aloadN X0.here hx rfl (hb hby d3_0) rfl rfl ?_
    show SF p e below s₁ (mkF m 1 #[rv w3] [(.ref w3)]) _
    refine st1 _ ?_
    show SF p e below T1 (mkF m 4 #[rv w3] [(.ref w1), (.ref w3)]) _
    refine Jvm.RoadKit.acmp (g := (mkF m 4 #[rv w3] [(.ref w1), (.ref w3)])) X1 hx rfl rfl rfl (pc0 := 4) (pc' := 7) (same := false) rfl (hb hby d3_4) rfl (decide_eq_false fun q => (Fld.ne F_w3_ordinal F_w1_ordinal (by decide)) (Value.ref.inj q)) (by decide) (by decide) ?_
    show SF p e below T1 (mkF m 7 #[rv w3] []) _
    refine XS.aloadN X1.here hx rfl (hb hby d3_7) rfl rfl ?_
    show SF p e below T1 (mkF m 8 #[rv w3] [(.ref w3)]) _
    refine st2 _ ?_
    show SF p e below T2 (mkF m 11 #[rv w3] [(.ref w13), (.ref w3)]) _
    refine Jvm.RoadKit.acmp (g := (mkF m 11 #[rv w3] [(.ref w13), (.ref w3)])) X2 hx rfl rfl rfl (pc0 := 11) (pc' := 14) (same := false) rfl (hb hby d3_11) rfl (decide_eq_false fun q => (Fld.ne F_w3_ordinal F_w13_ordinal (by decide)) (Value.ref.inj q)) (by decide) (by decide) ?_
    show SF p e below T2 (mkF m 14 #[rv w3] []) _
    refine XS.aloadN X2.here hx rfl (hb hby d3_14) rfl rfl ?_
    show SF p e below T2 (mkF m 15 #[rv w3] [(.ref w3)]) _
    refine st3 _ ?_
    show SF p e below T3 (mkF m 18 #[rv w3] [(.ref w14), (.ref w3)]) _
    refine Jvm.RoadKit.acmp (g := (mkF m 18 #[rv w3] [(.ref w14), (.ref w3)])) X3 hx rfl rfl rfl (pc0 := 18) (pc' := 21) (same := false) rfl (hb hby d3_18) rfl (decide_eq_false fun q => (Fld.ne F_w3_ordinal F_w14_ordinal (by decide)) (Value.ref.inj q)) (by decide) (by decide) ?_
    show SF p e below T3 (mkF m 21 #[rv w3] []) _
    refine XS.aloadN X3.here hx rfl (hb hby d3_21) rfl rfl ?_
    show SF p e below T3 (mkF m 22 #[rv w3] [(.ref w3)]) _
    refine st4 _ ?_
    show SF p e below T4 (mkF m 25 #[rv w3] [(.ref w12), (.ref w3)]) _
    refine Jvm.RoadKit.acmp (g := (mkF m 25 #[rv w3] [(.ref w12), (.ref w3)])) X4 hx rfl rfl rfl (pc0 := 25) (pc' := 28) (same := false) rfl (hb hby d3_25) rfl (decide_eq_false fun q => (Fld.ne F_w3_ordinal F_w12_ordinal (by decide)) (Value.ref.inj q)) (by decide) (by decide) ?_
    show SF p e below T4 (mkF m 28 #[rv w3] []) _
    refine XS.aloadN X4.here hx rfl (hb hby d3_28) rfl rfl ?_
    show SF p e below T4 (mkF m 29 #[rv w3] [(.ref w3)]) _
    refine st5 _ ?_
    show SF p e below T5 (mkF m 32 #[rv w3] [(.ref w16), (.ref w3)]) _
    refine Jvm.RoadKit.acmp (g := (mkF m 32 #[rv w3] [(.ref w16), (.ref w3)])) X5 hx rfl rfl rfl (pc0 := 32) (pc' := 35) (same := false) rfl (hb hby d3_32) rfl (decide_eq_false fun q => (Fld.ne F_w3_ordinal F_w16_ordinal (by decide)) (Value.ref.inj q)) (by decide) (by decide) ?_
    show SF p e below T5 (mkF m 35 #[rv w3] []) _
    refine XS.aloadN X5.here hx rfl (hb hby d3_35) rfl rfl ?_
    show SF p e below T5 (mkF m 36 #[rv w3] [(.ref w3)]) _
    refine st6 _ ?_
    show SF p e below T6 (mkF m 39 #[rv w3] [(.ref w15), (.ref w3)]) _
    refine Jvm.RoadKit.acmp (g := (mkF m 39 #[rv w3] [(.ref w15), (.ref w3)])) X6 hx rfl rfl rfl (pc0 := 39) (pc' := 42) (same := false) rfl (hb hby d3_39) rfl (decide_eq_false fun q => (Fld.ne F_w3_ordinal F_w15_ordinal (by decide)) (Value.ref.inj q)) (by decide) (by decide) ?_
    show SF p e below T6 (mkF m 42 #[rv w3] []) _
    refine XS.aloadN X6.here hx rfl (hb hby d3_42) rfl rfl ?_
    show SF p e below T6 (mkF m 43 #[rv w3] [(.ref w3)]) _
    refine st7 _ ?_
    show SF p e below T7 (mkF m 46 #[rv w3] [(.ref w17), (.ref w3)]) _
    refine Jvm.RoadKit.acmp (g := (mkF m 46 #[rv w3] [(.ref w17), (.ref w3)])) X7 hx rfl rfl rfl (pc0 := 46) (pc' := 49) (same := false) rfl (hb hby d3_46) rfl (decide_eq_false fun q => (Fld.ne F_w3_ordinal F_w17_ordinal (by decide)) (Value.ref.inj q)) (by decide) (by decide) ?_
    show SF p e below T7 (mkF m 49 #[rv w3] []) _
    refine XS.aloadN X7.here hx rfl (hb hby d3_49) rfl rfl ?_
    show SF p e below T7 (mkF m 50 #[rv w3] [(.ref w3)]) _
    refine st8 _ ?_
    show SF p e below T8 (mkF m 53 #[rv w3] [(.ref w18), (.ref w3)]) _
    refine Jvm.RoadKit.acmp (g := (mkF m 53 #[rv w3] [(.ref w18), (.ref w3)])) X8 hx rfl rfl rfl (pc0 := 53) (pc' := 60) (same := false) rfl (hb hby d3_53) rfl (decide_eq_false fun q => (Fld.ne F_w3_ordinal F_w18_ordinal (by decide)) (Value.ref.inj q)) (by decide) (by decide) ?_
    show SF p e below T8 (mkF m 60 #[rv w3] []) _
    refine XS.iconst X8.here hx rfl (hb hby d3_60) ?_
    show SF p e below T8 (mkF m 61 #[rv w3] [(.int 0)]) _
    exact retN X8 hx (t := .boolean) Bd.returns (by simp) (hb hby d3_61) hr
  · show Q3_21 Z w3 w1 w13 w14 w12 w16 w15 w17 w18 h0 n0 _ T8.heap _
    rw [e8]
    exact ⟨rfl, N0, rfl⟩
theorem d1_63 : decode method_2_code 63 = .ok (.iload_n 0, 1) := by decide +kernel
theorem d1_64 : decode method_2_code 64 = .ok (.bipush 7, 2) := by decide +kernel
theorem d1_66 : decode method_2_code 66 = .ok (.if_icmp .ne 7, 3) := by decide +kernel
theorem d1_69 : decode method_2_code 69 = .ok (.getstatic 31, 3) := by decide +kernel
theorem d1_72 : decode method_2_code 72 = .ok (.areturn, 1) := by decide +kernel
-- XpathTokensNamesNextPinLaw.kindOf 
def Q1_22 (Z : State) (w15 : Addr) (h0 : Heap) (n0 : Nat) (v : Option Value) (h : Heap) (L : List Loc) : Prop := v = some (.ref w15) ∧ Fr n0 L ∧ h = h0
set_option maxRecDepth 65536 in
set_option maxHeartbeats 40000000 in
theorem rm1_22 (l : Launch) (Z : State) (a0 : Array Value) (hw : HW Z a0) (ws : List Jvm.Cond) (w15 : Addr) (h0 : Heap) (n0 : Nat) (Z0 : n0 ≤ h0.size) (S28 : Sta Z Z.heap "com/example/edictum/edictum/io/XpathTokens$Kind" "SLASH" "Lcom/example/edictum/edictum/io/XpathTokens$Kind;" (.ref w15)) (P2 : Old Z n0 h0) :
    MF l Z (⟨"com/example/edictum/edictum/io/XpathTokensNamesNextPinLaw", "kindOf", "(I)Lcom/example/edictum/edictum/io/XpathTokens$Kind;"⟩ : MethodName) (Jvm.Cond.code (⟨"com/example/edictum/edictum/io/XpathTokensNamesNextPinLaw", "kindOf", "(I)Lcom/example/edictum/edictum/io/XpathTokens$Kind;"⟩ : MethodName) method_2_code 1 (some (.object "com/example/edictum/edictum/io/XpathTokens$Kind"))) ws ({ frames := 0, cells := 0, slots := 0, locals := 0 } : Room) #[(.int 7)] h0 (Q1_22 Z w15 h0 n0) := by
  refine MetFree.of_bodySF (plainFor_of_name pn_0) hisR ?_
  intro p e s m args below meth c s₁ Bd hml0 hP hK
  obtain ⟨rfl, hZ, hh⟩ := hP
  have hx := Bd.exec
  have hby := Bd.bytes
  have hml : c.maxLocals = 1 := hml0
  have hown : s.vm.findClass "com/example/edictum/edictum/io/XpathTokensNamesNextPinLaw" = some m.cls := findClass_of_methodNamed Bd.named
  have hnm := (name_of_methodNamed Bd.named Bd.method).1
  have X0 : Stand p l e ({ frames := 0, cells := 0, slots := 0, locals := 0 } : Room) s m #[(.int 7)] below meth c s₁ [] 0 0 := Stand.of_body Bd
  have e0 : s₁.heap = h0 := by rw [← hh, Bd.state]; rfl
  have N0 := Fr.nil n0
  have pre0 : ∀ t, SF p e below s₁ (mkF m 0 #[iv 7] []) t → SF p e below s₁ (entryFrame m #[(.int 7)] 1) t := fun t k => castTop (ef_0 m (7 : Int32)) k
  obtain ⟨T1, X1, e1, st1⟩ := getS2 X0 hx hZ hown (host := "") (Or.inl (tw hw 46 rfl)) Via.refl e0 (S28.ext P2.2) (g := (mkF m 69 #[iv 7] [])) rfl (hb hby d1_69)
  obtain ⟨fs, hr, hrun, hended, hW, hsame⟩ := X1.leave (v := some (.ref w15)) (fun h => by rw [Bd.returns] at h; cases h)
  refine ⟨_, _, pre0 _ ?_, hrun, hended, _, _, rfl, ?_, ⟨_, rfl⟩, hW, hsame.mono (by decide) (by decide)⟩
  · show SF p e below s₁ (mkF m 0 #[iv 7] []) _
    refine XS.iloadN X0.here hx rfl (hb hby d1_0) rfl ?_
    show SF p e below s₁ (mkF m 1 #[iv 7] [(.int 7)]) _
    refine XS.ifYes X0.here hx rfl (pc0 := 1) (pc' := 8) rfl (hb hby d1_1) rfl ((if0 _ _).trans (feq (by decide : ¬ ((7 : Int32) = (0 : Int32)))).2) (by decide) (by decide) ?_
    show SF p e below s₁ (mkF m 8 #[iv 7] []) _
    refine XS.iloadN X0.here hx rfl (hb hby d1_8) rfl ?_
    show SF p e below s₁ (mkF m 9 #[iv 7] [(.int 7)]) _
    refine XS.iconst X0.here hx rfl (hb hby d1_9) ?_
    show SF p e below s₁ (mkF m 10 #[iv 7] [(.int 1), (.int 7)]) _
    refine XS.icmpYes X0.here hx rfl (pc0 := 10) (pc' := 17) rfl (hb hby d1_10) rfl (feq (by decide : ¬ ((7 : Int32) = (1 : Int32)))).2 (by decide) (by decide) ?_
    show SF p e below s₁ (mkF m 17 #[iv 7] []) _
    refine XS.iloadN X0.here hx rfl (hb hby d1_17) rfl ?_
    show SF p e below s₁ (mkF m 18 #[iv 7] [(.int 7)]) _
    refine XS.iconst X0.here hx rfl (hb hby d1_18) ?_
    show SF p e below s₁ (mkF m 19 #[iv 7] [(.int 2), (.int 7)]) _
    refine XS.icmpYes X0.here hx rfl (pc0 := 19) (pc' := 26) rfl (hb hby d1_19) rfl (feq (by decide : ¬ ((7 : Int32) = (2 : Int32)))).2 (by decide) (by decide) ?_
    show SF p e below s₁ (mkF m 26 #[iv 7] []) _
    refine XS.iloadN X0.here hx rfl (hb hby d1_26) rfl ?_
    show SF p e below s₁ (mkF m 27 #[iv 7] [(.int 7)]) _
    refine XS.iconst X0.here hx rfl (hb hby d1_27) ?_
    show SF p e below s₁ (mkF m 28 #[iv 7] [(.int 3), (.int 7)]) _
    refine XS.icmpYes X0.here hx rfl (pc0 := 28) (pc' := 35) rfl (hb hby d1_28) rfl (feq (by decide : ¬ ((7 : Int32) = (3 : Int32)))).2 (by decide) (by decide) ?_
    show SF p e below s₁ (mkF m 35 #[iv 7] []) _
    refine XS.iloadN X0.here hx rfl (hb hby d1_35) rfl ?_
    show SF p e below s₁ (mkF m 36 #[iv 7] [(.int 7)]) _
    refine XS.iconst X0.here hx rfl (hb hby d1_36) ?_
    show SF p e below s₁ (mkF m 37 #[iv 7] [(.int 4), (.int 7)]) _
    refine XS.icmpYes X0.here hx rfl (pc0 := 37) (pc' := 44) rfl (hb hby d1_37) rfl (feq (by decide : ¬ ((7 : Int32) = (4 : Int32)))).2 (by decide) (by decide) ?_
    show SF p e below s₁ (mkF m 44 #[iv 7] []) _
    refine XS.iloadN X0.here hx rfl (hb hby d1_44) rfl ?_
    show SF p e below s₁ (mkF m 45 #[iv 7] [(.int 7)]) _
    refine XS.iconst X0.here hx rfl (hb hby d1_45) ?_
    show SF p e below s₁ (mkF m 46 #[iv 7] [(.int 5), (.int 7)]) _
    refine XS.icmpYes X0.here hx rfl (pc0 := 46) (pc' := 53) rfl (hb hby d1_46) rfl (feq (by decide : ¬ ((7 : Int32) = (5 : Int32)))).2 (by decide) (by decide) ?_
    show SF p e below s₁ (mkF m 53 #[iv 7] []) _
    refine XS.iloadN X0.here hx rfl (hb hby d1_53) rfl ?_
    show SF p e below s₁ (mkF m 54 #[iv 7] [(.int 7)]) _
    refine XS.bipush X0.here hx rfl (hb hby d1_54) ?_
    show SF p e below s₁ (mkF m 56 #[iv 7] [(.int 6), (.int 7)]) _
    refine XS.icmpYes X0.here hx rfl (pc0 := 56) (pc' := 63) rfl (hb hby d1_56) rfl (feq (by decide : ¬ ((7 : Int32) = (6 : Int32)))).2 (by decide) (by decide) ?_
    show SF p e below s₁ (mkF m 63 #[iv 7] []) _
    refine XS.iloadN X0.here hx rfl (hb hby d1_63) rfl ?_
    show SF p e below s₁ (mkF m 64 #[iv 7] [(.int 7)]) _
    refine XS.bipush X0.here hx rfl (hb hby d1_64) ?_
    show SF p e below s₁ (mkF m 66 #[iv 7] [(.int 7), (.int 7)]) _
    refine XS.icmpNo X0.here hx rfl (hb hby d1_66) rfl (teq (by decide : (7 : Int32) = (7 : Int32))).2 ?_
    show SF p e below s₁ (mkF m 69 #[iv 7] []) _
    refine st1 _ ?_
    show SF p e below T1 (mkF m 72 #[iv 7] [(.ref w15)]) _
    exact own_retR X1 hx Bd.returns rfl rfl (hb hby d1_72) hr
  · show Q1_22 Z w15 h0 n0 _ T1.heap _
    rw [e1]
    exact ⟨rfl, N0, rfl⟩
-- XpathTokensNamesNextPinLaw.endsOperand 
def Q2_23 (Z : State) (w15 : Addr) (w2 : Addr) (w3 : Addr) (w4 : Addr) (w5 : Addr) (w6 : Addr) (w7 : Addr) (w8 : Addr) (w9 : Addr) (w10 : Addr) (w11 : Addr) (h0 : Heap) (n0 : Nat) (v : Option Value) (h : Heap) (L : List Loc) : Prop := v = some (.int 0) ∧ Fr n0 L ∧ h = h0
set_option maxRecDepth 65536 in
set_option maxHeartbeats 40000000 in
theorem rm2_23 (l : Launch) (Z : State) (a0 : Array Value) (hw : HW Z a0) (ws : List Jvm.Cond) (w15 : Addr) (w2 : Addr) (w3 : Addr) (w4 : Addr) (w5 : Addr) (w6 : Addr) (w7 : Addr) (w8 : Addr) (w9 : Addr) (w10 : Addr) (w11 : Addr) (h0 : Heap) (n0 : Nat) (Z0 : n0 ≤ h0.size) (S2 : Sta Z Z.heap "com/example/edictum/edictum/io/XpathTokens$Kind" "RIGHT_PAREN" "Lcom/example/edictum/edictum/io/XpathTokens$Kind;" (.ref w2)) (P2 : Old Z n0 h0) (F_w15_ordinal : Fld Z Z.heap w15 "java/lang/Enum" "ordinal" "I" (.int 7)) (F_w2_ordinal : Fld Z Z.heap w2 "java/lang/Enum" "ordinal" "I" (.int 5)) (S4 : Sta Z Z.heap "com/example/edictum/edictum/io/XpathTokens$Kind" "RIGHT_BRACKET" "Lcom/example/edictum/edictum/io/XpathTokens$Kind;" (.ref w3)) (F_w3_ordinal : Fld Z Z.heap w3 "java/lang/Enum" "ordinal" "I" (.int 6)) (S6 : Sta Z Z.heap "com/example/edictum/edictum/io/XpathTokens$Kind" "AXIS" "Lcom/example/edictum/edictum/io/XpathTokens$Kind;" (.ref w4)) (F_w4_ordinal : Fld Z Z.heap w4 "java/lang/Enum" "ordinal" "I" (.int 10)) (S8 : Sta Z Z.heap "com/example/edictum/edictum/io/XpathTokens$Kind" "FUNCTION" "Lcom/example/edictum/edictum/io/XpathTokens$Kind;" (.ref w5)) (F_w5_ordinal : Fld Z Z.heap w5 "java/lang/Enum" "ordinal" "I" (.int 11)) (S10 : Sta Z Z.heap "com/example/edictum/edictum/io/XpathTokens$Kind" "NODE_TYPE" "Lcom/example/edictum/edictum/io/XpathTokens$Kind;" (.ref w6)) (F_w6_ordinal : Fld Z Z.heap w6 "java/lang/Enum" "ordinal" "I" (.int 12)) (S12 : Sta Z Z.heap "com/example/edictum/edictum/io/XpathTokens$Kind" "NAME_TEST" "Lcom/example/edictum/edictum/io/XpathTokens$Kind;" (.ref w7)) (F_w7_ordinal : Fld Z Z.heap w7 "java/lang/Enum" "ordinal" "I" (.int 13)) (S14 : Sta Z Z.heap "com/example/edictum/edictum/io/XpathTokens$Kind" "DOT" "Lcom/example/edictum/edictum/io/XpathTokens$Kind;" (.ref w8)) (F_w8_ordinal : Fld Z Z.heap w8 "java/lang/Enum" "ordinal" "I" (.int 14)) (S16 : Sta Z Z.heap "com/example/edictum/edictum/io/XpathTokens$Kind" "DOT_DOT" "Lcom/example/edictum/edictum/io/XpathTokens$Kind;" (.ref w9)) (F_w9_ordinal : Fld Z Z.heap w9 "java/lang/Enum" "ordinal" "I" (.int 15)) (S18 : Sta Z Z.heap "com/example/edictum/edictum/io/XpathTokens$Kind" "LITERAL" "Lcom/example/edictum/edictum/io/XpathTokens$Kind;" (.ref w10)) (F_w10_ordinal : Fld Z Z.heap w10 "java/lang/Enum" "ordinal" "I" (.int 16)) (S20 : Sta Z Z.heap "com/example/edictum/edictum/io/XpathTokens$Kind" "NUMBER" "Lcom/example/edictum/edictum/io/XpathTokens$Kind;" (.ref w11)) (F_w11_ordinal : Fld Z Z.heap w11 "java/lang/Enum" "ordinal" "I" (.int 17)) :
    MF l Z (⟨"com/example/edictum/edictum/io/XpathTokensNamesNextPinLaw", "endsOperand", "(Lcom/example/edictum/edictum/io/XpathTokens$Kind;)Z"⟩ : MethodName) (Jvm.Cond.code (⟨"com/example/edictum/edictum/io/XpathTokensNamesNextPinLaw", "endsOperand", "(Lcom/example/edictum/edictum/io/XpathTokens$Kind;)Z"⟩ : MethodName) method_3_code 1 (some .boolean)) ws ({ frames := 0, cells := 0, slots := 0, locals := 0 } : Room) #[(.ref w15)] h0 (Q2_23 Z w15 w2 w3 w4 w5 w6 w7 w8 w9 w10 w11 h0 n0) := by
  refine MetFree.of_bodySF (plainFor_of_name pn_0) hisR ?_
  intro p e s m args below meth c s₁ Bd hml0 hP hK
  obtain ⟨rfl, hZ, hh⟩ := hP
  have hx := Bd.exec
  have hby := Bd.bytes
  have hml : c.maxLocals = 1 := hml0
  have hown : s.vm.findClass "com/example/edictum/edictum/io/XpathTokensNamesNextPinLaw" = some m.cls := findClass_of_methodNamed Bd.named
  have hnm := (name_of_methodNamed Bd.named Bd.method).1
  have X0 : Stand p l e ({ frames := 0, cells := 0, slots := 0, locals := 0 } : Room) s m #[(.ref w15)] below meth c s₁ [] 0 0 := Stand.of_body Bd
  have e0 : s₁.heap = h0 := by rw [← hh, Bd.state]; rfl
  have N0 := Fr.nil n0
  have pre0 : ∀ t, SF p e below s₁ (mkF m 0 #[rv w15] []) t → SF p e below s₁ (entryFrame m #[(.ref w15)] 1) t := fun t k => castTop (ef_1 m w15) k
  obtain ⟨T1, X1, e1, st1⟩ := getS2 X0 hx hZ hown (host := "") (Or.inl (tw hw 11 rfl)) Via.refl e0 (S2.ext P2.2) (g := (mkF m 1 #[rv w15] [(.ref w15)])) rfl (hb hby d2_1)
  obtain ⟨T2, X2, e2, st2⟩ := getS2 X1 hx hZ hown (host := "") (Or.inl (tw hw 13 rfl)) Via.refl e1 (S4.ext P2.2) (g := (mkF m 8 #[rv w15] [(.ref w15)])) rfl (hb hby d2_8)
  obtain ⟨T3, X3, e3, st3⟩ := getS2 X2 hx hZ hown (host := "") (Or.inl (tw hw 15 rfl)) Via.refl e2 (S6.ext P2.2) (g := (mkF m 15 #[rv w15] [(.ref w15)])) rfl (hb hby d2_15)
  obtain ⟨T4, X4, e4, st4⟩ := getS2 X3 hx hZ hown (host := "") (Or.inl (tw hw 17 rfl)) Via.refl e3 (S8.ext P2.2) (g := (mkF m 22 #[rv w15] [(.ref w15)])) rfl (hb hby d2_22)
  obtain ⟨T5, X5, e5, st5⟩ := getS2 X4 hx hZ hown (host := "") (Or.inl (tw hw 19 rfl)) Via.refl e4 (S10.ext P2.2) (g := (mkF m 29 #[rv w15] [(.ref w15)])) rfl (hb hby d2_29)
  obtain ⟨T6, X6, e6, st6⟩ := getS2 X5 hx hZ hown (host := "") (Or.inl (tw hw 21 rfl)) Via.refl e5 (S12.ext P2.2) (g := (mkF m 36 #[rv w15] [(.ref w15)])) rfl (hb hby d2_36)
  obtain ⟨T7, X7, e7, st7⟩ := getS2 X6 hx hZ hown (host := "") (Or.inl (tw hw 23 rfl)) Via.refl e6 (S14.ext P2.2) (g := (mkF m 43 #[rv w15] [(.ref w15)])) rfl (hb hby d2_43)
  obtain ⟨T8, X8, e8, st8⟩ := getS2 X7 hx hZ hown (host := "") (Or.inl (tw hw 25 rfl)) Via.refl e7 (S16.ext P2.2) (g := (mkF m 50 #[rv w15] [(.ref w15)])) rfl (hb hby d2_50)
  obtain ⟨T9, X9, e9, st9⟩ := getS2 X8 hx hZ hown (host := "") (Or.inl (tw hw 27 rfl)) Via.refl e8 (S18.ext P2.2) (g := (mkF m 57 #[rv w15] [(.ref w15)])) rfl (hb hby d2_57)
  obtain ⟨T10, X10, e10, st10⟩ := getS2 X9 hx hZ hown (host := "") (Or.inl (tw hw 29 rfl)) Via.refl e9 (S20.ext P2.2) (g := (mkF m 64 #[rv w15] [(.ref w15)])) rfl (hb hby d2_64)
  obtain ⟨fs, hr, hrun, hended, hW, hsame⟩ := X10.leave (v := some (.int 0)) (fun h => by rw [Bd.returns] at h; cases h)
  refine ⟨_, _, pre0 _ ?_, hrun, hended, _, _, rfl, ?_, ⟨_, rfl⟩, hW, hsame.mono (by decide) (by decide)⟩
  · show SF p e below s₁ (mkF m 0 #[rv w15] []) _
    refine XS.aloadN X0.here hx rfl (hb hby d2_0) rfl rfl ?_
    show SF p e below s₁ (mkF m 1 #[rv w15] [(.ref w15)]) _
    refine st1 _ ?_
    show SF p e below T1 (mkF m 4 #[rv w15] [(.ref w2), (.ref w15)]) _
    refine Jvm.RoadKit.acmp (g := (mkF m 4 #[rv w15] [(.ref w2), (.ref w15)])) X1 hx rfl rfl rfl (pc0 := 4) (pc' := 7) (same := false) rfl (hb hby d2_4) rfl (decide_eq_false fun q => (Fld.ne F_w15_ordinal F_w2_ordinal (by decide)) (Value.ref.inj q)) (by decide) (by decide) ?_
    show SF p e below T1 (mkF m 7 #[rv w15] []) _
    refine XS.aloadN X1.here hx rfl (hb hby d2_7) rfl rfl ?_
    show SF p e below T1 (mkF m 8 #[rv w15] [(.ref w15)]) _
    refine st2 _ ?_
    show SF p e below T2 (mkF m 11 #[rv w15] [(.ref w3), (.ref w15)]) _
    refine Jvm.RoadKit.acmp (g := (mkF m 11 #[rv w15] [(.ref w3), (.ref w15)])) X2 hx rfl rfl rfl (pc0 := 11) (pc' := 14) (same := false) rfl (hb hby d2_11) rfl (decide_eq_false fun q => (Fld.ne F_w15_ordinal F_w3_ordinal (by decide)) (Value.ref.inj q)) (by decide) (by decide) ?_
    show SF p e below T2 (mkF m 14 #[rv w15] []) _
    refine XS.aloadN X2.here hx rfl (hb hby d2_14) rfl rfl ?_
    show SF p e below T2 (mkF m 15 #[rv w15] [(.ref w15)]) _
    refine st3 _ ?_
    show SF p e below T3 (mkF m 18 #[rv w15] [(.ref w4), (.ref w15)]) _
    refine Jvm.RoadKit.acmp (g := (mkF m 18 #[rv w15] [(.ref w4), (.ref w15)])) X3 hx rfl rfl rfl (pc0 := 18) (pc' := 21) (same := false) rfl (hb hby d2_18) rfl (decide_eq_false fun q => (Fld.ne F_w15_ordinal F_w4_ordinal (by decide)) (Value.ref.inj q)) (by decide) (by decide) ?_
    show SF p e below T3 (mkF m 21 #[rv w15] []) _
    refine XS.aloadN X3.here hx rfl (hb hby d2_21) rfl rfl ?_
    show SF p e below T3 (mkF m 22 #[rv w15] [(.ref w15)]) _
    refine st4 _ ?_
    show SF p e below T4 (mkF m 25 #[rv w15] [(.ref w5), (.ref w15)]) _
    refine Jvm.RoadKit.acmp (g := (mkF m 25 #[rv w15] [(.ref w5), (.ref w15)])) X4 hx rfl rfl rfl (pc0 := 25) (pc' := 28) (same := false) rfl (hb hby d2_25) rfl (decide_eq_false fun q => (Fld.ne F_w15_ordinal F_w5_ordinal (by decide)) (Value.ref.inj q)) (by decide) (by decide) ?_
    show SF p e below T4 (mkF m 28 #[rv w15] []) _
    refine XS.aloadN X4.here hx rfl (hb hby d2_28) rfl rfl ?_
    show SF p e below T4 (mkF m 29 #[rv w15] [(.ref w15)]) _
    refine st5 _ ?_
    show SF p e below T5 (mkF m 32 #[rv w15] [(.ref w6), (.ref w15)]) _
    refine Jvm.RoadKit.acmp (g := (mkF m 32 #[rv w15] [(.ref w6), (.ref w15)])) X5 hx rfl rfl rfl (pc0 := 32) (pc' := 35) (same := false) rfl (hb hby d2_32) rfl (decide_eq_false fun q => (Fld.ne F_w15_ordinal F_w6_ordinal (by decide)) (Value.ref.inj q)) (by decide) (by decide) ?_
    show SF p e below T5 (mkF m 35 #[rv w15] []) _
    refine XS.aloadN X5.here hx rfl (hb hby d2_35) rfl rfl ?_
    show SF p e below T5 (mkF m 36 #[rv w15] [(.ref w15)]) _
    refine st6 _ ?_
    show SF p e below T6 (mkF m 39 #[rv w15] [(.ref w7), (.ref w15)]) _
    refine Jvm.RoadKit.acmp (g := (mkF m 39 #[rv w15] [(.ref w7), (.ref w15)])) X6 hx rfl rfl rfl (pc0 := 39) (pc' := 42) (same := false) rfl (hb hby d2_39) rfl (decide_eq_false fun q => (Fld.ne F_w15_ordinal F_w7_ordinal (by decide)) (Value.ref.inj q)) (by decide) (by decide) ?_
    show SF p e below T6 (mkF m 42 #[rv w15] []) _
    refine XS.aloadN X6.here hx rfl (hb hby d2_42) rfl rfl ?_
    show SF p e below T6 (mkF m 43 #[rv w15] [(.ref w15)]) _
    refine st7 _ ?_
    show SF p e below T7 (mkF m 46 #[rv w15] [(.ref w8), (.ref w15)]) _
    refine Jvm.RoadKit.acmp (g := (mkF m 46 #[rv w15] [(.ref w8), (.ref w15)])) X7 hx rfl rfl rfl (pc0 := 46) (pc' := 49) (same := false) rfl (hb hby d2_46) rfl (decide_eq_false fun q => (Fld.ne F_w15_ordinal F_w8_ordinal (by decide)) (Value.ref.inj q)) (by decide) (by decide) ?_
    show SF p e below T7 (mkF m 49 #[rv w15] []) _
    refine XS.aloadN X7.here hx rfl (hb hby d2_49) rfl rfl ?_
    show SF p e below T7 (mkF m 50 #[rv w15] [(.ref w15)]) _
    refine st8 _ ?_
    show SF p e below T8 (mkF m 53 #[rv w15] [(.ref w9), (.ref w15)]) _
    refine Jvm.RoadKit.acmp (g := (mkF m 53 #[rv w15] [(.ref w9), (.ref w15)])) X8 hx rfl rfl rfl (pc0 := 53) (pc' := 56) (same := false) rfl (hb hby d2_53) rfl (decide_eq_false fun q => (Fld.ne F_w15_ordinal F_w9_ordinal (by decide)) (Value.ref.inj q)) (by decide) (by decide) ?_
    show SF p e below T8 (mkF m 56 #[rv w15] []) _
    refine XS.aloadN X8.here hx rfl (hb hby d2_56) rfl rfl ?_
    show SF p e below T8 (mkF m 57 #[rv w15] [(.ref w15)]) _
    refine st9 _ ?_
    show SF p e below T9 (mkF m 60 #[rv w15] [(.ref w10), (.ref w15)]) _
    refine Jvm.RoadKit.acmp (g := (mkF m 60 #[rv w15] [(.ref w10), (.ref w15)])) X9 hx rfl rfl rfl (pc0 := 60) (pc' := 63) (same := false) rfl (hb hby d2_60) rfl (decide_eq_false fun q => (Fld.ne F_w15_ordinal F_w10_ordinal (by decide)) (Value.ref.inj q)) (by decide) (by decide) ?_
    show SF p e below T9 (mkF m 63 #[rv w15] []) _
    refine XS.aloadN X9.here hx rfl (hb hby d2_63) rfl rfl ?_
    show SF p e below T9 (mkF m 64 #[rv w15] [(.ref w15)]) _
    refine st10 _ ?_
    show SF p e below T10 (mkF m 67 #[rv w15] [(.ref w11), (.ref w15)]) _
    refine Jvm.RoadKit.acmp (g := (mkF m 67 #[rv w15] [(.ref w11), (.ref w15)])) X10 hx rfl rfl rfl (pc0 := 67) (pc' := 74) (same := false) rfl (hb hby d2_67) rfl (decide_eq_false fun q => (Fld.ne F_w15_ordinal F_w11_ordinal (by decide)) (Value.ref.inj q)) (by decide) (by decide) ?_
    show SF p e below T10 (mkF m 74 #[rv w15] []) _
    refine XS.iconst X10.here hx rfl (hb hby d2_74) ?_
    show SF p e below T10 (mkF m 75 #[rv w15] [(.int 0)]) _
    exact retN X10 hx (t := .boolean) Bd.returns (by simp) (hb hby d2_75) hr
  · show Q2_23 Z w15 w2 w3 w4 w5 w6 w7 w8 w9 w10 w11 h0 n0 _ T10.heap _
    rw [e10]
    exact ⟨rfl, N0, rfl⟩
-- XpathTokens$Kind.namesNext 
def Q3_24 (Z : State) (w15 : Addr) (w1 : Addr) (w13 : Addr) (w14 : Addr) (w12 : Addr) (w16 : Addr) (h0 : Heap) (n0 : Nat) (v : Option Value) (h : Heap) (L : List Loc) : Prop := v = some (.int 1) ∧ Fr n0 L ∧ h = h0
set_option maxRecDepth 65536 in
set_option maxHeartbeats 40000000 in
theorem rm3_24 (l : Launch) (Z : State) (a0 : Array Value) (hw : HW Z a0) (ws : List Jvm.Cond) (w15 : Addr) (w1 : Addr) (w13 : Addr) (w14 : Addr) (w12 : Addr) (w16 : Addr) (h0 : Heap) (n0 : Nat) (Z0 : n0 ≤ h0.size) (S0 : Sta Z Z.heap "com/example/edictum/edictum/io/XpathTokens$Kind" "AT" "Lcom/example/edictum/edictum/io/XpathTokens$Kind;" (.ref w1)) (P2 : Old Z n0 h0) (F_w15_ordinal : Fld Z Z.heap w15 "java/lang/Enum" "ordinal" "I" (.int 7)) (F_w1_ordinal : Fld Z Z.heap w1 "java/lang/Enum" "ordinal" "I" (.int 0)) (S24 : Sta Z Z.heap "com/example/edictum/edictum/io/XpathTokens$Kind" "AXIS_SEPARATOR" "Lcom/example/edictum/edictum/io/XpathTokens$Kind;" (.ref w13)) (F_w13_ordinal : Fld Z Z.heap w13 "java/lang/Enum" "ordinal" "I" (.int 1)) (S26 : Sta Z Z.heap "com/example/edictum/edictum/io/XpathTokens$Kind" "LEFT_PAREN" "Lcom/example/edictum/edictum/io/XpathTokens$Kind;" (.ref w14)) (F_w14_ordinal : Fld Z Z.heap w14 "java/lang/Enum" "ordinal" "I" (.int 2)) (S22 : Sta Z Z.heap "com/example/edictum/edictum/io/XpathTokens$Kind" "LEFT_BRACKET" "Lcom/example/edictum/edictum/io/XpathTokens$Kind;" (.ref w12)) (F_w12_ordinal : Fld Z Z.heap w12 "java/lang/Enum" "ordinal" "I" (.int 3)) (S30 : Sta Z Z.heap "com/example/edictum/edictum/io/XpathTokens$Kind" "COMMA" "Lcom/example/edictum/edictum/io/XpathTokens$Kind;" (.ref w16)) (F_w16_ordinal : Fld Z Z.heap w16 "java/lang/Enum" "ordinal" "I" (.int 4)) (S28 : Sta Z Z.heap "com/example/edictum/edictum/io/XpathTokens$Kind" "SLASH" "Lcom/example/edictum/edictum/io/XpathTokens$Kind;" (.ref w15)) :
    MF l Z (⟨"com/example/edictum/edictum/io/XpathTokens$Kind", "namesNext", "()Z"⟩ : MethodName) (Jvm.Cond.code (⟨"com/example/edictum/edictum/io/XpathTokens$Kind", "namesNext", "()Z"⟩ : MethodName) prog_251_method_4_code 1 (some .boolean)) ws ({ frames := 0, cells := 0, slots := 0, locals := 0 } : Room) #[(.ref w15)] h0 (Q3_24 Z w15 w1 w13 w14 w12 w16 h0 n0) := by
  refine MetFree.of_bodySF (plainFor_of_name pn_1) hisR ?_
  intro p e s m args below meth c s₁ Bd hml0 hP hK
  obtain ⟨rfl, hZ, hh⟩ := hP
  have hx := Bd.exec
  have hby := Bd.bytes
  have hml : c.maxLocals = 1 := hml0
  have hown : s.vm.findClass "com/example/edictum/edictum/io/XpathTokens$Kind" = some m.cls := findClass_of_methodNamed Bd.named
  have hnm := (name_of_methodNamed Bd.named Bd.method).1
  have X0 : Stand p l e ({ frames := 0, cells := 0, slots := 0, locals := 0 } : Room) s m #[(.ref w15)] below meth c s₁ [] 0 0 := Stand.of_body Bd
  have e0 : s₁.heap = h0 := by rw [← hh, Bd.state]; rfl
  have N0 := Fr.nil n0
  have pre0 : ∀ t, SF p e below s₁ (mkF m 0 #[rv w15] []) t → SF p e below s₁ (entryFrame m #[(.ref w15)] 1) t := fun t k => castTop (ef_2 m w15) k
  obtain ⟨T1, X1, e1, st1⟩ := getS2 X0 hx hZ hown (host := "") (Or.inl (tw hw 36 rfl)) Via.refl e0 (S0.ext P2.2) (g := (mkF m 1 #[rv w15] [(.ref w15)])) rfl (hb hby d3_1)
  obtain ⟨T2, X2, e2, st2⟩ := getS2 X1 hx hZ hown (host := "") (Or.inl (tw hw 39 rfl)) Via.refl e1 (S24.ext P2.2) (g := (mkF m 8 #[rv w15] [(.ref w15)])) rfl (hb hby d3_8)
  obtain ⟨T3, X3, e3, st3⟩ := getS2 X2 hx hZ hown (host := "") (Or.inl (tw hw 41 rfl)) Via.refl e2 (S26.ext P2.2) (g := (mkF m 15 #[rv w15] [(.ref w15)])) rfl (hb hby d3_15)
  obtain ⟨T4, X4, e4, st4⟩ := getS2 X3 hx hZ hown (host := "") (Or.inl (tw hw 43 rfl)) Via.refl e3 (S22.ext P2.2) (g := (mkF m 22 #[rv w15] [(.ref w15)])) rfl (hb hby d3_22)
  obtain ⟨T5, X5, e5, st5⟩ := getS2 X4 hx hZ hown (host := "") (Or.inl (tw hw 48 rfl)) Via.refl e4 (S30.ext P2.2) (g := (mkF m 29 #[rv w15] [(.ref w15)])) rfl (hb hby d3_29)
  obtain ⟨T6, X6, e6, st6⟩ := getS2 X5 hx hZ hown (host := "") (Or.inl (tw hw 50 rfl)) Via.refl e5 (S28.ext P2.2) (g := (mkF m 36 #[rv w15] [(.ref w15)])) rfl (hb hby d3_36)
  obtain ⟨fs, hr, hrun, hended, hW, hsame⟩ := X6.leave (v := some (.int 1)) (fun h => by rw [Bd.returns] at h; cases h)
  refine ⟨_, _, pre0 _ ?_, hrun, hended, _, _, rfl, ?_, ⟨_, rfl⟩, hW, hsame.mono (by decide) (by decide)⟩
  · show SF p e below s₁ (mkF m 0 #[rv w15] []) _
    refine XS.aloadN X0.here hx rfl (hb hby d3_0) rfl rfl ?_
    show SF p e below s₁ (mkF m 1 #[rv w15] [(.ref w15)]) _
    refine st1 _ ?_
    show SF p e below T1 (mkF m 4 #[rv w15] [(.ref w1), (.ref w15)]) _
    refine Jvm.RoadKit.acmp (g := (mkF m 4 #[rv w15] [(.ref w1), (.ref w15)])) X1 hx rfl rfl rfl (pc0 := 4) (pc' := 7) (same := false) rfl (hb hby d3_4) rfl (decide_eq_false fun q => (Fld.ne F_w15_ordinal F_w1_ordinal (by decide)) (Value.ref.inj q)) (by decide) (by decide) ?_
    show SF p e below T1 (mkF m 7 #[rv w15] []) _
    refine XS.aloadN X1.here hx rfl (hb hby d3_7) rfl rfl ?_
    show SF p e below T1 (mkF m 8 #[rv w15] [(.ref w15)]) _
    refine st2 _ ?_
    show SF p e below T2 (mkF m 11 #[rv w15] [(.ref w13), (.ref w15)]) _
    refine Jvm.RoadKit.acmp (g := (mkF m 11 #[rv w15] [(.ref w13), (.ref w15)])) X2 hx rfl rfl rfl (pc0 := 11) (pc' := 14) (same := false) rfl (hb hby d3_11) rfl (decide_eq_false fun q => (Fld.ne F_w15_ordinal F_w13_ordinal (by decide)) (Value.ref.inj q)) (by decide) (by decide) ?_
    show SF p e below T2 (mkF m 14 #[rv w15] []) _
    refine XS.aloadN X2.here hx rfl (hb hby d3_14) rfl rfl ?_
    show SF p e below T2 (mkF m 15 #[rv w15] [(.ref w15)]) _
    refine st3 _ ?_
    show SF p e below T3 (mkF m 18 #[rv w15] [(.ref w14), (.ref w15)]) _
    refine Jvm.RoadKit.acmp (g := (mkF m 18 #[rv w15] [(.ref w14), (.ref w15)])) X3 hx rfl rfl rfl (pc0 := 18) (pc' := 21) (same := false) rfl (hb hby d3_18) rfl (decide_eq_false fun q => (Fld.ne F_w15_ordinal F_w14_ordinal (by decide)) (Value.ref.inj q)) (by decide) (by decide) ?_
    show SF p e below T3 (mkF m 21 #[rv w15] []) _
    refine XS.aloadN X3.here hx rfl (hb hby d3_21) rfl rfl ?_
    show SF p e below T3 (mkF m 22 #[rv w15] [(.ref w15)]) _
    refine st4 _ ?_
    show SF p e below T4 (mkF m 25 #[rv w15] [(.ref w12), (.ref w15)]) _
    refine Jvm.RoadKit.acmp (g := (mkF m 25 #[rv w15] [(.ref w12), (.ref w15)])) X4 hx rfl rfl rfl (pc0 := 25) (pc' := 28) (same := false) rfl (hb hby d3_25) rfl (decide_eq_false fun q => (Fld.ne F_w15_ordinal F_w12_ordinal (by decide)) (Value.ref.inj q)) (by decide) (by decide) ?_
    show SF p e below T4 (mkF m 28 #[rv w15] []) _
    refine XS.aloadN X4.here hx rfl (hb hby d3_28) rfl rfl ?_
    show SF p e below T4 (mkF m 29 #[rv w15] [(.ref w15)]) _
    refine st5 _ ?_
    show SF p e below T5 (mkF m 32 #[rv w15] [(.ref w16), (.ref w15)]) _
    refine Jvm.RoadKit.acmp (g := (mkF m 32 #[rv w15] [(.ref w16), (.ref w15)])) X5 hx rfl rfl rfl (pc0 := 32) (pc' := 35) (same := false) rfl (hb hby d3_32) rfl (decide_eq_false fun q => (Fld.ne F_w15_ordinal F_w16_ordinal (by decide)) (Value.ref.inj q)) (by decide) (by decide) ?_
    show SF p e below T5 (mkF m 35 #[rv w15] []) _
    refine XS.aloadN X5.here hx rfl (hb hby d3_35) rfl rfl ?_
    show SF p e below T5 (mkF m 36 #[rv w15] [(.ref w15)]) _
    refine st6 _ ?_
    show SF p e below T6 (mkF m 39 #[rv w15] [(.ref w15), (.ref w15)]) _
    refine Jvm.RoadKit.acmp (g := (mkF m 39 #[rv w15] [(.ref w15), (.ref w15)])) X6 hx rfl rfl rfl (pc0 := 39) (pc' := 56) (same := true) rfl (hb hby d3_39) rfl (decide_eq_true rfl) (by decide) (by decide) ?_
    show SF p e below T6 (mkF m 56 #[rv w15] []) _
    refine XS.iconst X6.here hx rfl (hb hby d3_56) ?_
    show SF p e below T6 (mkF m 57 #[rv w15] [(.int 1)]) _
    refine XS.goto X6.here hx rfl (pc0 := 57) (pc' := 61) rfl (hb hby d3_57) (by decide) (by decide) ?_
    show SF p e below T6 (mkF m 61 #[rv w15] [(.int 1)]) _
    exact retN X6 hx (t := .boolean) Bd.returns (by simp) (hb hby d3_61) hr
  · show Q3_24 Z w15 w1 w13 w14 w12 w16 h0 n0 _ T6.heap _
    rw [e6]
    exact ⟨rfl, N0, rfl⟩
theorem d1_73 : decode method_2_code 73 = .ok (.iload_n 0, 1) := by decide +kernel
theorem d1_74 : decode method_2_code 74 = .ok (.bipush 8, 2) := by decide +kernel
theorem d1_76 : decode method_2_code 76 = .ok (.if_icmp .ne 7, 3) := by decide +kernel
theorem d1_79 : decode method_2_code 79 = .ok (.getstatic 34, 3) := by decide +kernel
theorem d1_82 : decode method_2_code 82 = .ok (.areturn, 1) := by decide +kernel
-- XpathTokensNamesNextPinLaw.kindOf 
def Q1_25 (Z : State) (w17 : Addr) (h0 : Heap) (n0 : Nat) (v : Option Value) (h : Heap) (L : List Loc) : Prop := v = some (.ref w17) ∧ Fr n0 L ∧ h = h0
set_option maxRecDepth 65536 in
set_option maxHeartbeats 40000000 in
theorem rm1_25 (l : Launch) (Z : State) (a0 : Array Value) (hw : HW Z a0) (ws : List Jvm.Cond) (w17 : Addr) (h0 : Heap) (n0 : Nat) (Z0 : n0 ≤ h0.size) (S32 : Sta Z Z.heap "com/example/edictum/edictum/io/XpathTokens$Kind" "DOUBLE_SLASH" "Lcom/example/edictum/edictum/io/XpathTokens$Kind;" (.ref w17)) (P2 : Old Z n0 h0) :
    MF l Z (⟨"com/example/edictum/edictum/io/XpathTokensNamesNextPinLaw", "kindOf", "(I)Lcom/example/edictum/edictum/io/XpathTokens$Kind;"⟩ : MethodName) (Jvm.Cond.code (⟨"com/example/edictum/edictum/io/XpathTokensNamesNextPinLaw", "kindOf", "(I)Lcom/example/edictum/edictum/io/XpathTokens$Kind;"⟩ : MethodName) method_2_code 1 (some (.object "com/example/edictum/edictum/io/XpathTokens$Kind"))) ws ({ frames := 0, cells := 0, slots := 0, locals := 0 } : Room) #[(.int 8)] h0 (Q1_25 Z w17 h0 n0) := by
  refine MetFree.of_bodySF (plainFor_of_name pn_0) hisR ?_
  intro p e s m args below meth c s₁ Bd hml0 hP hK
  obtain ⟨rfl, hZ, hh⟩ := hP
  have hx := Bd.exec
  have hby := Bd.bytes
  have hml : c.maxLocals = 1 := hml0
  have hown : s.vm.findClass "com/example/edictum/edictum/io/XpathTokensNamesNextPinLaw" = some m.cls := findClass_of_methodNamed Bd.named
  have hnm := (name_of_methodNamed Bd.named Bd.method).1
  have X0 : Stand p l e ({ frames := 0, cells := 0, slots := 0, locals := 0 } : Room) s m #[(.int 8)] below meth c s₁ [] 0 0 := Stand.of_body Bd
  have e0 : s₁.heap = h0 := by rw [← hh, Bd.state]; rfl
  have N0 := Fr.nil n0
  have pre0 : ∀ t, SF p e below s₁ (mkF m 0 #[iv 8] []) t → SF p e below s₁ (entryFrame m #[(.int 8)] 1) t := fun t k => castTop (ef_0 m (8 : Int32)) k
  obtain ⟨T1, X1, e1, st1⟩ := getS2 X0 hx hZ hown (host := "") (Or.inl (tw hw 56 rfl)) Via.refl e0 (S32.ext P2.2) (g := (mkF m 79 #[iv 8] [])) rfl (hb hby d1_79)
  obtain ⟨fs, hr, hrun, hended, hW, hsame⟩ := X1.leave (v := some (.ref w17)) (fun h => by rw [Bd.returns] at h; cases h)
  refine ⟨_, _, pre0 _ ?_, hrun, hended, _, _, rfl, ?_, ⟨_, rfl⟩, hW, hsame.mono (by decide) (by decide)⟩
  · show SF p e below s₁ (mkF m 0 #[iv 8] []) _
    refine XS.iloadN X0.here hx rfl (hb hby d1_0) rfl ?_
    show SF p e below s₁ (mkF m 1 #[iv 8] [(.int 8)]) _
    refine XS.ifYes X0.here hx rfl (pc0 := 1) (pc' := 8) rfl (hb hby d1_1) rfl ((if0 _ _).trans (feq (by decide : ¬ ((8 : Int32) = (0 : Int32)))).2) (by decide) (by decide) ?_
    show SF p e below s₁ (mkF m 8 #[iv 8] []) _
    refine XS.iloadN X0.here hx rfl (hb hby d1_8) rfl ?_
    show SF p e below s₁ (mkF m 9 #[iv 8] [(.int 8)]) _
    refine XS.iconst X0.here hx rfl (hb hby d1_9) ?_
    show SF p e below s₁ (mkF m 10 #[iv 8] [(.int 1), (.int 8)]) _
    refine XS.icmpYes X0.here hx rfl (pc0 := 10) (pc' := 17) rfl (hb hby d1_10) rfl (feq (by decide : ¬ ((8 : Int32) = (1 : Int32)))).2 (by decide) (by decide) ?_
    show SF p e below s₁ (mkF m 17 #[iv 8] []) _
    refine XS.iloadN X0.here hx rfl (hb hby d1_17) rfl ?_
    show SF p e below s₁ (mkF m 18 #[iv 8] [(.int 8)]) _
    refine XS.iconst X0.here hx rfl (hb hby d1_18) ?_
    show SF p e below s₁ (mkF m 19 #[iv 8] [(.int 2), (.int 8)]) _
    refine XS.icmpYes X0.here hx rfl (pc0 := 19) (pc' := 26) rfl (hb hby d1_19) rfl (feq (by decide : ¬ ((8 : Int32) = (2 : Int32)))).2 (by decide) (by decide) ?_
    show SF p e below s₁ (mkF m 26 #[iv 8] []) _
    refine XS.iloadN X0.here hx rfl (hb hby d1_26) rfl ?_
    show SF p e below s₁ (mkF m 27 #[iv 8] [(.int 8)]) _
    refine XS.iconst X0.here hx rfl (hb hby d1_27) ?_
    show SF p e below s₁ (mkF m 28 #[iv 8] [(.int 3), (.int 8)]) _
    refine XS.icmpYes X0.here hx rfl (pc0 := 28) (pc' := 35) rfl (hb hby d1_28) rfl (feq (by decide : ¬ ((8 : Int32) = (3 : Int32)))).2 (by decide) (by decide) ?_
    show SF p e below s₁ (mkF m 35 #[iv 8] []) _
    refine XS.iloadN X0.here hx rfl (hb hby d1_35) rfl ?_
    show SF p e below s₁ (mkF m 36 #[iv 8] [(.int 8)]) _
    refine XS.iconst X0.here hx rfl (hb hby d1_36) ?_
    show SF p e below s₁ (mkF m 37 #[iv 8] [(.int 4), (.int 8)]) _
    refine XS.icmpYes X0.here hx rfl (pc0 := 37) (pc' := 44) rfl (hb hby d1_37) rfl (feq (by decide : ¬ ((8 : Int32) = (4 : Int32)))).2 (by decide) (by decide) ?_
    show SF p e below s₁ (mkF m 44 #[iv 8] []) _
    refine XS.iloadN X0.here hx rfl (hb hby d1_44) rfl ?_
    show SF p e below s₁ (mkF m 45 #[iv 8] [(.int 8)]) _
    refine XS.iconst X0.here hx rfl (hb hby d1_45) ?_
    show SF p e below s₁ (mkF m 46 #[iv 8] [(.int 5), (.int 8)]) _
    refine XS.icmpYes X0.here hx rfl (pc0 := 46) (pc' := 53) rfl (hb hby d1_46) rfl (feq (by decide : ¬ ((8 : Int32) = (5 : Int32)))).2 (by decide) (by decide) ?_
    show SF p e below s₁ (mkF m 53 #[iv 8] []) _
    refine XS.iloadN X0.here hx rfl (hb hby d1_53) rfl ?_
    show SF p e below s₁ (mkF m 54 #[iv 8] [(.int 8)]) _
    refine XS.bipush X0.here hx rfl (hb hby d1_54) ?_
    show SF p e below s₁ (mkF m 56 #[iv 8] [(.int 6), (.int 8)]) _
    refine XS.icmpYes X0.here hx rfl (pc0 := 56) (pc' := 63) rfl (hb hby d1_56) rfl (feq (by decide : ¬ ((8 : Int32) = (6 : Int32)))).2 (by decide) (by decide) ?_
    show SF p e below s₁ (mkF m 63 #[iv 8] []) _
    refine XS.iloadN X0.here hx rfl (hb hby d1_63) rfl ?_
    show SF p e below s₁ (mkF m 64 #[iv 8] [(.int 8)]) _
    refine XS.bipush X0.here hx rfl (hb hby d1_64) ?_
    show SF p e below s₁ (mkF m 66 #[iv 8] [(.int 7), (.int 8)]) _
    refine XS.icmpYes X0.here hx rfl (pc0 := 66) (pc' := 73) rfl (hb hby d1_66) rfl (feq (by decide : ¬ ((8 : Int32) = (7 : Int32)))).2 (by decide) (by decide) ?_
    show SF p e below s₁ (mkF m 73 #[iv 8] []) _
    refine XS.iloadN X0.here hx rfl (hb hby d1_73) rfl ?_
    show SF p e below s₁ (mkF m 74 #[iv 8] [(.int 8)]) _
    refine XS.bipush X0.here hx rfl (hb hby d1_74) ?_
    show SF p e below s₁ (mkF m 76 #[iv 8] [(.int 8), (.int 8)]) _
    refine XS.icmpNo X0.here hx rfl (hb hby d1_76) rfl (teq (by decide : (8 : Int32) = (8 : Int32))).2 ?_
    show SF p e below s₁ (mkF m 79 #[iv 8] []) _
    refine st1 _ ?_
    show SF p e below T1 (mkF m 82 #[iv 8] [(.ref w17)]) _
    exact own_retR X1 hx Bd.returns rfl rfl (hb hby d1_82) hr
  · show Q1_25 Z w17 h0 n0 _ T1.heap _
    rw [e1]
    exact ⟨rfl, N0, rfl⟩
-- XpathTokensNamesNextPinLaw.endsOperand 
def Q2_26 (Z : State) (w17 : Addr) (w2 : Addr) (w3 : Addr) (w4 : Addr) (w5 : Addr) (w6 : Addr) (w7 : Addr) (w8 : Addr) (w9 : Addr) (w10 : Addr) (w11 : Addr) (h0 : Heap) (n0 : Nat) (v : Option Value) (h : Heap) (L : List Loc) : Prop := v = some (.int 0) ∧ Fr n0 L ∧ h = h0
set_option maxRecDepth 65536 in
set_option maxHeartbeats 40000000 in
theorem rm2_26 (l : Launch) (Z : State) (a0 : Array Value) (hw : HW Z a0) (ws : List Jvm.Cond) (w17 : Addr) (w2 : Addr) (w3 : Addr) (w4 : Addr) (w5 : Addr) (w6 : Addr) (w7 : Addr) (w8 : Addr) (w9 : Addr) (w10 : Addr) (w11 : Addr) (h0 : Heap) (n0 : Nat) (Z0 : n0 ≤ h0.size) (S2 : Sta Z Z.heap "com/example/edictum/edictum/io/XpathTokens$Kind" "RIGHT_PAREN" "Lcom/example/edictum/edictum/io/XpathTokens$Kind;" (.ref w2)) (P2 : Old Z n0 h0) (F_w17_ordinal : Fld Z Z.heap w17 "java/lang/Enum" "ordinal" "I" (.int 8)) (F_w2_ordinal : Fld Z Z.heap w2 "java/lang/Enum" "ordinal" "I" (.int 5)) (S4 : Sta Z Z.heap "com/example/edictum/edictum/io/XpathTokens$Kind" "RIGHT_BRACKET" "Lcom/example/edictum/edictum/io/XpathTokens$Kind;" (.ref w3)) (F_w3_ordinal : Fld Z Z.heap w3 "java/lang/Enum" "ordinal" "I" (.int 6)) (S6 : Sta Z Z.heap "com/example/edictum/edictum/io/XpathTokens$Kind" "AXIS" "Lcom/example/edictum/edictum/io/XpathTokens$Kind;" (.ref w4)) (F_w4_ordinal : Fld Z Z.heap w4 "java/lang/Enum" "ordinal" "I" (.int 10)) (S8 : Sta Z Z.heap "com/example/edictum/edictum/io/XpathTokens$Kind" "FUNCTION" "Lcom/example/edictum/edictum/io/XpathTokens$Kind;" (.ref w5)) (F_w5_ordinal : Fld Z Z.heap w5 "java/lang/Enum" "ordinal" "I" (.int 11)) (S10 : Sta Z Z.heap "com/example/edictum/edictum/io/XpathTokens$Kind" "NODE_TYPE" "Lcom/example/edictum/edictum/io/XpathTokens$Kind;" (.ref w6)) (F_w6_ordinal : Fld Z Z.heap w6 "java/lang/Enum" "ordinal" "I" (.int 12)) (S12 : Sta Z Z.heap "com/example/edictum/edictum/io/XpathTokens$Kind" "NAME_TEST" "Lcom/example/edictum/edictum/io/XpathTokens$Kind;" (.ref w7)) (F_w7_ordinal : Fld Z Z.heap w7 "java/lang/Enum" "ordinal" "I" (.int 13)) (S14 : Sta Z Z.heap "com/example/edictum/edictum/io/XpathTokens$Kind" "DOT" "Lcom/example/edictum/edictum/io/XpathTokens$Kind;" (.ref w8)) (F_w8_ordinal : Fld Z Z.heap w8 "java/lang/Enum" "ordinal" "I" (.int 14)) (S16 : Sta Z Z.heap "com/example/edictum/edictum/io/XpathTokens$Kind" "DOT_DOT" "Lcom/example/edictum/edictum/io/XpathTokens$Kind;" (.ref w9)) (F_w9_ordinal : Fld Z Z.heap w9 "java/lang/Enum" "ordinal" "I" (.int 15)) (S18 : Sta Z Z.heap "com/example/edictum/edictum/io/XpathTokens$Kind" "LITERAL" "Lcom/example/edictum/edictum/io/XpathTokens$Kind;" (.ref w10)) (F_w10_ordinal : Fld Z Z.heap w10 "java/lang/Enum" "ordinal" "I" (.int 16)) (S20 : Sta Z Z.heap "com/example/edictum/edictum/io/XpathTokens$Kind" "NUMBER" "Lcom/example/edictum/edictum/io/XpathTokens$Kind;" (.ref w11)) (F_w11_ordinal : Fld Z Z.heap w11 "java/lang/Enum" "ordinal" "I" (.int 17)) :
    MF l Z (⟨"com/example/edictum/edictum/io/XpathTokensNamesNextPinLaw", "endsOperand", "(Lcom/example/edictum/edictum/io/XpathTokens$Kind;)Z"⟩ : MethodName) (Jvm.Cond.code (⟨"com/example/edictum/edictum/io/XpathTokensNamesNextPinLaw", "endsOperand", "(Lcom/example/edictum/edictum/io/XpathTokens$Kind;)Z"⟩ : MethodName) method_3_code 1 (some .boolean)) ws ({ frames := 0, cells := 0, slots := 0, locals := 0 } : Room) #[(.ref w17)] h0 (Q2_26 Z w17 w2 w3 w4 w5 w6 w7 w8 w9 w10 w11 h0 n0) := by
  refine MetFree.of_bodySF (plainFor_of_name pn_0) hisR ?_
  intro p e s m args below meth c s₁ Bd hml0 hP hK
  obtain ⟨rfl, hZ, hh⟩ := hP
  have hx := Bd.exec
  have hby := Bd.bytes
  have hml : c.maxLocals = 1 := hml0
  have hown : s.vm.findClass "com/example/edictum/edictum/io/XpathTokensNamesNextPinLaw" = some m.cls := findClass_of_methodNamed Bd.named
  have hnm := (name_of_methodNamed Bd.named Bd.method).1
  have X0 : Stand p l e ({ frames := 0, cells := 0, slots := 0, locals := 0 } : Room) s m #[(.ref w17)] below meth c s₁ [] 0 0 := Stand.of_body Bd
  have e0 : s₁.heap = h0 := by rw [← hh, Bd.state]; rfl
  have N0 := Fr.nil n0
  have pre0 : ∀ t, SF p e below s₁ (mkF m 0 #[rv w17] []) t → SF p e below s₁ (entryFrame m #[(.ref w17)] 1) t := fun t k => castTop (ef_1 m w17) k
  obtain ⟨T1, X1, e1, st1⟩ := getS2 X0 hx hZ hown (host := "") (Or.inl (tw hw 11 rfl)) Via.refl e0 (S2.ext P2.2) (g := (mkF m 1 #[rv w17] [(.ref w17)])) rfl (hb hby d2_1)
  obtain ⟨T2, X2, e2, st2⟩ := getS2 X1 hx hZ hown (host := "") (Or.inl (tw hw 13 rfl)) Via.refl e1 (S4.ext P2.2) (g := (mkF m 8 #[rv w17] [(.ref w17)])) rfl (hb hby d2_8)
  obtain ⟨T3, X3, e3, st3⟩ := getS2 X2 hx hZ hown (host := "") (Or.inl (tw hw 15 rfl)) Via.refl e2 (S6.ext P2.2) (g := (mkF m 15 #[rv w17] [(.ref w17)])) rfl (hb hby d2_15)
  obtain ⟨T4, X4, e4, st4⟩ := getS2 X3 hx hZ hown (host := "") (Or.inl (tw hw 17 rfl)) Via.refl e3 (S8.ext P2.2) (g := (mkF m 22 #[rv w17] [(.ref w17)])) rfl (hb hby d2_22)
  obtain ⟨T5, X5, e5, st5⟩ := getS2 X4 hx hZ hown (host := "") (Or.inl (tw hw 19 rfl)) Via.refl e4 (S10.ext P2.2) (g := (mkF m 29 #[rv w17] [(.ref w17)])) rfl (hb hby d2_29)
  obtain ⟨T6, X6, e6, st6⟩ := getS2 X5 hx hZ hown (host := "") (Or.inl (tw hw 21 rfl)) Via.refl e5 (S12.ext P2.2) (g := (mkF m 36 #[rv w17] [(.ref w17)])) rfl (hb hby d2_36)
  obtain ⟨T7, X7, e7, st7⟩ := getS2 X6 hx hZ hown (host := "") (Or.inl (tw hw 23 rfl)) Via.refl e6 (S14.ext P2.2) (g := (mkF m 43 #[rv w17] [(.ref w17)])) rfl (hb hby d2_43)
  obtain ⟨T8, X8, e8, st8⟩ := getS2 X7 hx hZ hown (host := "") (Or.inl (tw hw 25 rfl)) Via.refl e7 (S16.ext P2.2) (g := (mkF m 50 #[rv w17] [(.ref w17)])) rfl (hb hby d2_50)
  obtain ⟨T9, X9, e9, st9⟩ := getS2 X8 hx hZ hown (host := "") (Or.inl (tw hw 27 rfl)) Via.refl e8 (S18.ext P2.2) (g := (mkF m 57 #[rv w17] [(.ref w17)])) rfl (hb hby d2_57)
  obtain ⟨T10, X10, e10, st10⟩ := getS2 X9 hx hZ hown (host := "") (Or.inl (tw hw 29 rfl)) Via.refl e9 (S20.ext P2.2) (g := (mkF m 64 #[rv w17] [(.ref w17)])) rfl (hb hby d2_64)
  obtain ⟨fs, hr, hrun, hended, hW, hsame⟩ := X10.leave (v := some (.int 0)) (fun h => by rw [Bd.returns] at h; cases h)
  refine ⟨_, _, pre0 _ ?_, hrun, hended, _, _, rfl, ?_, ⟨_, rfl⟩, hW, hsame.mono (by decide) (by decide)⟩
  · show SF p e below s₁ (mkF m 0 #[rv w17] []) _
    refine XS.aloadN X0.here hx rfl (hb hby d2_0) rfl rfl ?_
    show SF p e below s₁ (mkF m 1 #[rv w17] [(.ref w17)]) _
    refine st1 _ ?_
    show SF p e below T1 (mkF m 4 #[rv w17] [(.ref w2), (.ref w17)]) _
    refine Jvm.RoadKit.acmp (g := (mkF m 4 #[rv w17] [(.ref w2), (.ref w17)])) X1 hx rfl rfl rfl (pc0 := 4) (pc' := 7) (same := false) rfl (hb hby d2_4) rfl (decide_eq_false fun q => (Fld.ne F_w17_ordinal F_w2_ordinal (by decide)) (Value.ref.inj q)) (by decide) (by decide) ?_
    show SF p e below T1 (mkF m 7 #[rv w17] []) _
    refine XS.aloadN X1.here hx rfl (hb hby d2_7) rfl rfl ?_
    show SF p e below T1 (mkF m 8 #[rv w17] [(.ref w17)]) _
    refine st2 _ ?_
    show SF p e below T2 (mkF m 11 #[rv w17] [(.ref w3), (.ref w17)]) _
    refine Jvm.RoadKit.acmp (g := (mkF m 11 #[rv w17] [(.ref w3), (.ref w17)])) X2 hx rfl rfl rfl (pc0 := 11) (pc' := 14) (same := false) rfl (hb hby d2_11) rfl (decide_eq_false fun q => (Fld.ne F_w17_ordinal F_w3_ordinal (by decide)) (Value.ref.inj q)) (by decide) (by decide) ?_
    show SF p e below T2 (mkF m 14 #[rv w17] []) _
    refine XS.aloadN X2.here hx rfl (hb hby d2_14) rfl rfl ?_
    show SF p e below T2 (mkF m 15 #[rv w17] [(.ref w17)]) _
    refine st3 _ ?_
    show SF p e below T3 (mkF m 18 #[rv w17] [(.ref w4), (.ref w17)]) _
    refine Jvm.RoadKit.acmp (g := (mkF m 18 #[rv w17] [(.ref w4), (.ref w17)])) X3 hx rfl rfl rfl (pc0 := 18) (pc' := 21) (same := false) rfl (hb hby d2_18) rfl (decide_eq_false fun q => (Fld.ne F_w17_ordinal F_w4_ordinal (by decide)) (Value.ref.inj q)) (by decide) (by decide) ?_
    show SF p e below T3 (mkF m 21 #[rv w17] []) _
    refine XS.aloadN X3.here hx rfl (hb hby d2_21) rfl rfl ?_
    show SF p e below T3 (mkF m 22 #[rv w17] [(.ref w17)]) _
    refine st4 _ ?_
    show SF p e below T4 (mkF m 25 #[rv w17] [(.ref w5), (.ref w17)]) _
    refine Jvm.RoadKit.acmp (g := (mkF m 25 #[rv w17] [(.ref w5), (.ref w17)])) X4 hx rfl rfl rfl (pc0 := 25) (pc' := 28) (same := false) rfl (hb hby d2_25) rfl (decide_eq_false fun q => (Fld.ne F_w17_ordinal F_w5_ordinal (by decide)) (Value.ref.inj q)) (by decide) (by decide) ?_
    show SF p e below T4 (mkF m 28 #[rv w17] []) _
    refine XS.aloadN X4.here hx rfl (hb hby d2_28) rfl rfl ?_
    show SF p e below T4 (mkF m 29 #[rv w17] [(.ref w17)]) _
    refine st5 _ ?_
    show SF p e below T5 (mkF m 32 #[rv w17] [(.ref w6), (.ref w17)]) _
    refine Jvm.RoadKit.acmp (g := (mkF m 32 #[rv w17] [(.ref w6), (.ref w17)])) X5 hx rfl rfl rfl (pc0 := 32) (pc' := 35) (same := false) rfl (hb hby d2_32) rfl (decide_eq_false fun q => (Fld.ne F_w17_ordinal F_w6_ordinal (by decide)) (Value.ref.inj q)) (by decide) (by decide) ?_
    show SF p e below T5 (mkF m 35 #[rv w17] []) _
    refine XS.aloadN X5.here hx rfl (hb hby d2_35) rfl rfl ?_
    show SF p e below T5 (mkF m 36 #[rv w17] [(.ref w17)]) _
    refine st6 _ ?_
    show SF p e below T6 (mkF m 39 #[rv w17] [(.ref w7), (.ref w17)]) _
    refine Jvm.RoadKit.acmp (g := (mkF m 39 #[rv w17] [(.ref w7), (.ref w17)])) X6 hx rfl rfl rfl (pc0 := 39) (pc' := 42) (same := false) rfl (hb hby d2_39) rfl (decide_eq_false fun q => (Fld.ne F_w17_ordinal F_w7_ordinal (by decide)) (Value.ref.inj q)) (by decide) (by decide) ?_
    show SF p e below T6 (mkF m 42 #[rv w17] []) _
    refine XS.aloadN X6.here hx rfl (hb hby d2_42) rfl rfl ?_
    show SF p e below T6 (mkF m 43 #[rv w17] [(.ref w17)]) _
    refine st7 _ ?_
    show SF p e below T7 (mkF m 46 #[rv w17] [(.ref w8), (.ref w17)]) _
    refine Jvm.RoadKit.acmp (g := (mkF m 46 #[rv w17] [(.ref w8), (.ref w17)])) X7 hx rfl rfl rfl (pc0 := 46) (pc' := 49) (same := false) rfl (hb hby d2_46) rfl (decide_eq_false fun q => (Fld.ne F_w17_ordinal F_w8_ordinal (by decide)) (Value.ref.inj q)) (by decide) (by decide) ?_
    show SF p e below T7 (mkF m 49 #[rv w17] []) _
    refine XS.aloadN X7.here hx rfl (hb hby d2_49) rfl rfl ?_
    show SF p e below T7 (mkF m 50 #[rv w17] [(.ref w17)]) _
    refine st8 _ ?_
    show SF p e below T8 (mkF m 53 #[rv w17] [(.ref w9), (.ref w17)]) _
    refine Jvm.RoadKit.acmp (g := (mkF m 53 #[rv w17] [(.ref w9), (.ref w17)])) X8 hx rfl rfl rfl (pc0 := 53) (pc' := 56) (same := false) rfl (hb hby d2_53) rfl (decide_eq_false fun q => (Fld.ne F_w17_ordinal F_w9_ordinal (by decide)) (Value.ref.inj q)) (by decide) (by decide) ?_
    show SF p e below T8 (mkF m 56 #[rv w17] []) _
    refine XS.aloadN X8.here hx rfl (hb hby d2_56) rfl rfl ?_
    show SF p e below T8 (mkF m 57 #[rv w17] [(.ref w17)]) _
    refine st9 _ ?_
    show SF p e below T9 (mkF m 60 #[rv w17] [(.ref w10), (.ref w17)]) _
    refine Jvm.RoadKit.acmp (g := (mkF m 60 #[rv w17] [(.ref w10), (.ref w17)])) X9 hx rfl rfl rfl (pc0 := 60) (pc' := 63) (same := false) rfl (hb hby d2_60) rfl (decide_eq_false fun q => (Fld.ne F_w17_ordinal F_w10_ordinal (by decide)) (Value.ref.inj q)) (by decide) (by decide) ?_
    show SF p e below T9 (mkF m 63 #[rv w17] []) _
    refine XS.aloadN X9.here hx rfl (hb hby d2_63) rfl rfl ?_
    show SF p e below T9 (mkF m 64 #[rv w17] [(.ref w17)]) _
    refine st10 _ ?_
    show SF p e below T10 (mkF m 67 #[rv w17] [(.ref w11), (.ref w17)]) _
    refine Jvm.RoadKit.acmp (g := (mkF m 67 #[rv w17] [(.ref w11), (.ref w17)])) X10 hx rfl rfl rfl (pc0 := 67) (pc' := 74) (same := false) rfl (hb hby d2_67) rfl (decide_eq_false fun q => (Fld.ne F_w17_ordinal F_w11_ordinal (by decide)) (Value.ref.inj q)) (by decide) (by decide) ?_
    show SF p e below T10 (mkF m 74 #[rv w17] []) _
    refine XS.iconst X10.here hx rfl (hb hby d2_74) ?_
    show SF p e below T10 (mkF m 75 #[rv w17] [(.int 0)]) _
    exact retN X10 hx (t := .boolean) Bd.returns (by simp) (hb hby d2_75) hr
  · show Q2_26 Z w17 w2 w3 w4 w5 w6 w7 w8 w9 w10 w11 h0 n0 _ T10.heap _
    rw [e10]
    exact ⟨rfl, N0, rfl⟩
-- XpathTokens$Kind.namesNext 
def Q3_27 (Z : State) (w17 : Addr) (w1 : Addr) (w13 : Addr) (w14 : Addr) (w12 : Addr) (w16 : Addr) (w15 : Addr) (h0 : Heap) (n0 : Nat) (v : Option Value) (h : Heap) (L : List Loc) : Prop := v = some (.int 1) ∧ Fr n0 L ∧ h = h0
set_option maxRecDepth 65536 in
set_option maxHeartbeats 40000000 in
theorem rm3_27 (l : Launch) (Z : State) (a0 : Array Value) (hw : HW Z a0) (ws : List Jvm.Cond) (w17 : Addr) (w1 : Addr) (w13 : Addr) (w14 : Addr) (w12 : Addr) (w16 : Addr) (w15 : Addr) (h0 : Heap) (n0 : Nat) (Z0 : n0 ≤ h0.size) (S0 : Sta Z Z.heap "com/example/edictum/edictum/io/XpathTokens$Kind" "AT" "Lcom/example/edictum/edictum/io/XpathTokens$Kind;" (.ref w1)) (P2 : Old Z n0 h0) (F_w17_ordinal : Fld Z Z.heap w17 "java/lang/Enum" "ordinal" "I" (.int 8)) (F_w1_ordinal : Fld Z Z.heap w1 "java/lang/Enum" "ordinal" "I" (.int 0)) (S24 : Sta Z Z.heap "com/example/edictum/edictum/io/XpathTokens$Kind" "AXIS_SEPARATOR" "Lcom/example/edictum/edictum/io/XpathTokens$Kind;" (.ref w13)) (F_w13_ordinal : Fld Z Z.heap w13 "java/lang/Enum" "ordinal" "I" (.int 1)) (S26 : Sta Z Z.heap "com/example/edictum/edictum/io/XpathTokens$Kind" "LEFT_PAREN" "Lcom/example/edictum/edictum/io/XpathTokens$Kind;" (.ref w14)) (F_w14_ordinal : Fld Z Z.heap w14 "java/lang/Enum" "ordinal" "I" (.int 2)) (S22 : Sta Z Z.heap "com/example/edictum/edictum/io/XpathTokens$Kind" "LEFT_BRACKET" "Lcom/example/edictum/edictum/io/XpathTokens$Kind;" (.ref w12)) (F_w12_ordinal : Fld Z Z.heap w12 "java/lang/Enum" "ordinal" "I" (.int 3)) (S30 : Sta Z Z.heap "com/example/edictum/edictum/io/XpathTokens$Kind" "COMMA" "Lcom/example/edictum/edictum/io/XpathTokens$Kind;" (.ref w16)) (F_w16_ordinal : Fld Z Z.heap w16 "java/lang/Enum" "ordinal" "I" (.int 4)) (S28 : Sta Z Z.heap "com/example/edictum/edictum/io/XpathTokens$Kind" "SLASH" "Lcom/example/edictum/edictum/io/XpathTokens$Kind;" (.ref w15)) (F_w15_ordinal : Fld Z Z.heap w15 "java/lang/Enum" "ordinal" "I" (.int 7)) (S32 : Sta Z Z.heap "com/example/edictum/edictum/io/XpathTokens$Kind" "DOUBLE_SLASH" "Lcom/example/edictum/edictum/io/XpathTokens$Kind;" (.ref w17)) :
    MF l Z (⟨"com/example/edictum/edictum/io/XpathTokens$Kind", "namesNext", "()Z"⟩ : MethodName) (Jvm.Cond.code (⟨"com/example/edictum/edictum/io/XpathTokens$Kind", "namesNext", "()Z"⟩ : MethodName) prog_251_method_4_code 1 (some .boolean)) ws ({ frames := 0, cells := 0, slots := 0, locals := 0 } : Room) #[(.ref w17)] h0 (Q3_27 Z w17 w1 w13 w14 w12 w16 w15 h0 n0) := by
  refine MetFree.of_bodySF (plainFor_of_name pn_1) hisR ?_
  intro p e s m args below meth c s₁ Bd hml0 hP hK
  obtain ⟨rfl, hZ, hh⟩ := hP
  have hx := Bd.exec
  have hby := Bd.bytes
  have hml : c.maxLocals = 1 := hml0
  have hown : s.vm.findClass "com/example/edictum/edictum/io/XpathTokens$Kind" = some m.cls := findClass_of_methodNamed Bd.named
  have hnm := (name_of_methodNamed Bd.named Bd.method).1
  have X0 : Stand p l e ({ frames := 0, cells := 0, slots := 0, locals := 0 } : Room) s m #[(.ref w17)] below meth c s₁ [] 0 0 := Stand.of_body Bd
  have e0 : s₁.heap = h0 := by rw [← hh, Bd.state]; rfl
  have N0 := Fr.nil n0
  have pre0 : ∀ t, SF p e below s₁ (mkF m 0 #[rv w17] []) t → SF p e below s₁ (entryFrame m #[(.ref w17)] 1) t := fun t k => castTop (ef_2 m w17) k
  obtain ⟨T1, X1, e1, st1⟩ := getS2 X0 hx hZ hown (host := "") (Or.inl (tw hw 36 rfl)) Via.refl e0 (S0.ext P2.2) (g := (mkF m 1 #[rv w17] [(.ref w17)])) rfl (hb hby d3_1)
  obtain ⟨T2, X2, e2, st2⟩ := getS2 X1 hx hZ hown (host := "") (Or.inl (tw hw 39 rfl)) Via.refl e1 (S24.ext P2.2) (g := (mkF m 8 #[rv w17] [(.ref w17)])) rfl (hb hby d3_8)
  obtain ⟨T3, X3, e3, st3⟩ := getS2 X2 hx hZ hown (host := "") (Or.inl (tw hw 41 rfl)) Via.refl e2 (S26.ext P2.2) (g := (mkF m 15 #[rv w17] [(.ref w17)])) rfl (hb hby d3_15)
  obtain ⟨T4, X4, e4, st4⟩ := getS2 X3 hx hZ hown (host := "") (Or.inl (tw hw 43 rfl)) Via.refl e3 (S22.ext P2.2) (g := (mkF m 22 #[rv w17] [(.ref w17)])) rfl (hb hby d3_22)
  obtain ⟨T5, X5, e5, st5⟩ := getS2 X4 hx hZ hown (host := "") (Or.inl (tw hw 48 rfl)) Via.refl e4 (S30.ext P2.2) (g := (mkF m 29 #[rv w17] [(.ref w17)])) rfl (hb hby d3_29)
  obtain ⟨T6, X6, e6, st6⟩ := getS2 X5 hx hZ hown (host := "") (Or.inl (tw hw 50 rfl)) Via.refl e5 (S28.ext P2.2) (g := (mkF m 36 #[rv w17] [(.ref w17)])) rfl (hb hby d3_36)
  obtain ⟨T7, X7, e7, st7⟩ := getS2 X6 hx hZ hown (host := "") (Or.inl (tw hw 51 rfl)) Via.refl e6 (S32.ext P2.2) (g := (mkF m 43 #[rv w17] [(.ref w17)])) rfl (hb hby d3_43)
  obtain ⟨fs, hr, hrun, hended, hW, hsame⟩ := X7.leave (v := some (.int 1)) (fun h => by rw [Bd.returns] at h; cases h)
  refine ⟨_, _, pre0 _ ?_, hrun, hended, _, _, rfl, ?_, ⟨_, rfl⟩, hW, hsame.mono (by decide) (by decide)⟩
  · show SF p e below s₁ (mkF m 0 #[rv w17] []) _
    refine XS.aloadN X0.here hx rfl (hb hby d3_0) rfl rfl ?_
    show SF p e below s₁ (mkF m 1 #[rv w17] [(.ref w17)]) _
    refine st1 _ ?_
    show SF p e below T1 (mkF m 4 #[rv w17] [(.ref w1), (.ref w17)]) _
    refine Jvm.RoadKit.acmp (g := (mkF m 4 #[rv w17] [(.ref w1), (.ref w17)])) X1 hx rfl rfl rfl (pc0 := 4) (pc' := 7) (same := false) rfl (hb hby d3_4) rfl (decide_eq_false fun q => (Fld.ne F_w17_ordinal F_w1_ordinal (by decide)) (Value.ref.inj q)) (by decide) (by decide) ?_
    show SF p e below T1 (mkF m 7 #[rv w17] []) _
    refine XS.aloadN X1.here hx rfl (hb hby d3_7) rfl rfl ?_
    show SF p e below T1 (mkF m 8 #[rv w17] [(.ref w17)]) _
    refine st2 _ ?_
    show SF p e below T2 (mkF m 11 #[rv w17] [(.ref w13), (.ref w17)]) _
    refine Jvm.RoadKit.acmp (g := (mkF m 11 #[rv w17] [(.ref w13), (.ref w17)])) X2 hx rfl rfl rfl (pc0 := 11) (pc' := 14) (same := false) rfl (hb hby d3_11) rfl (decide_eq_false fun q => (Fld.ne F_w17_ordinal F_w13_ordinal (by decide)) (Value.ref.inj q)) (by decide) (by decide) ?_
    show SF p e below T2 (mkF m 14 #[rv w17] []) _
    refine XS.aloadN X2.here hx rfl (hb hby d3_14) rfl rfl ?_
    show SF p e below T2 (mkF m 15 #[rv w17] [(.ref w17)]) _
    refine st3 _ ?_
    show SF p e below T3 (mkF m 18 #[rv w17] [(.ref w14), (.ref w17)]) _
    refine Jvm.RoadKit.acmp (g := (mkF m 18 #[rv w17] [(.ref w14), (.ref w17)])) X3 hx rfl rfl rfl (pc0 := 18) (pc' := 21) (same := false) rfl (hb hby d3_18) rfl (decide_eq_false fun q => (Fld.ne F_w17_ordinal F_w14_ordinal (by decide)) (Value.ref.inj q)) (by decide) (by decide) ?_
    show SF p e below T3 (mkF m 21 #[rv w17] []) _
    refine XS.aloadN X3.here hx rfl (hb hby d3_21) rfl rfl ?_
    show SF p e below T3 (mkF m 22 #[rv w17] [(.ref w17)]) _
    refine st4 _ ?_
    show SF p e below T4 (mkF m 25 #[rv w17] [(.ref w12), (.ref w17)]) _
    refine Jvm.RoadKit.acmp (g := (mkF m 25 #[rv w17] [(.ref w12), (.ref w17)])) X4 hx rfl rfl rfl (pc0 := 25) (pc' := 28) (same := false) rfl (hb hby d3_25) rfl (decide_eq_false fun q => (Fld.ne F_w17_ordinal F_w12_ordinal (by decide)) (Value.ref.inj q)) (by decide) (by decide) ?_
    show SF p e below T4 (mkF m 28 #[rv w17] []) _
    refine XS.aloadN X4.here hx rfl (hb hby d3_28) rfl rfl ?_
    show SF p e below T4 (mkF m 29 #[rv w17] [(.ref w17)]) _
    refine st5 _ ?_
    show SF p e below T5 (mkF m 32 #[rv w17] [(.ref w16), (.ref w17)]) _
    refine Jvm.RoadKit.acmp (g := (mkF m 32 #[rv w17] [(.ref w16), (.ref w17)])) X5 hx rfl rfl rfl (pc0 := 32) (pc' := 35) (same := false) rfl (hb hby d3_32) rfl (decide_eq_false fun q => (Fld.ne F_w17_ordinal F_w16_ordinal (by decide)) (Value.ref.inj q)) (by decide) (by decide) ?_
    show SF p e below T5 (mkF m 35 #[rv w17] []) _
    refine XS.aloadN X5.here hx rfl (hb hby d3_35) rfl rfl ?_
    show SF p e below T5 (mkF m 36 #[rv w17] [(.ref w17)]) _
    refine st6 _ ?_
    show SF p e below T6 (mkF m 39 #[rv w17] [(.ref w15), (.ref w17)]) _
    refine Jvm.RoadKit.acmp (g := (mkF m 39 #[rv w17] [(.ref w15), (.ref w17)])) X6 hx rfl rfl rfl (pc0 := 39) (pc' := 42) (same := false) rfl (hb hby d3_39) rfl (decide_eq_false fun q => (Fld.ne F_w17_ordinal F_w15_ordinal (by decide)) (Value.ref.inj q)) (by decide) (by decide) ?_
    show SF p e below T6 (mkF m 42 #[rv w17] []) _
    refine XS.aloadN X6.here hx rfl (hb hby d3_42) rfl rfl ?_
    show SF p e below T6 (mkF m 43 #[rv w17] [(.ref w17)]) _
    refine st7 _ ?_
    show SF p e below T7 (mkF m 46 #[rv w17] [(.ref w17), (.ref w17)]) _
    refine Jvm.RoadKit.acmp (g := (mkF m 46 #[rv w17] [(.ref w17), (.ref w17)])) X7 hx rfl rfl rfl (pc0 := 46) (pc' := 56) (same := true) rfl (hb hby d3_46) rfl (decide_eq_true rfl) (by decide) (by decide) ?_
    show SF p e below T7 (mkF m 56 #[rv w17] []) _
    refine XS.iconst X7.here hx rfl (hb hby d3_56) ?_
    show SF p e below T7 (mkF m 57 #[rv w17] [(.int 1)]) _
    refine XS.goto X7.here hx rfl (pc0 := 57) (pc' := 61) rfl (hb hby d3_57) (by decide) (by decide) ?_
    show SF p e below T7 (mkF m 61 #[rv w17] [(.int 1)]) _
    exact retN X7 hx (t := .boolean) Bd.returns (by simp) (hb hby d3_61) hr
  · show Q3_27 Z w17 w1 w13 w14 w12 w16 w15 h0 n0 _ T7.heap _
    rw [e7]
    exact ⟨rfl, N0, rfl⟩
theorem d1_83 : decode method_2_code 83 = .ok (.iload_n 0, 1) := by decide +kernel
theorem d1_84 : decode method_2_code 84 = .ok (.bipush 9, 2) := by decide +kernel
theorem d1_86 : decode method_2_code 86 = .ok (.if_icmp .ne 7, 3) := by decide +kernel
theorem d1_89 : decode method_2_code 89 = .ok (.getstatic 37, 3) := by decide +kernel
theorem d1_92 : decode method_2_code 92 = .ok (.areturn, 1) := by decide +kernel
-- XpathTokensNamesNextPinLaw.kindOf 
def Q1_28 (Z : State) (w18 : Addr) (h0 : Heap) (n0 : Nat) (v : Option Value) (h : Heap) (L : List Loc) : Prop := v = some (.ref w18) ∧ Fr n0 L ∧ h = h0
set_option maxRecDepth 65536 in
set_option maxHeartbeats 40000000 in
theorem rm1_28 (l : Launch) (Z : State) (a0 : Array Value) (hw : HW Z a0) (ws : List Jvm.Cond) (w18 : Addr) (h0 : Heap) (n0 : Nat) (Z0 : n0 ≤ h0.size) (S34 : Sta Z Z.heap "com/example/edictum/edictum/io/XpathTokens$Kind" "OPERATOR" "Lcom/example/edictum/edictum/io/XpathTokens$Kind;" (.ref w18)) (P2 : Old Z n0 h0) :
    MF l Z (⟨"com/example/edictum/edictum/io/XpathTokensNamesNextPinLaw", "kindOf", "(I)Lcom/example/edictum/edictum/io/XpathTokens$Kind;"⟩ : MethodName) (Jvm.Cond.code (⟨"com/example/edictum/edictum/io/XpathTokensNamesNextPinLaw", "kindOf", "(I)Lcom/example/edictum/edictum/io/XpathTokens$Kind;"⟩ : MethodName) method_2_code 1 (some (.object "com/example/edictum/edictum/io/XpathTokens$Kind"))) ws ({ frames := 0, cells := 0, slots := 0, locals := 0 } : Room) #[(.int 9)] h0 (Q1_28 Z w18 h0 n0) := by
  refine MetFree.of_bodySF (plainFor_of_name pn_0) hisR ?_
  intro p e s m args below meth c s₁ Bd hml0 hP hK
  obtain ⟨rfl, hZ, hh⟩ := hP
  have hx := Bd.exec
  have hby := Bd.bytes
  have hml : c.maxLocals = 1 := hml0
  have hown : s.vm.findClass "com/example/edictum/edictum/io/XpathTokensNamesNextPinLaw" = some m.cls := findClass_of_methodNamed Bd.named
  have hnm := (name_of_methodNamed Bd.named Bd.method).1
  have X0 : Stand p l e ({ frames := 0, cells := 0, slots := 0, locals := 0 } : Room) s m #[(.int 9)] below meth c s₁ [] 0 0 := Stand.of_body Bd
  have e0 : s₁.heap = h0 := by rw [← hh, Bd.state]; rfl
  have N0 := Fr.nil n0
  have pre0 : ∀ t, SF p e below s₁ (mkF m 0 #[iv 9] []) t → SF p e below s₁ (entryFrame m #[(.int 9)] 1) t := fun t k => castTop (ef_0 m (9 : Int32)) k
  obtain ⟨T1, X1, e1, st1⟩ := getS2 X0 hx hZ hown (host := "") (Or.inl (tw hw 57 rfl)) Via.refl e0 (S34.ext P2.2) (g := (mkF m 89 #[iv 9] [])) rfl (hb hby d1_89)
  obtain ⟨fs, hr, hrun, hended, hW, hsame⟩ := X1.leave (v := some (.ref w18)) (fun h => by rw [Bd.returns] at h; cases h)
  refine ⟨_, _, pre0 _ ?_, hrun, hended, _, _, rfl, ?_, ⟨_, rfl⟩, hW, hsame.mono (by decide) (by decide)⟩
  · show SF p e below s₁ (mkF m 0 #[iv 9] []) _
    refine XS.iloadN X0.here hx rfl (hb hby d1_0) rfl ?_
    show SF p e below s₁ (mkF m 1 #[iv 9] [(.int 9)]) _
    refine XS.ifYes X0.here hx rfl (pc0 := 1) (pc' := 8) rfl (hb hby d1_1) rfl ((if0 _ _).trans (feq (by decide : ¬ ((9 : Int32) = (0 : Int32)))).2) (by decide) (by decide) ?_
    show SF p e below s₁ (mkF m 8 #[iv 9] []) _
    refine XS.iloadN X0.here hx rfl (hb hby d1_8) rfl ?_
    show SF p e below s₁ (mkF m 9 #[iv 9] [(.int 9)]) _
    refine XS.iconst X0.here hx rfl (hb hby d1_9) ?_
    show SF p e below s₁ (mkF m 10 #[iv 9] [(.int 1), (.int 9)]) _
    refine XS.icmpYes X0.here hx rfl (pc0 := 10) (pc' := 17) rfl (hb hby d1_10) rfl (feq (by decide : ¬ ((9 : Int32) = (1 : Int32)))).2 (by decide) (by decide) ?_
    show SF p e below s₁ (mkF m 17 #[iv 9] []) _
    refine XS.iloadN X0.here hx rfl (hb hby d1_17) rfl ?_
    show SF p e below s₁ (mkF m 18 #[iv 9] [(.int 9)]) _
    refine XS.iconst X0.here hx rfl (hb hby d1_18) ?_
    show SF p e below s₁ (mkF m 19 #[iv 9] [(.int 2), (.int 9)]) _
    refine XS.icmpYes X0.here hx rfl (pc0 := 19) (pc' := 26) rfl (hb hby d1_19) rfl (feq (by decide : ¬ ((9 : Int32) = (2 : Int32)))).2 (by decide) (by decide) ?_
    show SF p e below s₁ (mkF m 26 #[iv 9] []) _
    refine XS.iloadN X0.here hx rfl (hb hby d1_26) rfl ?_
    show SF p e below s₁ (mkF m 27 #[iv 9] [(.int 9)]) _
    refine XS.iconst X0.here hx rfl (hb hby d1_27) ?_
    show SF p e below s₁ (mkF m 28 #[iv 9] [(.int 3), (.int 9)]) _
    refine XS.icmpYes X0.here hx rfl (pc0 := 28) (pc' := 35) rfl (hb hby d1_28) rfl (feq (by decide : ¬ ((9 : Int32) = (3 : Int32)))).2 (by decide) (by decide) ?_
    show SF p e below s₁ (mkF m 35 #[iv 9] []) _
    refine XS.iloadN X0.here hx rfl (hb hby d1_35) rfl ?_
    show SF p e below s₁ (mkF m 36 #[iv 9] [(.int 9)]) _
    refine XS.iconst X0.here hx rfl (hb hby d1_36) ?_
    show SF p e below s₁ (mkF m 37 #[iv 9] [(.int 4), (.int 9)]) _
    refine XS.icmpYes X0.here hx rfl (pc0 := 37) (pc' := 44) rfl (hb hby d1_37) rfl (feq (by decide : ¬ ((9 : Int32) = (4 : Int32)))).2 (by decide) (by decide) ?_
    show SF p e below s₁ (mkF m 44 #[iv 9] []) _
    refine XS.iloadN X0.here hx rfl (hb hby d1_44) rfl ?_
    show SF p e below s₁ (mkF m 45 #[iv 9] [(.int 9)]) _
    refine XS.iconst X0.here hx rfl (hb hby d1_45) ?_
    show SF p e below s₁ (mkF m 46 #[iv 9] [(.int 5), (.int 9)]) _
    refine XS.icmpYes X0.here hx rfl (pc0 := 46) (pc' := 53) rfl (hb hby d1_46) rfl (feq (by decide : ¬ ((9 : Int32) = (5 : Int32)))).2 (by decide) (by decide) ?_
    show SF p e below s₁ (mkF m 53 #[iv 9] []) _
    refine XS.iloadN X0.here hx rfl (hb hby d1_53) rfl ?_
    show SF p e below s₁ (mkF m 54 #[iv 9] [(.int 9)]) _
    refine XS.bipush X0.here hx rfl (hb hby d1_54) ?_
    show SF p e below s₁ (mkF m 56 #[iv 9] [(.int 6), (.int 9)]) _
    refine XS.icmpYes X0.here hx rfl (pc0 := 56) (pc' := 63) rfl (hb hby d1_56) rfl (feq (by decide : ¬ ((9 : Int32) = (6 : Int32)))).2 (by decide) (by decide) ?_
    show SF p e below s₁ (mkF m 63 #[iv 9] []) _
    refine XS.iloadN X0.here hx rfl (hb hby d1_63) rfl ?_
    show SF p e below s₁ (mkF m 64 #[iv 9] [(.int 9)]) _
    refine XS.bipush X0.here hx rfl (hb hby d1_64) ?_
    show SF p e below s₁ (mkF m 66 #[iv 9] [(.int 7), (.int 9)]) _
    refine XS.icmpYes X0.here hx rfl (pc0 := 66) (pc' := 73) rfl (hb hby d1_66) rfl (feq (by decide : ¬ ((9 : Int32) = (7 : Int32)))).2 (by decide) (by decide) ?_
    show SF p e below s₁ (mkF m 73 #[iv 9] []) _
    refine XS.iloadN X0.here hx rfl (hb hby d1_73) rfl ?_
    show SF p e below s₁ (mkF m 74 #[iv 9] [(.int 9)]) _
    refine XS.bipush X0.here hx rfl (hb hby d1_74) ?_
    show SF p e below s₁ (mkF m 76 #[iv 9] [(.int 8), (.int 9)]) _
    refine XS.icmpYes X0.here hx rfl (pc0 := 76) (pc' := 83) rfl (hb hby d1_76) rfl (feq (by decide : ¬ ((9 : Int32) = (8 : Int32)))).2 (by decide) (by decide) ?_
    show SF p e below s₁ (mkF m 83 #[iv 9] []) _
    refine XS.iloadN X0.here hx rfl (hb hby d1_83) rfl ?_
    show SF p e below s₁ (mkF m 84 #[iv 9] [(.int 9)]) _
    refine XS.bipush X0.here hx rfl (hb hby d1_84) ?_
    show SF p e below s₁ (mkF m 86 #[iv 9] [(.int 9), (.int 9)]) _
    refine XS.icmpNo X0.here hx rfl (hb hby d1_86) rfl (teq (by decide : (9 : Int32) = (9 : Int32))).2 ?_
    show SF p e below s₁ (mkF m 89 #[iv 9] []) _
    refine st1 _ ?_
    show SF p e below T1 (mkF m 92 #[iv 9] [(.ref w18)]) _
    exact own_retR X1 hx Bd.returns rfl rfl (hb hby d1_92) hr
  · show Q1_28 Z w18 h0 n0 _ T1.heap _
    rw [e1]
    exact ⟨rfl, N0, rfl⟩
-- XpathTokensNamesNextPinLaw.endsOperand 
def Q2_29 (Z : State) (w18 : Addr) (w2 : Addr) (w3 : Addr) (w4 : Addr) (w5 : Addr) (w6 : Addr) (w7 : Addr) (w8 : Addr) (w9 : Addr) (w10 : Addr) (w11 : Addr) (h0 : Heap) (n0 : Nat) (v : Option Value) (h : Heap) (L : List Loc) : Prop := v = some (.int 0) ∧ Fr n0 L ∧ h = h0
set_option maxRecDepth 65536 in
set_option maxHeartbeats 40000000 in
theorem rm2_29 (l : Launch) (Z : State) (a0 : Array Value) (hw : HW Z a0) (ws : List Jvm.Cond) (w18 : Addr) (w2 : Addr) (w3 : Addr) (w4 : Addr) (w5 : Addr) (w6 : Addr) (w7 : Addr) (w8 : Addr) (w9 : Addr) (w10 : Addr) (w11 : Addr) (h0 : Heap) (n0 : Nat) (Z0 : n0 ≤ h0.size) (S2 : Sta Z Z.heap "com/example/edictum/edictum/io/XpathTokens$Kind" "RIGHT_PAREN" "Lcom/example/edictum/edictum/io/XpathTokens$Kind;" (.ref w2)) (P2 : Old Z n0 h0) (F_w18_ordinal : Fld Z Z.heap w18 "java/lang/Enum" "ordinal" "I" (.int 9)) (F_w2_ordinal : Fld Z Z.heap w2 "java/lang/Enum" "ordinal" "I" (.int 5)) (S4 : Sta Z Z.heap "com/example/edictum/edictum/io/XpathTokens$Kind" "RIGHT_BRACKET" "Lcom/example/edictum/edictum/io/XpathTokens$Kind;" (.ref w3)) (F_w3_ordinal : Fld Z Z.heap w3 "java/lang/Enum" "ordinal" "I" (.int 6)) (S6 : Sta Z Z.heap "com/example/edictum/edictum/io/XpathTokens$Kind" "AXIS" "Lcom/example/edictum/edictum/io/XpathTokens$Kind;" (.ref w4)) (F_w4_ordinal : Fld Z Z.heap w4 "java/lang/Enum" "ordinal" "I" (.int 10)) (S8 : Sta Z Z.heap "com/example/edictum/edictum/io/XpathTokens$Kind" "FUNCTION" "Lcom/example/edictum/edictum/io/XpathTokens$Kind;" (.ref w5)) (F_w5_ordinal : Fld Z Z.heap w5 "java/lang/Enum" "ordinal" "I" (.int 11)) (S10 : Sta Z Z.heap "com/example/edictum/edictum/io/XpathTokens$Kind" "NODE_TYPE" "Lcom/example/edictum/edictum/io/XpathTokens$Kind;" (.ref w6)) (F_w6_ordinal : Fld Z Z.heap w6 "java/lang/Enum" "ordinal" "I" (.int 12)) (S12 : Sta Z Z.heap "com/example/edictum/edictum/io/XpathTokens$Kind" "NAME_TEST" "Lcom/example/edictum/edictum/io/XpathTokens$Kind;" (.ref w7)) (F_w7_ordinal : Fld Z Z.heap w7 "java/lang/Enum" "ordinal" "I" (.int 13)) (S14 : Sta Z Z.heap "com/example/edictum/edictum/io/XpathTokens$Kind" "DOT" "Lcom/example/edictum/edictum/io/XpathTokens$Kind;" (.ref w8)) (F_w8_ordinal : Fld Z Z.heap w8 "java/lang/Enum" "ordinal" "I" (.int 14)) (S16 : Sta Z Z.heap "com/example/edictum/edictum/io/XpathTokens$Kind" "DOT_DOT" "Lcom/example/edictum/edictum/io/XpathTokens$Kind;" (.ref w9)) (F_w9_ordinal : Fld Z Z.heap w9 "java/lang/Enum" "ordinal" "I" (.int 15)) (S18 : Sta Z Z.heap "com/example/edictum/edictum/io/XpathTokens$Kind" "LITERAL" "Lcom/example/edictum/edictum/io/XpathTokens$Kind;" (.ref w10)) (F_w10_ordinal : Fld Z Z.heap w10 "java/lang/Enum" "ordinal" "I" (.int 16)) (S20 : Sta Z Z.heap "com/example/edictum/edictum/io/XpathTokens$Kind" "NUMBER" "Lcom/example/edictum/edictum/io/XpathTokens$Kind;" (.ref w11)) (F_w11_ordinal : Fld Z Z.heap w11 "java/lang/Enum" "ordinal" "I" (.int 17)) :
    MF l Z (⟨"com/example/edictum/edictum/io/XpathTokensNamesNextPinLaw", "endsOperand", "(Lcom/example/edictum/edictum/io/XpathTokens$Kind;)Z"⟩ : MethodName) (Jvm.Cond.code (⟨"com/example/edictum/edictum/io/XpathTokensNamesNextPinLaw", "endsOperand", "(Lcom/example/edictum/edictum/io/XpathTokens$Kind;)Z"⟩ : MethodName) method_3_code 1 (some .boolean)) ws ({ frames := 0, cells := 0, slots := 0, locals := 0 } : Room) #[(.ref w18)] h0 (Q2_29 Z w18 w2 w3 w4 w5 w6 w7 w8 w9 w10 w11 h0 n0) := by
  refine MetFree.of_bodySF (plainFor_of_name pn_0) hisR ?_
  intro p e s m args below meth c s₁ Bd hml0 hP hK
  obtain ⟨rfl, hZ, hh⟩ := hP
  have hx := Bd.exec
  have hby := Bd.bytes
  have hml : c.maxLocals = 1 := hml0
  have hown : s.vm.findClass "com/example/edictum/edictum/io/XpathTokensNamesNextPinLaw" = some m.cls := findClass_of_methodNamed Bd.named
  have hnm := (name_of_methodNamed Bd.named Bd.method).1
  have X0 : Stand p l e ({ frames := 0, cells := 0, slots := 0, locals := 0 } : Room) s m #[(.ref w18)] below meth c s₁ [] 0 0 := Stand.of_body Bd
  have e0 : s₁.heap = h0 := by rw [← hh, Bd.state]; rfl
  have N0 := Fr.nil n0
  have pre0 : ∀ t, SF p e below s₁ (mkF m 0 #[rv w18] []) t → SF p e below s₁ (entryFrame m #[(.ref w18)] 1) t := fun t k => castTop (ef_1 m w18) k
  obtain ⟨T1, X1, e1, st1⟩ := getS2 X0 hx hZ hown (host := "") (Or.inl (tw hw 11 rfl)) Via.refl e0 (S2.ext P2.2) (g := (mkF m 1 #[rv w18] [(.ref w18)])) rfl (hb hby d2_1)
  obtain ⟨T2, X2, e2, st2⟩ := getS2 X1 hx hZ hown (host := "") (Or.inl (tw hw 13 rfl)) Via.refl e1 (S4.ext P2.2) (g := (mkF m 8 #[rv w18] [(.ref w18)])) rfl (hb hby d2_8)
  obtain ⟨T3, X3, e3, st3⟩ := getS2 X2 hx hZ hown (host := "") (Or.inl (tw hw 15 rfl)) Via.refl e2 (S6.ext P2.2) (g := (mkF m 15 #[rv w18] [(.ref w18)])) rfl (hb hby d2_15)
  obtain ⟨T4, X4, e4, st4⟩ := getS2 X3 hx hZ hown (host := "") (Or.inl (tw hw 17 rfl)) Via.refl e3 (S8.ext P2.2) (g := (mkF m 22 #[rv w18] [(.ref w18)])) rfl (hb hby d2_22)
  obtain ⟨T5, X5, e5, st5⟩ := getS2 X4 hx hZ hown (host := "") (Or.inl (tw hw 19 rfl)) Via.refl e4 (S10.ext P2.2) (g := (mkF m 29 #[rv w18] [(.ref w18)])) rfl (hb hby d2_29)
  obtain ⟨T6, X6, e6, st6⟩ := getS2 X5 hx hZ hown (host := "") (Or.inl (tw hw 21 rfl)) Via.refl e5 (S12.ext P2.2) (g := (mkF m 36 #[rv w18] [(.ref w18)])) rfl (hb hby d2_36)
  obtain ⟨T7, X7, e7, st7⟩ := getS2 X6 hx hZ hown (host := "") (Or.inl (tw hw 23 rfl)) Via.refl e6 (S14.ext P2.2) (g := (mkF m 43 #[rv w18] [(.ref w18)])) rfl (hb hby d2_43)
  obtain ⟨T8, X8, e8, st8⟩ := getS2 X7 hx hZ hown (host := "") (Or.inl (tw hw 25 rfl)) Via.refl e7 (S16.ext P2.2) (g := (mkF m 50 #[rv w18] [(.ref w18)])) rfl (hb hby d2_50)
  obtain ⟨T9, X9, e9, st9⟩ := getS2 X8 hx hZ hown (host := "") (Or.inl (tw hw 27 rfl)) Via.refl e8 (S18.ext P2.2) (g := (mkF m 57 #[rv w18] [(.ref w18)])) rfl (hb hby d2_57)
  obtain ⟨T10, X10, e10, st10⟩ := getS2 X9 hx hZ hown (host := "") (Or.inl (tw hw 29 rfl)) Via.refl e9 (S20.ext P2.2) (g := (mkF m 64 #[rv w18] [(.ref w18)])) rfl (hb hby d2_64)
  obtain ⟨fs, hr, hrun, hended, hW, hsame⟩ := X10.leave (v := some (.int 0)) (fun h => by rw [Bd.returns] at h; cases h)
  refine ⟨_, _, pre0 _ ?_, hrun, hended, _, _, rfl, ?_, ⟨_, rfl⟩, hW, hsame.mono (by decide) (by decide)⟩
  · show SF p e below s₁ (mkF m 0 #[rv w18] []) _
    refine XS.aloadN X0.here hx rfl (hb hby d2_0) rfl rfl ?_
    show SF p e below s₁ (mkF m 1 #[rv w18] [(.ref w18)]) _
    refine st1 _ ?_
    show SF p e below T1 (mkF m 4 #[rv w18] [(.ref w2), (.ref w18)]) _
    refine Jvm.RoadKit.acmp (g := (mkF m 4 #[rv w18] [(.ref w2), (.ref w18)])) X1 hx rfl rfl rfl (pc0 := 4) (pc' := 7) (same := false) rfl (hb hby d2_4) rfl (decide_eq_false fun q => (Fld.ne F_w18_ordinal F_w2_ordinal (by decide)) (Value.ref.inj q)) (by decide) (by decide) ?_
    show SF p e below T1 (mkF m 7 #[rv w18] []) _
    refine XS.aloadN X1.here hx rfl (hb hby d2_7) rfl rfl ?_
    show SF p e below T1 (mkF m 8 #[rv w18] [(.ref w18)]) _
    refine st2 _ ?_
    show SF p e below T2 (mkF m 11 #[rv w18] [(.ref w3), (.ref w18)]) _
    refine Jvm.RoadKit.acmp (g := (mkF m 11 #[rv w18] [(.ref w3), (.ref w18)])) X2 hx rfl rfl rfl (pc0 := 11) (pc' := 14) (same := false) rfl (hb hby d2_11) rfl (decide_eq_false fun q => (Fld.ne F_w18_ordinal F_w3_ordinal (by decide)) (Value.ref.inj q)) (by decide) (by decide) ?_
    show SF p e below T2 (mkF m 14 #[rv w18] []) _
    refine XS.aloadN X2.here hx rfl (hb hby d2_14) rfl rfl ?_
    show SF p e below T2 (mkF m 15 #[rv w18] [(.ref w18)]) _
    refine st3 _ ?_
    show SF p e below T3 (mkF m 18 #[rv w18] [(.ref w4), (.ref w18)]) _
    refine Jvm.RoadKit.acmp (g := (mkF m 18 #[rv w18] [(.ref w4), (.ref w18)])) X3 hx rfl rfl rfl (pc0 := 18) (pc' := 21) (same := false) rfl (hb hby d2_18) rfl (decide_eq_false fun q => (Fld.ne F_w18_ordinal F_w4_ordinal (by decide)) (Value.ref.inj q)) (by decide) (by decide) ?_
    show SF p e below T3 (mkF m 21 #[rv w18] []) _
    refine XS.aloadN X3.here hx rfl (hb hby d2_21) rfl rfl ?_
    show SF p e below T3 (mkF m 22 #[rv w18] [(.ref w18)]) _
    refine st4 _ ?_
    show SF p e below T4 (mkF m 25 #[rv w18] [(.ref w5), (.ref w18)]) _
    refine Jvm.RoadKit.acmp (g := (mkF m 25 #[rv w18] [(.ref w5), (.ref w18)])) X4 hx rfl rfl rfl (pc0 := 25) (pc' := 28) (same := false) rfl (hb hby d2_25) rfl (decide_eq_false fun q => (Fld.ne F_w18_ordinal F_w5_ordinal (by decide)) (Value.ref.inj q)) (by decide) (by decide) ?_
    show SF p e below T4 (mkF m 28 #[rv w18] []) _
    refine XS.aloadN X4.here hx rfl (hb hby d2_28) rfl rfl ?_
    show SF p e below T4 (mkF m 29 #[rv w18] [(.ref w18)]) _
    refine st5 _ ?_
    show SF p e below T5 (mkF m 32 #[rv w18] [(.ref w6), (.ref w18)]) _
    refine Jvm.RoadKit.acmp (g := (mkF m 32 #[rv w18] [(.ref w6), (.ref w18)])) X5 hx rfl rfl rfl (pc0 := 32) (pc' := 35) (same := false) rfl (hb hby d2_32) rfl (decide_eq_false fun q => (Fld.ne F_w18_ordinal F_w6_ordinal (by decide)) (Value.ref.inj q)) (by decide) (by decide) ?_
    show SF p e below T5 (mkF m 35 #[rv w18] []) _
    refine XS.aloadN X5.here hx rfl (hb hby d2_35) rfl rfl ?_
    show SF p e below T5 (mkF m 36 #[rv w18] [(.ref w18)]) _
    refine st6 _ ?_
    show SF p e below T6 (mkF m 39 #[rv w18] [(.ref w7), (.ref w18)]) _
    refine Jvm.RoadKit.acmp (g := (mkF m 39 #[rv w18] [(.ref w7), (.ref w18)])) X6 hx rfl rfl rfl (pc0 := 39) (pc' := 42) (same := false) rfl (hb hby d2_39) rfl (decide_eq_false fun q => (Fld.ne F_w18_ordinal F_w7_ordinal (by decide)) (Value.ref.inj q)) (by decide) (by decide) ?_
    show SF p e below T6 (mkF m 42 #[rv w18] []) _
    refine XS.aloadN X6.here hx rfl (hb hby d2_42) rfl rfl ?_
    show SF p e below T6 (mkF m 43 #[rv w18] [(.ref w18)]) _
    refine st7 _ ?_
    show SF p e below T7 (mkF m 46 #[rv w18] [(.ref w8), (.ref w18)]) _
    refine Jvm.RoadKit.acmp (g := (mkF m 46 #[rv w18] [(.ref w8), (.ref w18)])) X7 hx rfl rfl rfl (pc0 := 46) (pc' := 49) (same := false) rfl (hb hby d2_46) rfl (decide_eq_false fun q => (Fld.ne F_w18_ordinal F_w8_ordinal (by decide)) (Value.ref.inj q)) (by decide) (by decide) ?_
    show SF p e below T7 (mkF m 49 #[rv w18] []) _
    refine XS.aloadN X7.here hx rfl (hb hby d2_49) rfl rfl ?_
    show SF p e below T7 (mkF m 50 #[rv w18] [(.ref w18)]) _
    refine st8 _ ?_
    show SF p e below T8 (mkF m 53 #[rv w18] [(.ref w9), (.ref w18)]) _
    refine Jvm.RoadKit.acmp (g := (mkF m 53 #[rv w18] [(.ref w9), (.ref w18)])) X8 hx rfl rfl rfl (pc0 := 53) (pc' := 56) (same := false) rfl (hb hby d2_53) rfl (decide_eq_false fun q => (Fld.ne F_w18_ordinal F_w9_ordinal (by decide)) (Value.ref.inj q)) (by decide) (by decide) ?_
    show SF p e below T8 (mkF m 56 #[rv w18] []) _
    refine XS.aloadN X8.here hx rfl (hb hby d2_56) rfl rfl ?_
    show SF p e below T8 (mkF m 57 #[rv w18] [(.ref w18)]) _
    refine st9 _ ?_
    show SF p e below T9 (mkF m 60 #[rv w18] [(.ref w10), (.ref w18)]) _
    refine Jvm.RoadKit.acmp (g := (mkF m 60 #[rv w18] [(.ref w10), (.ref w18)])) X9 hx rfl rfl rfl (pc0 := 60) (pc' := 63) (same := false) rfl (hb hby d2_60) rfl (decide_eq_false fun q => (Fld.ne F_w18_ordinal F_w10_ordinal (by decide)) (Value.ref.inj q)) (by decide) (by decide) ?_
    show SF p e below T9 (mkF m 63 #[rv w18] []) _
    refine XS.aloadN X9.here hx rfl (hb hby d2_63) rfl rfl ?_
    show SF p e below T9 (mkF m 64 #[rv w18] [(.ref w18)]) _
    refine st10 _ ?_
    show SF p e below T10 (mkF m 67 #[rv w18] [(.ref w11), (.ref w18)]) _
    refine Jvm.RoadKit.acmp (g := (mkF m 67 #[rv w18] [(.ref w11), (.ref w18)])) X10 hx rfl rfl rfl (pc0 := 67) (pc' := 74) (same := false) rfl (hb hby d2_67) rfl (decide_eq_false fun q => (Fld.ne F_w18_ordinal F_w11_ordinal (by decide)) (Value.ref.inj q)) (by decide) (by decide) ?_
    show SF p e below T10 (mkF m 74 #[rv w18] []) _
    refine XS.iconst X10.here hx rfl (hb hby d2_74) ?_
    show SF p e below T10 (mkF m 75 #[rv w18] [(.int 0)]) _
    exact retN X10 hx (t := .boolean) Bd.returns (by simp) (hb hby d2_75) hr
  · show Q2_29 Z w18 w2 w3 w4 w5 w6 w7 w8 w9 w10 w11 h0 n0 _ T10.heap _
    rw [e10]
    exact ⟨rfl, N0, rfl⟩
-- XpathTokens$Kind.namesNext 
def Q3_30 (Z : State) (w18 : Addr) (w1 : Addr) (w13 : Addr) (w14 : Addr) (w12 : Addr) (w16 : Addr) (w15 : Addr) (w17 : Addr) (h0 : Heap) (n0 : Nat) (v : Option Value) (h : Heap) (L : List Loc) : Prop := v = some (.int 1) ∧ Fr n0 L ∧ h = h0
set_option maxRecDepth 65536 in
set_option maxHeartbeats 40000000 in
theorem rm3_30 (l : Launch) (Z : State) (a0 : Array Value) (hw : HW Z a0) (ws : List Jvm.Cond) (w18 : Addr) (w1 : Addr) (w13 : Addr) (w14 : Addr) (w12 : Addr) (w16 : Addr) (w15 : Addr) (w17 : Addr) (h0 : Heap) (n0 : Nat) (Z0 : n0 ≤ h0.size) (S0 : Sta Z Z.heap "com/example/edictum/edictum/io/XpathTokens$Kind" "AT" "Lcom/example/edictum/edictum/io/XpathTokens$Kind;" (.ref w1)) (P2 : Old Z n0 h0) (F_w18_ordinal : Fld Z Z.heap w18 "java/lang/Enum" "ordinal" "I" (.int 9)) (F_w1_ordinal : Fld Z Z.heap w1 "java/lang/Enum" "ordinal" "I" (.int 0)) (S24 : Sta Z Z.heap "com/example/edictum/edictum/io/XpathTokens$Kind" "AXIS_SEPARATOR" "Lcom/example/edictum/edictum/io/XpathTokens$Kind;" (.ref w13)) (F_w13_ordinal : Fld Z Z.heap w13 "java/lang/Enum" "ordinal" "I" (.int 1)) (S26 : Sta Z Z.heap "com/example/edictum/edictum/io/XpathTokens$Kind" "LEFT_PAREN" "Lcom/example/edictum/edictum/io/XpathTokens$Kind;" (.ref w14)) (F_w14_ordinal : Fld Z Z.heap w14 "java/lang/Enum" "ordinal" "I" (.int 2)) (S22 : Sta Z Z.heap "com/example/edictum/edictum/io/XpathTokens$Kind" "LEFT_BRACKET" "Lcom/example/edictum/edictum/io/XpathTokens$Kind;" (.ref w12)) (F_w12_ordinal : Fld Z Z.heap w12 "java/lang/Enum" "ordinal" "I" (.int 3)) (S30 : Sta Z Z.heap "com/example/edictum/edictum/io/XpathTokens$Kind" "COMMA" "Lcom/example/edictum/edictum/io/XpathTokens$Kind;" (.ref w16)) (F_w16_ordinal : Fld Z Z.heap w16 "java/lang/Enum" "ordinal" "I" (.int 4)) (S28 : Sta Z Z.heap "com/example/edictum/edictum/io/XpathTokens$Kind" "SLASH" "Lcom/example/edictum/edictum/io/XpathTokens$Kind;" (.ref w15)) (F_w15_ordinal : Fld Z Z.heap w15 "java/lang/Enum" "ordinal" "I" (.int 7)) (S32 : Sta Z Z.heap "com/example/edictum/edictum/io/XpathTokens$Kind" "DOUBLE_SLASH" "Lcom/example/edictum/edictum/io/XpathTokens$Kind;" (.ref w17)) (F_w17_ordinal : Fld Z Z.heap w17 "java/lang/Enum" "ordinal" "I" (.int 8)) (S34 : Sta Z Z.heap "com/example/edictum/edictum/io/XpathTokens$Kind" "OPERATOR" "Lcom/example/edictum/edictum/io/XpathTokens$Kind;" (.ref w18)) :
    MF l Z (⟨"com/example/edictum/edictum/io/XpathTokens$Kind", "namesNext", "()Z"⟩ : MethodName) (Jvm.Cond.code (⟨"com/example/edictum/edictum/io/XpathTokens$Kind", "namesNext", "()Z"⟩ : MethodName) prog_251_method_4_code 1 (some .boolean)) ws ({ frames := 0, cells := 0, slots := 0, locals := 0 } : Room) #[(.ref w18)] h0 (Q3_30 Z w18 w1 w13 w14 w12 w16 w15 w17 h0 n0) := by
  refine MetFree.of_bodySF (plainFor_of_name pn_1) hisR ?_
  intro p e s m args below meth c s₁ Bd hml0 hP hK
  obtain ⟨rfl, hZ, hh⟩ := hP
  have hx := Bd.exec
  have hby := Bd.bytes
  have hml : c.maxLocals = 1 := hml0
  have hown : s.vm.findClass "com/example/edictum/edictum/io/XpathTokens$Kind" = some m.cls := findClass_of_methodNamed Bd.named
  have hnm := (name_of_methodNamed Bd.named Bd.method).1
  have X0 : Stand p l e ({ frames := 0, cells := 0, slots := 0, locals := 0 } : Room) s m #[(.ref w18)] below meth c s₁ [] 0 0 := Stand.of_body Bd
  have e0 : s₁.heap = h0 := by rw [← hh, Bd.state]; rfl
  have N0 := Fr.nil n0
  have pre0 : ∀ t, SF p e below s₁ (mkF m 0 #[rv w18] []) t → SF p e below s₁ (entryFrame m #[(.ref w18)] 1) t := fun t k => castTop (ef_2 m w18) k
  obtain ⟨T1, X1, e1, st1⟩ := getS2 X0 hx hZ hown (host := "") (Or.inl (tw hw 36 rfl)) Via.refl e0 (S0.ext P2.2) (g := (mkF m 1 #[rv w18] [(.ref w18)])) rfl (hb hby d3_1)
  obtain ⟨T2, X2, e2, st2⟩ := getS2 X1 hx hZ hown (host := "") (Or.inl (tw hw 39 rfl)) Via.refl e1 (S24.ext P2.2) (g := (mkF m 8 #[rv w18] [(.ref w18)])) rfl (hb hby d3_8)
  obtain ⟨T3, X3, e3, st3⟩ := getS2 X2 hx hZ hown (host := "") (Or.inl (tw hw 41 rfl)) Via.refl e2 (S26.ext P2.2) (g := (mkF m 15 #[rv w18] [(.ref w18)])) rfl (hb hby d3_15)
  obtain ⟨T4, X4, e4, st4⟩ := getS2 X3 hx hZ hown (host := "") (Or.inl (tw hw 43 rfl)) Via.refl e3 (S22.ext P2.2) (g := (mkF m 22 #[rv w18] [(.ref w18)])) rfl (hb hby d3_22)
  obtain ⟨T5, X5, e5, st5⟩ := getS2 X4 hx hZ hown (host := "") (Or.inl (tw hw 48 rfl)) Via.refl e4 (S30.ext P2.2) (g := (mkF m 29 #[rv w18] [(.ref w18)])) rfl (hb hby d3_29)
  obtain ⟨T6, X6, e6, st6⟩ := getS2 X5 hx hZ hown (host := "") (Or.inl (tw hw 50 rfl)) Via.refl e5 (S28.ext P2.2) (g := (mkF m 36 #[rv w18] [(.ref w18)])) rfl (hb hby d3_36)
  obtain ⟨T7, X7, e7, st7⟩ := getS2 X6 hx hZ hown (host := "") (Or.inl (tw hw 51 rfl)) Via.refl e6 (S32.ext P2.2) (g := (mkF m 43 #[rv w18] [(.ref w18)])) rfl (hb hby d3_43)
  obtain ⟨T8, X8, e8, st8⟩ := getS2 X7 hx hZ hown (host := "") (Or.inl (tw hw 53 rfl)) Via.refl e7 (S34.ext P2.2) (g := (mkF m 50 #[rv w18] [(.ref w18)])) rfl (hb hby d3_50)
  obtain ⟨fs, hr, hrun, hended, hW, hsame⟩ := X8.leave (v := some (.int 1)) (fun h => by rw [Bd.returns] at h; cases h)
  refine ⟨_, _, pre0 _ ?_, hrun, hended, _, _, rfl, ?_, ⟨_, rfl⟩, hW, hsame.mono (by decide) (by decide)⟩
  · show SF p e below s₁ (mkF m 0 #[rv w18] []) _
    refine XS.aloadN X0.here hx rfl (hb hby d3_0) rfl rfl ?_
    show SF p e below s₁ (mkF m 1 #[rv w18] [(.ref w18)]) _
    refine st1 _ ?_
    show SF p e below T1 (mkF m 4 #[rv w18] [(.ref w1), (.ref w18)]) _
    refine Jvm.RoadKit.acmp (g := (mkF m 4 #[rv w18] [(.ref w1), (.ref w18)])) X1 hx rfl rfl rfl (pc0 := 4) (pc' := 7) (same := false) rfl (hb hby d3_4) rfl (decide_eq_false fun q => (Fld.ne F_w18_ordinal F_w1_ordinal (by decide)) (Value.ref.inj q)) (by decide) (by decide) ?_
    show SF p e below T1 (mkF m 7 #[rv w18] []) _
    refine XS.aloadN X1.here hx rfl (hb hby d3_7) rfl rfl ?_
    show SF p e below T1 (mkF m 8 #[rv w18] [(.ref w18)]) _
    refine st2 _ ?_
    show SF p e below T2 (mkF m 11 #[rv w18] [(.ref w13), (.ref w18)]) _
    refine Jvm.RoadKit.acmp (g := (mkF m 11 #[rv w18] [(.ref w13), (.ref w18)])) X2 hx rfl rfl rfl (pc0 := 11) (pc' := 14) (same := false) rfl (hb hby d3_11) rfl (decide_eq_false fun q => (Fld.ne F_w18_ordinal F_w13_ordinal (by decide)) (Value.ref.inj q)) (by decide) (by decide) ?_
    show SF p e below T2 (mkF m 14 #[rv w18] []) _
    refine XS.aloadN X2.here hx rfl (hb hby d3_14) rfl rfl ?_
    show SF p e below T2 (mkF m 15 #[rv w18] [(.ref w18)]) _
    refine st3 _ ?_
    show SF p e below T3 (mkF m 18 #[rv w18] [(.ref w14), (.ref w18)]) _
    refine Jvm.RoadKit.acmp (g := (mkF m 18 #[rv w18] [(.ref w14), (.ref w18)])) X3 hx rfl rfl rfl (pc0 := 18) (pc' := 21) (same := false) rfl (hb hby d3_18) rfl (decide_eq_false fun q => (Fld.ne F_w18_ordinal F_w14_ordinal (by decide)) (Value.ref.inj q)) (by decide) (by decide) ?_
    show SF p e below T3 (mkF m 21 #[rv w18] []) _
    refine XS.aloadN X3.here hx rfl (hb hby d3_21) rfl rfl ?_
    show SF p e below T3 (mkF m 22 #[rv w18] [(.ref w18)]) _
    refine st4 _ ?_
    show SF p e below T4 (mkF m 25 #[rv w18] [(.ref w12), (.ref w18)]) _
    refine Jvm.RoadKit.acmp (g := (mkF m 25 #[rv w18] [(.ref w12), (.ref w18)])) X4 hx rfl rfl rfl (pc0 := 25) (pc' := 28) (same := false) rfl (hb hby d3_25) rfl (decide_eq_false fun q => (Fld.ne F_w18_ordinal F_w12_ordinal (by decide)) (Value.ref.inj q)) (by decide) (by decide) ?_
    show SF p e below T4 (mkF m 28 #[rv w18] []) _
    refine XS.aloadN X4.here hx rfl (hb hby d3_28) rfl rfl ?_
    show SF p e below T4 (mkF m 29 #[rv w18] [(.ref w18)]) _
    refine st5 _ ?_
    show SF p e below T5 (mkF m 32 #[rv w18] [(.ref w16), (.ref w18)]) _
    refine Jvm.RoadKit.acmp (g := (mkF m 32 #[rv w18] [(.ref w16), (.ref w18)])) X5 hx rfl rfl rfl (pc0 := 32) (pc' := 35) (same := false) rfl (hb hby d3_32) rfl (decide_eq_false fun q => (Fld.ne F_w18_ordinal F_w16_ordinal (by decide)) (Value.ref.inj q)) (by decide) (by decide) ?_
    show SF p e below T5 (mkF m 35 #[rv w18] []) _
    refine XS.aloadN X5.here hx rfl (hb hby d3_35) rfl rfl ?_
    show SF p e below T5 (mkF m 36 #[rv w18] [(.ref w18)]) _
    refine st6 _ ?_
    show SF p e below T6 (mkF m 39 #[rv w18] [(.ref w15), (.ref w18)]) _
    refine Jvm.RoadKit.acmp (g := (mkF m 39 #[rv w18] [(.ref w15), (.ref w18)])) X6 hx rfl rfl rfl (pc0 := 39) (pc' := 42) (same := false) rfl (hb hby d3_39) rfl (decide_eq_false fun q => (Fld.ne F_w18_ordinal F_w15_ordinal (by decide)) (Value.ref.inj q)) (by decide) (by decide) ?_
    show SF p e below T6 (mkF m 42 #[rv w18] []) _
    refine XS.aloadN X6.here hx rfl (hb hby d3_42) rfl rfl ?_
    show SF p e below T6 (mkF m 43 #[rv w18] [(.ref w18)]) _
    refine st7 _ ?_
    show SF p e below T7 (mkF m 46 #[rv w18] [(.ref w17), (.ref w18)]) _
    refine Jvm.RoadKit.acmp (g := (mkF m 46 #[rv w18] [(.ref w17), (.ref w18)])) X7 hx rfl rfl rfl (pc0 := 46) (pc' := 49) (same := false) rfl (hb hby d3_46) rfl (decide_eq_false fun q => (Fld.ne F_w18_ordinal F_w17_ordinal (by decide)) (Value.ref.inj q)) (by decide) (by decide) ?_
    show SF p e below T7 (mkF m 49 #[rv w18] []) _
    refine XS.aloadN X7.here hx rfl (hb hby d3_49) rfl rfl ?_
    show SF p e below T7 (mkF m 50 #[rv w18] [(.ref w18)]) _
    refine st8 _ ?_
    show SF p e below T8 (mkF m 53 #[rv w18] [(.ref w18), (.ref w18)]) _
    refine Jvm.RoadKit.acmp (g := (mkF m 53 #[rv w18] [(.ref w18), (.ref w18)])) X8 hx rfl rfl rfl (pc0 := 53) (pc' := 56) (same := true) rfl (hb hby d3_53) rfl (decide_eq_true rfl) (by decide) (by decide) ?_
    show SF p e below T8 (mkF m 56 #[rv w18] []) _
    refine XS.iconst X8.here hx rfl (hb hby d3_56) ?_
    show SF p e below T8 (mkF m 57 #[rv w18] [(.int 1)]) _
    refine XS.goto X8.here hx rfl (pc0 := 57) (pc' := 61) rfl (hb hby d3_57) (by decide) (by decide) ?_
    show SF p e below T8 (mkF m 61 #[rv w18] [(.int 1)]) _
    exact retN X8 hx (t := .boolean) Bd.returns (by simp) (hb hby d3_61) hr
  · show Q3_30 Z w18 w1 w13 w14 w12 w16 w15 w17 h0 n0 _ T8.heap _
    rw [e8]
    exact ⟨rfl, N0, rfl⟩
theorem d1_93 : decode method_2_code 93 = .ok (.iload_n 0, 1) := by decide +kernel
theorem d1_94 : decode method_2_code 94 = .ok (.bipush 10, 2) := by decide +kernel
theorem d1_96 : decode method_2_code 96 = .ok (.if_icmp .ne 7, 3) := by decide +kernel
theorem d1_99 : decode method_2_code 99 = .ok (.getstatic 40, 3) := by decide +kernel
theorem d1_102 : decode method_2_code 102 = .ok (.areturn, 1) := by decide +kernel
-- XpathTokensNamesNextPinLaw.kindOf 
def Q1_31 (Z : State) (w4 : Addr) (h0 : Heap) (n0 : Nat) (v : Option Value) (h : Heap) (L : List Loc) : Prop := v = some (.ref w4) ∧ Fr n0 L ∧ h = h0
set_option maxRecDepth 65536 in
set_option maxHeartbeats 40000000 in
theorem rm1_31 (l : Launch) (Z : State) (a0 : Array Value) (hw : HW Z a0) (ws : List Jvm.Cond) (w4 : Addr) (h0 : Heap) (n0 : Nat) (Z0 : n0 ≤ h0.size) (S6 : Sta Z Z.heap "com/example/edictum/edictum/io/XpathTokens$Kind" "AXIS" "Lcom/example/edictum/edictum/io/XpathTokens$Kind;" (.ref w4)) (P2 : Old Z n0 h0) :
    MF l Z (⟨"com/example/edictum/edictum/io/XpathTokensNamesNextPinLaw", "kindOf", "(I)Lcom/example/edictum/edictum/io/XpathTokens$Kind;"⟩ : MethodName) (Jvm.Cond.code (⟨"com/example/edictum/edictum/io/XpathTokensNamesNextPinLaw", "kindOf", "(I)Lcom/example/edictum/edictum/io/XpathTokens$Kind;"⟩ : MethodName) method_2_code 1 (some (.object "com/example/edictum/edictum/io/XpathTokens$Kind"))) ws ({ frames := 0, cells := 0, slots := 0, locals := 0 } : Room) #[(.int 10)] h0 (Q1_31 Z w4 h0 n0) := by
  refine MetFree.of_bodySF (plainFor_of_name pn_0) hisR ?_
  intro p e s m args below meth c s₁ Bd hml0 hP hK
  obtain ⟨rfl, hZ, hh⟩ := hP
  have hx := Bd.exec
  have hby := Bd.bytes
  have hml : c.maxLocals = 1 := hml0
  have hown : s.vm.findClass "com/example/edictum/edictum/io/XpathTokensNamesNextPinLaw" = some m.cls := findClass_of_methodNamed Bd.named
  have hnm := (name_of_methodNamed Bd.named Bd.method).1
  have X0 : Stand p l e ({ frames := 0, cells := 0, slots := 0, locals := 0 } : Room) s m #[(.int 10)] below meth c s₁ [] 0 0 := Stand.of_body Bd
  have e0 : s₁.heap = h0 := by rw [← hh, Bd.state]; rfl
  have N0 := Fr.nil n0
  have pre0 : ∀ t, SF p e below s₁ (mkF m 0 #[iv 10] []) t → SF p e below s₁ (entryFrame m #[(.int 10)] 1) t := fun t k => castTop (ef_0 m (10 : Int32)) k
  obtain ⟨T1, X1, e1, st1⟩ := getS2 X0 hx hZ hown (host := "") (Or.inl (tw hw 15 rfl)) Via.refl e0 (S6.ext P2.2) (g := (mkF m 99 #[iv 10] [])) rfl (hb hby d1_99)
  obtain ⟨fs, hr, hrun, hended, hW, hsame⟩ := X1.leave (v := some (.ref w4)) (fun h => by rw [Bd.returns] at h; cases h)
  refine ⟨_, _, pre0 _ ?_, hrun, hended, _, _, rfl, ?_, ⟨_, rfl⟩, hW, hsame.mono (by decide) (by decide)⟩
  · show SF p e below s₁ (mkF m 0 #[iv 10] []) _
    refine XS.iloadN X0.here hx rfl (hb hby d1_0) rfl ?_
    show SF p e below s₁ (mkF m 1 #[iv 10] [(.int 10)]) _
    refine XS.ifYes X0.here hx rfl (pc0 := 1) (pc' := 8) rfl (hb hby d1_1) rfl ((if0 _ _).trans (feq (by decide : ¬ ((10 : Int32) = (0 : Int32)))).2) (by decide) (by decide) ?_
    show SF p e below s₁ (mkF m 8 #[iv 10] []) _
    refine XS.iloadN X0.here hx rfl (hb hby d1_8) rfl ?_
    show SF p e below s₁ (mkF m 9 #[iv 10] [(.int 10)]) _
    refine XS.iconst X0.here hx rfl (hb hby d1_9) ?_
    show SF p e below s₁ (mkF m 10 #[iv 10] [(.int 1), (.int 10)]) _
    refine XS.icmpYes X0.here hx rfl (pc0 := 10) (pc' := 17) rfl (hb hby d1_10) rfl (feq (by decide : ¬ ((10 : Int32) = (1 : Int32)))).2 (by decide) (by decide) ?_
    show SF p e below s₁ (mkF m 17 #[iv 10] []) _
    refine XS.iloadN X0.here hx rfl (hb hby d1_17) rfl ?_
    show SF p e below s₁ (mkF m 18 #[iv 10] [(.int 10)]) _
    refine XS.iconst X0.here hx rfl (hb hby d1_18) ?_
    show SF p e below s₁ (mkF m 19 #[iv 10] [(.int 2), (.int 10)]) _
    refine XS.icmpYes X0.here hx rfl (pc0 := 19) (pc' := 26) rfl (hb hby d1_19) rfl (feq (by decide : ¬ ((10 : Int32) = (2 : Int32)))).2 (by decide) (by decide) ?_
    show SF p e below s₁ (mkF m 26 #[iv 10] []) _
    refine XS.iloadN X0.here hx rfl (hb hby d1_26) rfl ?_
    show SF p e below s₁ (mkF m 27 #[iv 10] [(.int 10)]) _
    refine XS.iconst X0.here hx rfl (hb hby d1_27) ?_
    show SF p e below s₁ (mkF m 28 #[iv 10] [(.int 3), (.int 10)]) _
    refine XS.icmpYes X0.here hx rfl (pc0 := 28) (pc' := 35) rfl (hb hby d1_28) rfl (feq (by decide : ¬ ((10 : Int32) = (3 : Int32)))).2 (by decide) (by decide) ?_
    show SF p e below s₁ (mkF m 35 #[iv 10] []) _
    refine XS.iloadN X0.here hx rfl (hb hby d1_35) rfl ?_
    show SF p e below s₁ (mkF m 36 #[iv 10] [(.int 10)]) _
    refine XS.iconst X0.here hx rfl (hb hby d1_36) ?_
    show SF p e below s₁ (mkF m 37 #[iv 10] [(.int 4), (.int 10)]) _
    refine XS.icmpYes X0.here hx rfl (pc0 := 37) (pc' := 44) rfl (hb hby d1_37) rfl (feq (by decide : ¬ ((10 : Int32) = (4 : Int32)))).2 (by decide) (by decide) ?_
    show SF p e below s₁ (mkF m 44 #[iv 10] []) _
    refine XS.iloadN X0.here hx rfl (hb hby d1_44) rfl ?_
    show SF p e below s₁ (mkF m 45 #[iv 10] [(.int 10)]) _
    refine XS.iconst X0.here hx rfl (hb hby d1_45) ?_
    show SF p e below s₁ (mkF m 46 #[iv 10] [(.int 5), (.int 10)]) _
    refine XS.icmpYes X0.here hx rfl (pc0 := 46) (pc' := 53) rfl (hb hby d1_46) rfl (feq (by decide : ¬ ((10 : Int32) = (5 : Int32)))).2 (by decide) (by decide) ?_
    show SF p e below s₁ (mkF m 53 #[iv 10] []) _
    refine XS.iloadN X0.here hx rfl (hb hby d1_53) rfl ?_
    show SF p e below s₁ (mkF m 54 #[iv 10] [(.int 10)]) _
    refine XS.bipush X0.here hx rfl (hb hby d1_54) ?_
    show SF p e below s₁ (mkF m 56 #[iv 10] [(.int 6), (.int 10)]) _
    refine XS.icmpYes X0.here hx rfl (pc0 := 56) (pc' := 63) rfl (hb hby d1_56) rfl (feq (by decide : ¬ ((10 : Int32) = (6 : Int32)))).2 (by decide) (by decide) ?_
    show SF p e below s₁ (mkF m 63 #[iv 10] []) _
    refine XS.iloadN X0.here hx rfl (hb hby d1_63) rfl ?_
    show SF p e below s₁ (mkF m 64 #[iv 10] [(.int 10)]) _
    refine XS.bipush X0.here hx rfl (hb hby d1_64) ?_
    show SF p e below s₁ (mkF m 66 #[iv 10] [(.int 7), (.int 10)]) _
    refine XS.icmpYes X0.here hx rfl (pc0 := 66) (pc' := 73) rfl (hb hby d1_66) rfl (feq (by decide : ¬ ((10 : Int32) = (7 : Int32)))).2 (by decide) (by decide) ?_
    show SF p e below s₁ (mkF m 73 #[iv 10] []) _
    refine XS.iloadN X0.here hx rfl (hb hby d1_73) rfl ?_
    show SF p e below s₁ (mkF m 74 #[iv 10] [(.int 10)]) _
    refine XS.bipush X0.here hx rfl (hb hby d1_74) ?_
    show SF p e below s₁ (mkF m 76 #[iv 10] [(.int 8), (.int 10)]) _
    refine XS.icmpYes X0.here hx rfl (pc0 := 76) (pc' := 83) rfl (hb hby d1_76) rfl (feq (by decide : ¬ ((10 : Int32) = (8 : Int32)))).2 (by decide) (by decide) ?_
    show SF p e below s₁ (mkF m 83 #[iv 10] []) _
    refine XS.iloadN X0.here hx rfl (hb hby d1_83) rfl ?_
    show SF p e below s₁ (mkF m 84 #[iv 10] [(.int 10)]) _
    refine XS.bipush X0.here hx rfl (hb hby d1_84) ?_
    show SF p e below s₁ (mkF m 86 #[iv 10] [(.int 9), (.int 10)]) _
    refine XS.icmpYes X0.here hx rfl (pc0 := 86) (pc' := 93) rfl (hb hby d1_86) rfl (feq (by decide : ¬ ((10 : Int32) = (9 : Int32)))).2 (by decide) (by decide) ?_
    show SF p e below s₁ (mkF m 93 #[iv 10] []) _
    refine XS.iloadN X0.here hx rfl (hb hby d1_93) rfl ?_
    show SF p e below s₁ (mkF m 94 #[iv 10] [(.int 10)]) _
    refine XS.bipush X0.here hx rfl (hb hby d1_94) ?_
    show SF p e below s₁ (mkF m 96 #[iv 10] [(.int 10), (.int 10)]) _
    refine XS.icmpNo X0.here hx rfl (hb hby d1_96) rfl (teq (by decide : (10 : Int32) = (10 : Int32))).2 ?_
    show SF p e below s₁ (mkF m 99 #[iv 10] []) _
    refine st1 _ ?_
    show SF p e below T1 (mkF m 102 #[iv 10] [(.ref w4)]) _
    exact own_retR X1 hx Bd.returns rfl rfl (hb hby d1_102) hr
  · show Q1_31 Z w4 h0 n0 _ T1.heap _
    rw [e1]
    exact ⟨rfl, N0, rfl⟩
-- XpathTokensNamesNextPinLaw.endsOperand 
def Q2_32 (Z : State) (w4 : Addr) (w2 : Addr) (w3 : Addr) (h0 : Heap) (n0 : Nat) (v : Option Value) (h : Heap) (L : List Loc) : Prop := v = some (.int 1) ∧ Fr n0 L ∧ h = h0
set_option maxRecDepth 65536 in
set_option maxHeartbeats 40000000 in
theorem rm2_32 (l : Launch) (Z : State) (a0 : Array Value) (hw : HW Z a0) (ws : List Jvm.Cond) (w4 : Addr) (w2 : Addr) (w3 : Addr) (h0 : Heap) (n0 : Nat) (Z0 : n0 ≤ h0.size) (S2 : Sta Z Z.heap "com/example/edictum/edictum/io/XpathTokens$Kind" "RIGHT_PAREN" "Lcom/example/edictum/edictum/io/XpathTokens$Kind;" (.ref w2)) (P2 : Old Z n0 h0) (F_w4_ordinal : Fld Z Z.heap w4 "java/lang/Enum" "ordinal" "I" (.int 10)) (F_w2_ordinal : Fld Z Z.heap w2 "java/lang/Enum" "ordinal" "I" (.int 5)) (S4 : Sta Z Z.heap "com/example/edictum/edictum/io/XpathTokens$Kind" "RIGHT_BRACKET" "Lcom/example/edictum/edictum/io/XpathTokens$Kind;" (.ref w3)) (F_w3_ordinal : Fld Z Z.heap w3 "java/lang/Enum" "ordinal" "I" (.int 6)) (S6 : Sta Z Z.heap "com/example/edictum/edictum/io/XpathTokens$Kind" "AXIS" "Lcom/example/edictum/edictum/io/XpathTokens$Kind;" (.ref w4)) :
    MF l Z (⟨"com/example/edictum/edictum/io/XpathTokensNamesNextPinLaw", "endsOperand", "(Lcom/example/edictum/edictum/io/XpathTokens$Kind;)Z"⟩ : MethodName) (Jvm.Cond.code (⟨"com/example/edictum/edictum/io/XpathTokensNamesNextPinLaw", "endsOperand", "(Lcom/example/edictum/edictum/io/XpathTokens$Kind;)Z"⟩ : MethodName) method_3_code 1 (some .boolean)) ws ({ frames := 0, cells := 0, slots := 0, locals := 0 } : Room) #[(.ref w4)] h0 (Q2_32 Z w4 w2 w3 h0 n0) := by
  refine MetFree.of_bodySF (plainFor_of_name pn_0) hisR ?_
  intro p e s m args below meth c s₁ Bd hml0 hP hK
  obtain ⟨rfl, hZ, hh⟩ := hP
  have hx := Bd.exec
  have hby := Bd.bytes
  have hml : c.maxLocals = 1 := hml0
  have hown : s.vm.findClass "com/example/edictum/edictum/io/XpathTokensNamesNextPinLaw" = some m.cls := findClass_of_methodNamed Bd.named
  have hnm := (name_of_methodNamed Bd.named Bd.method).1
  have X0 : Stand p l e ({ frames := 0, cells := 0, slots := 0, locals := 0 } : Room) s m #[(.ref w4)] below meth c s₁ [] 0 0 := Stand.of_body Bd
  have e0 : s₁.heap = h0 := by rw [← hh, Bd.state]; rfl
  have N0 := Fr.nil n0
  have pre0 : ∀ t, SF p e below s₁ (mkF m 0 #[rv w4] []) t → SF p e below s₁ (entryFrame m #[(.ref w4)] 1) t := fun t k => castTop (ef_1 m w4) k
  obtain ⟨T1, X1, e1, st1⟩ := getS2 X0 hx hZ hown (host := "") (Or.inl (tw hw 11 rfl)) Via.refl e0 (S2.ext P2.2) (g := (mkF m 1 #[rv w4] [(.ref w4)])) rfl (hb hby d2_1)
  obtain ⟨T2, X2, e2, st2⟩ := getS2 X1 hx hZ hown (host := "") (Or.inl (tw hw 13 rfl)) Via.refl e1 (S4.ext P2.2) (g := (mkF m 8 #[rv w4] [(.ref w4)])) rfl (hb hby d2_8)
  obtain ⟨T3, X3, e3, st3⟩ := getS2 X2 hx hZ hown (host := "") (Or.inl (tw hw 15 rfl)) Via.refl e2 (S6.ext P2.2) (g := (mkF m 15 #[rv w4] [(.ref w4)])) rfl (hb hby d2_15)
  obtain ⟨fs, hr, hrun, hended, hW, hsame⟩ := X3.leave (v := some (.int 1)) (fun h => by rw [Bd.returns] at h; cases h)
  refine ⟨_, _, pre0 _ ?_, hrun, hended, _, _, rfl, ?_, ⟨_, rfl⟩, hW, hsame.mono (by decide) (by decide)⟩
  · show SF p e below s₁ (mkF m 0 #[rv w4] []) _
    refine XS.aloadN X0.here hx rfl (hb hby d2_0) rfl rfl ?_
    show SF p e below s₁ (mkF m 1 #[rv w4] [(.ref w4)]) _
    refine st1 _ ?_
    show SF p e below T1 (mkF m 4 #[rv w4] [(.ref w2), (.ref w4)]) _
    refine Jvm.RoadKit.acmp (g := (mkF m 4 #[rv w4] [(.ref w2), (.ref w4)])) X1 hx rfl rfl rfl (pc0 := 4) (pc' := 7) (same := false) rfl (hb hby d2_4) rfl (decide_eq_false fun q => (Fld.ne F_w4_ordinal F_w2_ordinal (by decide)) (Value.ref.inj q)) (by decide) (by decide) ?_
    show SF p e below T1 (mkF m 7 #[rv w4] []) _
    refine XS.aloadN X1.here hx rfl (hb hby d2_7) rfl rfl ?_
    show SF p e below T1 (mkF m 8 #[rv w4] [(.ref w4)]) _
    refine st2 _ ?_
    show SF p e below T2 (mkF m 11 #[rv w4] [(.ref w3), (.ref w4)]) _
    refine Jvm.RoadKit.acmp (g := (mkF m 11 #[rv w4] [(.ref w3), (.ref w4)])) X2 hx rfl rfl rfl (pc0 := 11) (pc' := 14) (same := false) rfl (hb hby d2_11) rfl (decide_eq_false fun q => (Fld.ne F_w4_ordinal F_w3_ordinal (by decide)) (Value.ref.inj q)) (by decide) (by decide) ?_
    show SF p e below T2 (mkF m 14 #[rv w4] []) _
    refine XS.aloadN X2.here hx rfl (hb hby d2_14) rfl rfl ?_
    show SF p e below T2 (mkF m 15 #[rv w4] [(.ref w4)]) _
    refine st3 _ ?_
    show SF p e below T3 (mkF m 18 #[rv w4] [(.ref w4), (.ref w4)]) _
    refine Jvm.RoadKit.acmp (g := (mkF m 18 #[rv w4] [(.ref w4), (.ref w4)])) X3 hx rfl rfl rfl (pc0 := 18) (pc' := 70) (same := true) rfl (hb hby d2_18) rfl (decide_eq_true rfl) (by decide) (by decide) ?_
    show SF p e below T3 (mkF m 70 #[rv w4] []) _
    refine XS.iconst X3.here hx rfl (hb hby d2_70) ?_
    show SF p e below T3 (mkF m 71 #[rv w4] [(.int 1)]) _
    refine XS.goto X3.here hx rfl (pc0 := 71) (pc' := 75) rfl (hb hby d2_71) (by decide) (by decide) ?_
    show SF p e below T3 (mkF m 75 #[rv w4] [(.int 1)]) _
    exact retN X3 hx (t := .boolean) Bd.returns (by simp) (hb hby d2_75) hr
  · show Q2_32 Z w4 w2 w3 h0 n0 _ T3.heap _
    rw [e3]
    exact ⟨rfl, N0, rfl⟩
-- XpathTokens$Kind.namesNext 
def Q3_33 (Z : State) (w4 : Addr) (w1 : Addr) (w13 : Addr) (w14 : Addr) (w12 : Addr) (w16 : Addr) (w15 : Addr) (w17 : Addr) (w18 : Addr) (h0 : Heap) (n0 : Nat) (v : Option Value) (h : Heap) (L : List Loc) : Prop := v = some (.int 0) ∧ Fr n0 L ∧ h = h0
set_option maxRecDepth 65536 in
set_option maxHeartbeats 40000000 in
theorem rm3_33 (l : Launch) (Z : State) (a0 : Array Value) (hw : HW Z a0) (ws : List Jvm.Cond) (w4 : Addr) (w1 : Addr) (w13 : Addr) (w14 : Addr) (w12 : Addr) (w16 : Addr) (w15 : Addr) (w17 : Addr) (w18 : Addr) (h0 : Heap) (n0 : Nat) (Z0 : n0 ≤ h0.size) (S0 : Sta Z Z.heap "com/example/edictum/edictum/io/XpathTokens$Kind" "AT" "Lcom/example/edictum/edictum/io/XpathTokens$Kind;" (.ref w1)) (P2 : Old Z n0 h0) (F_w4_ordinal : Fld Z Z.heap w4 "java/lang/Enum" "ordinal" "I" (.int 10)) (F_w1_ordinal : Fld Z Z.heap w1 "java/lang/Enum" "ordinal" "I" (.int 0)) (S24 : Sta Z Z.heap "com/example/edictum/edictum/io/XpathTokens$Kind" "AXIS_SEPARATOR" "Lcom/example/edictum/edictum/io/XpathTokens$Kind;" (.ref w13)) (F_w13_ordinal : Fld Z Z.heap w13 "java/lang/Enum" "ordinal" "I" (.int 1)) (S26 : Sta Z Z.heap "com/example/edictum/edictum/io/XpathTokens$Kind" "LEFT_PAREN" "Lcom/example/edictum/edictum/io/XpathTokens$Kind;" (.ref w14)) (F_w14_ordinal : Fld Z Z.heap w14 "java/lang/Enum" "ordinal" "I" (.int 2)) (S22 : Sta Z Z.heap "com/example/edictum/edictum/io/XpathTokens$Kind" "LEFT_BRACKET" "Lcom/example/edictum/edictum/io/XpathTokens$Kind;" (.ref w12)) (F_w12_ordinal : Fld Z Z.heap w12 "java/lang/Enum" "ordinal" "I" (.int 3)) (S30 : Sta Z Z.heap "com/example/edictum/edictum/io/XpathTokens$Kind" "COMMA" "Lcom/example/edictum/edictum/io/XpathTokens$Kind;" (.ref w16)) (F_w16_ordinal : Fld Z Z.heap w16 "java/lang/Enum" "ordinal" "I" (.int 4)) (S28 : Sta Z Z.heap "com/example/edictum/edictum/io/XpathTokens$Kind" "SLASH" "Lcom/example/edictum/edictum/io/XpathTokens$Kind;" (.ref w15)) (F_w15_ordinal : Fld Z Z.heap w15 "java/lang/Enum" "ordinal" "I" (.int 7)) (S32 : Sta Z Z.heap "com/example/edictum/edictum/io/XpathTokens$Kind" "DOUBLE_SLASH" "Lcom/example/edictum/edictum/io/XpathTokens$Kind;" (.ref w17)) (F_w17_ordinal : Fld Z Z.heap w17 "java/lang/Enum" "ordinal" "I" (.int 8)) (S34 : Sta Z Z.heap "com/example/edictum/edictum/io/XpathTokens$Kind" "OPERATOR" "Lcom/example/edictum/edictum/io/XpathTokens$Kind;" (.ref w18)) (F_w18_ordinal : Fld Z Z.heap w18 "java/lang/Enum" "ordinal" "I" (.int 9)) :
    MF l Z (⟨"com/example/edictum/edictum/io/XpathTokens$Kind", "namesNext", "()Z"⟩ : MethodName) (Jvm.Cond.code (⟨"com/example/edictum/edictum/io/XpathTokens$Kind", "namesNext", "()Z"⟩ : MethodName) prog_251_method_4_code 1 (some .boolean)) ws ({ frames := 0, cells := 0, slots := 0, locals := 0 } : Room) #[(.ref w4)] h0 (Q3_33 Z w4 w1 w13 w14 w12 w16 w15 w17 w18 h0 n0) := by
  refine MetFree.of_bodySF (plainFor_of_name pn_1) hisR ?_
  intro p e s m args below meth c s₁ Bd hml0 hP hK
  obtain ⟨rfl, hZ, hh⟩ := hP
  have hx := Bd.exec
  have hby := Bd.bytes
  have hml : c.maxLocals = 1 := hml0
  have hown : s.vm.findClass "com/example/edictum/edictum/io/XpathTokens$Kind" = some m.cls := findClass_of_methodNamed Bd.named
  have hnm := (name_of_methodNamed Bd.named Bd.method).1
  have X0 : Stand p l e ({ frames := 0, cells := 0, slots := 0, locals := 0 } : Room) s m #[(.ref w4)] below meth c s₁ [] 0 0 := Stand.of_body Bd
  have e0 : s₁.heap = h0 := by rw [← hh, Bd.state]; rfl
  have N0 := Fr.nil n0
  have pre0 : ∀ t, SF p e below s₁ (mkF m 0 #[rv w4] []) t → SF p e below s₁ (entryFrame m #[(.ref w4)] 1) t := fun t k => castTop (ef_2 m w4) k
  obtain ⟨T1, X1, e1, st1⟩ := getS2 X0 hx hZ hown (host := "") (Or.inl (tw hw 36 rfl)) Via.refl e0 (S0.ext P2.2) (g := (mkF m 1 #[rv w4] [(.ref w4)])) rfl (hb hby d3_1)
  obtain ⟨T2, X2, e2, st2⟩ := getS2 X1 hx hZ hown (host := "") (Or.inl (tw hw 39 rfl)) Via.refl e1 (S24.ext P2.2) (g := (mkF m 8 #[rv w4] [(.ref w4)])) rfl (hb hby d3_8)
  obtain ⟨T3, X3, e3, st3⟩ := getS2 X2 hx hZ hown (host := "") (Or.inl (tw hw 41 rfl)) Via.refl e2 (S26.ext P2.2) (g := (mkF m 15 #[rv w4] [(.ref w4)])) rfl (hb hby d3_15)
  obtain ⟨T4, X4, e4, st4⟩ := getS2 X3 hx hZ hown (host := "") (Or.inl (tw hw 43 rfl)) Via.refl e3 (S22.ext P2.2) (g := (mkF m 22 #[rv w4] [(.ref w4)])) rfl (hb hby d3_22)
  obtain ⟨T5, X5, e5, st5⟩ := getS2 X4 hx hZ hown (host := "") (Or.inl (tw hw 48 rfl)) Via.refl e4 (S30.ext P2.2) (g := (mkF m 29 #[rv w4] [(.ref w4)])) rfl (hb hby d3_29)
  obtain ⟨T6, X6, e6, st6⟩ := getS2 X5 hx hZ hown (host := "") (Or.inl (tw hw 50 rfl)) Via.refl e5 (S28.ext P2.2) (g := (mkF m 36 #[rv w4] [(.ref w4)])) rfl (hb hby d3_36)
  obtain ⟨T7, X7, e7, st7⟩ := getS2 X6 hx hZ hown (host := "") (Or.inl (tw hw 51 rfl)) Via.refl e6 (S32.ext P2.2) (g := (mkF m 43 #[rv w4] [(.ref w4)])) rfl (hb hby d3_43)
  obtain ⟨T8, X8, e8, st8⟩ := getS2 X7 hx hZ hown (host := "") (Or.inl (tw hw 53 rfl)) Via.refl e7 (S34.ext P2.2) (g := (mkF m 50 #[rv w4] [(.ref w4)])) rfl (hb hby d3_50)
  obtain ⟨fs, hr, hrun, hended, hW, hsame⟩ := X8.leave (v := some (.int 0)) (fun h => by rw [Bd.returns] at h; cases h)
  refine ⟨_, _, pre0 _ ?_, hrun, hended, _, _, rfl, ?_, ⟨_, rfl⟩, hW, hsame.mono (by decide) (by decide)⟩
  · show SF p e below s₁ (mkF m 0 #[rv w4] []) _
    refine XS.aloadN X0.here hx rfl (hb hby d3_0) rfl rfl ?_
    show SF p e below s₁ (mkF m 1 #[rv w4] [(.ref w4)]) _
    refine st1 _ ?_
    show SF p e below T1 (mkF m 4 #[rv w4] [(.ref w1), (.ref w4)]) _
    refine Jvm.RoadKit.acmp (g := (mkF m 4 #[rv w4] [(.ref w1), (.ref w4)])) X1 hx rfl rfl rfl (pc0 := 4) (pc' := 7) (same := false) rfl (hb hby d3_4) rfl (decide_eq_false fun q => (Fld.ne F_w4_ordinal F_w1_ordinal (by decide)) (Value.ref.inj q)) (by decide) (by decide) ?_
    show SF p e below T1 (mkF m 7 #[rv w4] []) _
    refine XS.aloadN X1.here hx rfl (hb hby d3_7) rfl rfl ?_
    show SF p e below T1 (mkF m 8 #[rv w4] [(.ref w4)]) _
    refine st2 _ ?_
    show SF p e below T2 (mkF m 11 #[rv w4] [(.ref w13), (.ref w4)]) _
    refine Jvm.RoadKit.acmp (g := (mkF m 11 #[rv w4] [(.ref w13), (.ref w4)])) X2 hx rfl rfl rfl (pc0 := 11) (pc' := 14) (same := false) rfl (hb hby d3_11) rfl (decide_eq_false fun q => (Fld.ne F_w4_ordinal F_w13_ordinal (by decide)) (Value.ref.inj q)) (by decide) (by decide) ?_
    show SF p e below T2 (mkF m 14 #[rv w4] []) _
    refine XS.aloadN X2.here hx rfl (hb hby d3_14) rfl rfl ?_
    show SF p e below T2 (mkF m 15 #[rv w4] [(.ref w4)]) _
    refine st3 _ ?_
    show SF p e below T3 (mkF m 18 #[rv w4] [(.ref w14), (.ref w4)]) _
    refine Jvm.RoadKit.acmp (g := (mkF m 18 #[rv w4] [(.ref w14), (.ref w4)])) X3 hx rfl rfl rfl (pc0 := 18) (pc' := 21) (same := false) rfl (hb hby d3_18) rfl (decide_eq_false fun q => (Fld.ne F_w4_ordinal F_w14_ordinal (by decide)) (Value.ref.inj q)) (by decide) (by decide) ?_
    show SF p e below T3 (mkF m 21 #[rv w4] []) _
    refine XS.aloadN X3.here hx rfl (hb hby d3_21) rfl rfl ?_
    show SF p e below T3 (mkF m 22 #[rv w4] [(.ref w4)]) _
    refine st4 _ ?_
    show SF p e below T4 (mkF m 25 #[rv w4] [(.ref w12), (.ref w4)]) _
    refine Jvm.RoadKit.acmp (g := (mkF m 25 #[rv w4] [(.ref w12), (.ref w4)])) X4 hx rfl rfl rfl (pc0 := 25) (pc' := 28) (same := false) rfl (hb hby d3_25) rfl (decide_eq_false fun q => (Fld.ne F_w4_ordinal F_w12_ordinal (by decide)) (Value.ref.inj q)) (by decide) (by decide) ?_
    show SF p e below T4 (mkF m 28 #[rv w4] []) _
    refine XS.aloadN X4.here hx rfl (hb hby d3_28) rfl rfl ?_
    show SF p e below T4 (mkF m 29 #[rv w4] [(.ref w4)]) _
    refine st5 _ ?_
    show SF p e below T5 (mkF m 32 #[rv w4] [(.ref w16), (.ref w4)]) _
    refine Jvm.RoadKit.acmp (g := (mkF m 32 #[rv w4] [(.ref w16), (.ref w4)])) X5 hx rfl rfl rfl (pc0 := 32) (pc' := 35) (same := false) rfl (hb hby d3_32) rfl (decide_eq_false fun q => (Fld.ne F_w4_ordinal F_w16_ordinal (by decide)) (Value.ref.inj q)) (by decide) (by decide) ?_
    show SF p e below T5 (mkF m 35 #[rv w4] []) _
    refine XS.aloadN X5.here hx rfl (hb hby d3_35) rfl rfl ?_
    show SF p e below T5 (mkF m 36 #[rv w4] [(.ref w4)]) _
    refine st6 _ ?_
    show SF p e below T6 (mkF m 39 #[rv w4] [(.ref w15), (.ref w4)]) _
    refine Jvm.RoadKit.acmp (g := (mkF m 39 #[rv w4] [(.ref w15), (.ref w4)])) X6 hx rfl rfl rfl (pc0 := 39) (pc' := 42) (same := false) rfl (hb hby d3_39) rfl (decide_eq_false fun q => (Fld.ne F_w4_ordinal F_w15_ordinal (by decide)) (Value.ref.inj q)) (by decide) (by decide) ?_
    show SF p e below T6 (mkF m 42 #[rv w4] []) _
    refine XS.aloadN X6.here hx rfl (hb hby d3_42) rfl rfl ?_
    show SF p e below T6 (mkF m 43 #[rv w4] [(.ref w4)]) _
    refine st7 _ ?_
    show SF p e below T7 (mkF m 46 #[rv w4] [(.ref w17), (.ref w4)]) _
    refine Jvm.RoadKit.acmp (g := (mkF m 46 #[rv w4] [(.ref w17), (.ref w4)])) X7 hx rfl rfl rfl (pc0 := 46) (pc' := 49) (same := false) rfl (hb hby d3_46) rfl (decide_eq_false fun q => (Fld.ne F_w4_ordinal F_w17_ordinal (by decide)) (Value.ref.inj q)) (by decide) (by decide) ?_
    show SF p e below T7 (mkF m 49 #[rv w4] []) _
    refine XS.aloadN X7.here hx rfl (hb hby d3_49) rfl rfl ?_
    show SF p e below T7 (mkF m 50 #[rv w4] [(.ref w4)]) _
    refine st8 _ ?_
    show SF p e below T8 (mkF m 53 #[rv w4] [(.ref w18), (.ref w4)]) _
    refine Jvm.RoadKit.acmp (g := (mkF m 53 #[rv w4] [(.ref w18), (.ref w4)])) X8 hx rfl rfl rfl (pc0 := 53) (pc' := 60) (same := false) rfl (hb hby d3_53) rfl (decide_eq_false fun q => (Fld.ne F_w4_ordinal F_w18_ordinal (by decide)) (Value.ref.inj q)) (by decide) (by decide) ?_
    show SF p e below T8 (mkF m 60 #[rv w4] []) _
    refine XS.iconst X8.here hx rfl (hb hby d3_60) ?_
    show SF p e below T8 (mkF m 61 #[rv w4] [(.int 0)]) _
    exact retN X8 hx (t := .boolean) Bd.returns (by simp) (hb hby d3_61) hr
  · show Q3_33 Z w4 w1 w13 w14 w12 w16 w15 w17 w18 h0 n0 _ T8.heap _
    rw [e8]
    exact ⟨rfl, N0, rfl⟩
theorem d1_103 : decode method_2_code 103 = .ok (.iload_n 0, 1) := by decide +kernel
theorem d1_104 : decode method_2_code 104 = .ok (.bipush 11, 2) := by decide +kernel
theorem d1_106 : decode method_2_code 106 = .ok (.if_icmp .ne 7, 3) := by decide +kernel
theorem d1_109 : decode method_2_code 109 = .ok (.getstatic 43, 3) := by decide +kernel
theorem d1_112 : decode method_2_code 112 = .ok (.areturn, 1) := by decide +kernel
-- XpathTokensNamesNextPinLaw.kindOf 
def Q1_34 (Z : State) (w5 : Addr) (h0 : Heap) (n0 : Nat) (v : Option Value) (h : Heap) (L : List Loc) : Prop := v = some (.ref w5) ∧ Fr n0 L ∧ h = h0
set_option maxRecDepth 65536 in
set_option maxHeartbeats 40000000 in
theorem rm1_34 (l : Launch) (Z : State) (a0 : Array Value) (hw : HW Z a0) (ws : List Jvm.Cond) (w5 : Addr) (h0 : Heap) (n0 : Nat) (Z0 : n0 ≤ h0.size) (S8 : Sta Z Z.heap "com/example/edictum/edictum/io/XpathTokens$Kind" "FUNCTION" "Lcom/example/edictum/edictum/io/XpathTokens$Kind;" (.ref w5)) (P2 : Old Z n0 h0) :
    MF l Z (⟨"com/example/edictum/edictum/io/XpathTokensNamesNextPinLaw", "kindOf", "(I)Lcom/example/edictum/edictum/io/XpathTokens$Kind;"⟩ : MethodName) (Jvm.Cond.code (⟨"com/example/edictum/edictum/io/XpathTokensNamesNextPinLaw", "kindOf", "(I)Lcom/example/edictum/edictum/io/XpathTokens$Kind;"⟩ : MethodName) method_2_code 1 (some (.object "com/example/edictum/edictum/io/XpathTokens$Kind"))) ws ({ frames := 0, cells := 0, slots := 0, locals := 0 } : Room) #[(.int 11)] h0 (Q1_34 Z w5 h0 n0) := by
  refine MetFree.of_bodySF (plainFor_of_name pn_0) hisR ?_
  intro p e s m args below meth c s₁ Bd hml0 hP hK
  obtain ⟨rfl, hZ, hh⟩ := hP
  have hx := Bd.exec
  have hby := Bd.bytes
  have hml : c.maxLocals = 1 := hml0
  have hown : s.vm.findClass "com/example/edictum/edictum/io/XpathTokensNamesNextPinLaw" = some m.cls := findClass_of_methodNamed Bd.named
  have hnm := (name_of_methodNamed Bd.named Bd.method).1
  have X0 : Stand p l e ({ frames := 0, cells := 0, slots := 0, locals := 0 } : Room) s m #[(.int 11)] below meth c s₁ [] 0 0 := Stand.of_body Bd
  have e0 : s₁.heap = h0 := by rw [← hh, Bd.state]; rfl
  have N0 := Fr.nil n0
  have pre0 : ∀ t, SF p e below s₁ (mkF m 0 #[iv 11] []) t → SF p e below s₁ (entryFrame m #[(.int 11)] 1) t := fun t k => castTop (ef_0 m (11 : Int32)) k
  obtain ⟨T1, X1, e1, st1⟩ := getS2 X0 hx hZ hown (host := "") (Or.inl (tw hw 17 rfl)) Via.refl e0 (S8.ext P2.2) (g := (mkF m 109 #[iv 11] [])) rfl (hb hby d1_109)
  obtain ⟨fs, hr, hrun, hended, hW, hsame⟩ := X1.leave (v := some (.ref w5)) (fun h => by rw [Bd.returns] at h; cases h)
  refine ⟨_, _, pre0 _ ?_, hrun, hended, _, _, rfl, ?_, ⟨_, rfl⟩, hW, hsame.mono (by decide) (by decide)⟩
  · show SF p e below s₁ (mkF m 0 #[iv 11] []) _
    refine XS.iloadN X0.here hx rfl (hb hby d1_0) rfl ?_
    show SF p e below s₁ (mkF m 1 #[iv 11] [(.int 11)]) _
    refine XS.ifYes X0.here hx rfl (pc0 := 1) (pc' := 8) rfl (hb hby d1_1) rfl ((if0 _ _).trans (feq (by decide : ¬ ((11 : Int32) = (0 : Int32)))).2) (by decide) (by decide) ?_
    show SF p e below s₁ (mkF m 8 #[iv 11] []) _
    refine XS.iloadN X0.here hx rfl (hb hby d1_8) rfl ?_
    show SF p e below s₁ (mkF m 9 #[iv 11] [(.int 11)]) _
    refine XS.iconst X0.here hx rfl (hb hby d1_9) ?_
    show SF p e below s₁ (mkF m 10 #[iv 11] [(.int 1), (.int 11)]) _
    refine XS.icmpYes X0.here hx rfl (pc0 := 10) (pc' := 17) rfl (hb hby d1_10) rfl (feq (by decide : ¬ ((11 : Int32) = (1 : Int32)))).2 (by decide) (by decide) ?_
    show SF p e below s₁ (mkF m 17 #[iv 11] []) _
    refine XS.iloadN X0.here hx rfl (hb hby d1_17) rfl ?_
    show SF p e below s₁ (mkF m 18 #[iv 11] [(.int 11)]) _
    refine XS.iconst X0.here hx rfl (hb hby d1_18) ?_
    show SF p e below s₁ (mkF m 19 #[iv 11] [(.int 2), (.int 11)]) _
    refine XS.icmpYes X0.here hx rfl (pc0 := 19) (pc' := 26) rfl (hb hby d1_19) rfl (feq (by decide : ¬ ((11 : Int32) = (2 : Int32)))).2 (by decide) (by decide) ?_
    show SF p e below s₁ (mkF m 26 #[iv 11] []) _
    refine XS.iloadN X0.here hx rfl (hb hby d1_26) rfl ?_
    show SF p e below s₁ (mkF m 27 #[iv 11] [(.int 11)]) _
    refine XS.iconst X0.here hx rfl (hb hby d1_27) ?_
    show SF p e below s₁ (mkF m 28 #[iv 11] [(.int 3), (.int 11)]) _
    refine XS.icmpYes X0.here hx rfl (pc0 := 28) (pc' := 35) rfl (hb hby d1_28) rfl (feq (by decide : ¬ ((11 : Int32) = (3 : Int32)))).2 (by decide) (by decide) ?_
    show SF p e below s₁ (mkF m 35 #[iv 11] []) _
    refine XS.iloadN X0.here hx rfl (hb hby d1_35) rfl ?_
    show SF p e below s₁ (mkF m 36 #[iv 11] [(.int 11)]) _
    refine XS.iconst X0.here hx rfl (hb hby d1_36) ?_
    show SF p e below s₁ (mkF m 37 #[iv 11] [(.int 4), (.int 11)]) _
    refine XS.icmpYes X0.here hx rfl (pc0 := 37) (pc' := 44) rfl (hb hby d1_37) rfl (feq (by decide : ¬ ((11 : Int32) = (4 : Int32)))).2 (by decide) (by decide) ?_
    show SF p e below s₁ (mkF m 44 #[iv 11] []) _
    refine XS.iloadN X0.here hx rfl (hb hby d1_44) rfl ?_
    show SF p e below s₁ (mkF m 45 #[iv 11] [(.int 11)]) _
    refine XS.iconst X0.here hx rfl (hb hby d1_45) ?_
    show SF p e below s₁ (mkF m 46 #[iv 11] [(.int 5), (.int 11)]) _
    refine XS.icmpYes X0.here hx rfl (pc0 := 46) (pc' := 53) rfl (hb hby d1_46) rfl (feq (by decide : ¬ ((11 : Int32) = (5 : Int32)))).2 (by decide) (by decide) ?_
    show SF p e below s₁ (mkF m 53 #[iv 11] []) _
    refine XS.iloadN X0.here hx rfl (hb hby d1_53) rfl ?_
    show SF p e below s₁ (mkF m 54 #[iv 11] [(.int 11)]) _
    refine XS.bipush X0.here hx rfl (hb hby d1_54) ?_
    show SF p e below s₁ (mkF m 56 #[iv 11] [(.int 6), (.int 11)]) _
    refine XS.icmpYes X0.here hx rfl (pc0 := 56) (pc' := 63) rfl (hb hby d1_56) rfl (feq (by decide : ¬ ((11 : Int32) = (6 : Int32)))).2 (by decide) (by decide) ?_
    show SF p e below s₁ (mkF m 63 #[iv 11] []) _
    refine XS.iloadN X0.here hx rfl (hb hby d1_63) rfl ?_
    show SF p e below s₁ (mkF m 64 #[iv 11] [(.int 11)]) _
    refine XS.bipush X0.here hx rfl (hb hby d1_64) ?_
    show SF p e below s₁ (mkF m 66 #[iv 11] [(.int 7), (.int 11)]) _
    refine XS.icmpYes X0.here hx rfl (pc0 := 66) (pc' := 73) rfl (hb hby d1_66) rfl (feq (by decide : ¬ ((11 : Int32) = (7 : Int32)))).2 (by decide) (by decide) ?_
    show SF p e below s₁ (mkF m 73 #[iv 11] []) _
    refine XS.iloadN X0.here hx rfl (hb hby d1_73) rfl ?_
    show SF p e below s₁ (mkF m 74 #[iv 11] [(.int 11)]) _
    refine XS.bipush X0.here hx rfl (hb hby d1_74) ?_
    show SF p e below s₁ (mkF m 76 #[iv 11] [(.int 8), (.int 11)]) _
    refine XS.icmpYes X0.here hx rfl (pc0 := 76) (pc' := 83) rfl (hb hby d1_76) rfl (feq (by decide : ¬ ((11 : Int32) = (8 : Int32)))).2 (by decide) (by decide) ?_
    show SF p e below s₁ (mkF m 83 #[iv 11] []) _
    refine XS.iloadN X0.here hx rfl (hb hby d1_83) rfl ?_
    show SF p e below s₁ (mkF m 84 #[iv 11] [(.int 11)]) _
    refine XS.bipush X0.here hx rfl (hb hby d1_84) ?_
    show SF p e below s₁ (mkF m 86 #[iv 11] [(.int 9), (.int 11)]) _
    refine XS.icmpYes X0.here hx rfl (pc0 := 86) (pc' := 93) rfl (hb hby d1_86) rfl (feq (by decide : ¬ ((11 : Int32) = (9 : Int32)))).2 (by decide) (by decide) ?_
    show SF p e below s₁ (mkF m 93 #[iv 11] []) _
    refine XS.iloadN X0.here hx rfl (hb hby d1_93) rfl ?_
    show SF p e below s₁ (mkF m 94 #[iv 11] [(.int 11)]) _
    refine XS.bipush X0.here hx rfl (hb hby d1_94) ?_
    show SF p e below s₁ (mkF m 96 #[iv 11] [(.int 10), (.int 11)]) _
    refine XS.icmpYes X0.here hx rfl (pc0 := 96) (pc' := 103) rfl (hb hby d1_96) rfl (feq (by decide : ¬ ((11 : Int32) = (10 : Int32)))).2 (by decide) (by decide) ?_
    show SF p e below s₁ (mkF m 103 #[iv 11] []) _
    refine XS.iloadN X0.here hx rfl (hb hby d1_103) rfl ?_
    show SF p e below s₁ (mkF m 104 #[iv 11] [(.int 11)]) _
    refine XS.bipush X0.here hx rfl (hb hby d1_104) ?_
    show SF p e below s₁ (mkF m 106 #[iv 11] [(.int 11), (.int 11)]) _
    refine XS.icmpNo X0.here hx rfl (hb hby d1_106) rfl (teq (by decide : (11 : Int32) = (11 : Int32))).2 ?_
    show SF p e below s₁ (mkF m 109 #[iv 11] []) _
    refine st1 _ ?_
    show SF p e below T1 (mkF m 112 #[iv 11] [(.ref w5)]) _
    exact own_retR X1 hx Bd.returns rfl rfl (hb hby d1_112) hr
  · show Q1_34 Z w5 h0 n0 _ T1.heap _
    rw [e1]
    exact ⟨rfl, N0, rfl⟩
-- XpathTokensNamesNextPinLaw.endsOperand 
def Q2_35 (Z : State) (w5 : Addr) (w2 : Addr) (w3 : Addr) (w4 : Addr) (h0 : Heap) (n0 : Nat) (v : Option Value) (h : Heap) (L : List Loc) : Prop := v = some (.int 1) ∧ Fr n0 L ∧ h = h0
set_option maxRecDepth 65536 in
set_option maxHeartbeats 40000000 in
theorem rm2_35 (l : Launch) (Z : State) (a0 : Array Value) (hw : HW Z a0) (ws : List Jvm.Cond) (w5 : Addr) (w2 : Addr) (w3 : Addr) (w4 : Addr) (h0 : Heap) (n0 : Nat) (Z0 : n0 ≤ h0.size) (S2 : Sta Z Z.heap "com/example/edictum/edictum/io/XpathTokens$Kind" "RIGHT_PAREN" "Lcom/example/edictum/edictum/io/XpathTokens$Kind;" (.ref w2)) (P2 : Old Z n0 h0) (F_w5_ordinal : Fld Z Z.heap w5 "java/lang/Enum" "ordinal" "I" (.int 11)) (F_w2_ordinal : Fld Z Z.heap w2 "java/lang/Enum" "ordinal" "I" (.int 5)) (S4 : Sta Z Z.heap "com/example/edictum/edictum/io/XpathTokens$Kind" "RIGHT_BRACKET" "Lcom/example/edictum/edictum/io/XpathTokens$Kind;" (.ref w3)) (F_w3_ordinal : Fld Z Z.heap w3 "java/lang/Enum" "ordinal" "I" (.int 6)) (S6 : Sta Z Z.heap "com/example/edictum/edictum/io/XpathTokens$Kind" "AXIS" "Lcom/example/edictum/edictum/io/XpathTokens$Kind;" (.ref w4)) (F_w4_ordinal : Fld Z Z.heap w4 "java/lang/Enum" "ordinal" "I" (.int 10)) (S8 : Sta Z Z.heap "com/example/edictum/edictum/io/XpathTokens$Kind" "FUNCTION" "Lcom/example/edictum/edictum/io/XpathTokens$Kind;" (.ref w5)) :
    MF l Z (⟨"com/example/edictum/edictum/io/XpathTokensNamesNextPinLaw", "endsOperand", "(Lcom/example/edictum/edictum/io/XpathTokens$Kind;)Z"⟩ : MethodName) (Jvm.Cond.code (⟨"com/example/edictum/edictum/io/XpathTokensNamesNextPinLaw", "endsOperand", "(Lcom/example/edictum/edictum/io/XpathTokens$Kind;)Z"⟩ : MethodName) method_3_code 1 (some .boolean)) ws ({ frames := 0, cells := 0, slots := 0, locals := 0 } : Room) #[(.ref w5)] h0 (Q2_35 Z w5 w2 w3 w4 h0 n0) := by
  refine MetFree.of_bodySF (plainFor_of_name pn_0) hisR ?_
  intro p e s m args below meth c s₁ Bd hml0 hP hK
  obtain ⟨rfl, hZ, hh⟩ := hP
  have hx := Bd.exec
  have hby := Bd.bytes
  have hml : c.maxLocals = 1 := hml0
  have hown : s.vm.findClass "com/example/edictum/edictum/io/XpathTokensNamesNextPinLaw" = some m.cls := findClass_of_methodNamed Bd.named
  have hnm := (name_of_methodNamed Bd.named Bd.method).1
  have X0 : Stand p l e ({ frames := 0, cells := 0, slots := 0, locals := 0 } : Room) s m #[(.ref w5)] below meth c s₁ [] 0 0 := Stand.of_body Bd
  have e0 : s₁.heap = h0 := by rw [← hh, Bd.state]; rfl
  have N0 := Fr.nil n0
  have pre0 : ∀ t, SF p e below s₁ (mkF m 0 #[rv w5] []) t → SF p e below s₁ (entryFrame m #[(.ref w5)] 1) t := fun t k => castTop (ef_1 m w5) k
  obtain ⟨T1, X1, e1, st1⟩ := getS2 X0 hx hZ hown (host := "") (Or.inl (tw hw 11 rfl)) Via.refl e0 (S2.ext P2.2) (g := (mkF m 1 #[rv w5] [(.ref w5)])) rfl (hb hby d2_1)
  obtain ⟨T2, X2, e2, st2⟩ := getS2 X1 hx hZ hown (host := "") (Or.inl (tw hw 13 rfl)) Via.refl e1 (S4.ext P2.2) (g := (mkF m 8 #[rv w5] [(.ref w5)])) rfl (hb hby d2_8)
  obtain ⟨T3, X3, e3, st3⟩ := getS2 X2 hx hZ hown (host := "") (Or.inl (tw hw 15 rfl)) Via.refl e2 (S6.ext P2.2) (g := (mkF m 15 #[rv w5] [(.ref w5)])) rfl (hb hby d2_15)
  obtain ⟨T4, X4, e4, st4⟩ := getS2 X3 hx hZ hown (host := "") (Or.inl (tw hw 17 rfl)) Via.refl e3 (S8.ext P2.2) (g := (mkF m 22 #[rv w5] [(.ref w5)])) rfl (hb hby d2_22)
  obtain ⟨fs, hr, hrun, hended, hW, hsame⟩ := X4.leave (v := some (.int 1)) (fun h => by rw [Bd.returns] at h; cases h)
  refine ⟨_, _, pre0 _ ?_, hrun, hended, _, _, rfl, ?_, ⟨_, rfl⟩, hW, hsame.mono (by decide) (by decide)⟩
  · show SF p e below s₁ (mkF m 0 #[rv w5] []) _
    refine XS.aloadN X0.here hx rfl (hb hby d2_0) rfl rfl ?_
    show SF p e below s₁ (mkF m 1 #[rv w5] [(.ref w5)]) _
    refine st1 _ ?_
    show SF p e below T1 (mkF m 4 #[rv w5] [(.ref w2), (.ref w5)]) _
    refine Jvm.RoadKit.acmp (g := (mkF m 4 #[rv w5] [(.ref w2), (.ref w5)])) X1 hx rfl rfl rfl (pc0 := 4) (pc' := 7) (same := false) rfl (hb hby d2_4) rfl (decide_eq_false fun q => (Fld.ne F_w5_ordinal F_w2_ordinal (by decide)) (Value.ref.inj q)) (by decide) (by decide) ?_
    show SF p e below T1 (mkF m 7 #[rv w5] []) _
    refine XS.aloadN X1.here hx rfl (hb hby d2_7) rfl rfl ?_
    show SF p e below T1 (mkF m 8 #[rv w5] [(.ref w5)]) _
    refine st2 _ ?_
    show SF p e below T2 (mkF m 11 #[rv w5] [(.ref w3), (.ref w5)]) _
    refine Jvm.RoadKit.acmp (g := (mkF m 11 #[rv w5] [(.ref w3), (.ref w5)])) X2 hx rfl rfl rfl (pc0 := 11) (pc' := 14) (same := false) rfl (hb hby d2_11) rfl (decide_eq_false fun q => (Fld.ne F_w5_ordinal F_w3_ordinal (by decide)) (Value.ref.inj q)) (by decide) (by decide) ?_
    show SF p e below T2 (mkF m 14 #[rv w5] []) _
    refine XS.aloadN X2.here hx rfl (hb hby d2_14) rfl rfl ?_
    show SF p e below T2 (mkF m 15 #[rv w5] [(.ref w5)]) _
    refine st3 _ ?_
    show SF p e below T3 (mkF m 18 #[rv w5] [(.ref w4), (.ref w5)]) _
    refine Jvm.RoadKit.acmp (g := (mkF m 18 #[rv w5] [(.ref w4), (.ref w5)])) X3 hx rfl rfl rfl (pc0 := 18) (pc' := 21) (same := false) rfl (hb hby d2_18) rfl (decide_eq_false fun q => (Fld.ne F_w5_ordinal F_w4_ordinal (by decide)) (Value.ref.inj q)) (by decide) (by decide) ?_
    show SF p e below T3 (mkF m 21 #[rv w5] []) _
    refine XS.aloadN X3.here hx rfl (hb hby d2_21) rfl rfl ?_
    show SF p e below T3 (mkF m 22 #[rv w5] [(.ref w5)]) _
    refine st4 _ ?_
    show SF p e below T4 (mkF m 25 #[rv w5] [(.ref w5), (.ref w5)]) _
    refine Jvm.RoadKit.acmp (g := (mkF m 25 #[rv w5] [(.ref w5), (.ref w5)])) X4 hx rfl rfl rfl (pc0 := 25) (pc' := 70) (same := true) rfl (hb hby d2_25) rfl (decide_eq_true rfl) (by decide) (by decide) ?_
    show SF p e below T4 (mkF m 70 #[rv w5] []) _
    refine XS.iconst X4.here hx rfl (hb hby d2_70) ?_
    show SF p e below T4 (mkF m 71 #[rv w5] [(.int 1)]) _
    refine XS.goto X4.here hx rfl (pc0 := 71) (pc' := 75) rfl (hb hby d2_71) (by decide) (by decide) ?_
    show SF p e below T4 (mkF m 75 #[rv w5] [(.int 1)]) _
    exact retN X4 hx (t := .boolean) Bd.returns (by simp) (hb hby d2_75) hr
  · show Q2_35 Z w5 w2 w3 w4 h0 n0 _ T4.heap _
    rw [e4]
    exact ⟨rfl, N0, rfl⟩
-- XpathTokens$Kind.namesNext 
def Q3_36 (Z : State) (w5 : Addr) (w1 : Addr) (w13 : Addr) (w14 : Addr) (w12 : Addr) (w16 : Addr) (w15 : Addr) (w17 : Addr) (w18 : Addr) (h0 : Heap) (n0 : Nat) (v : Option Value) (h : Heap) (L : List Loc) : Prop := v = some (.int 0) ∧ Fr n0 L ∧ h = h0
set_option maxRecDepth 65536 in
set_option maxHeartbeats 40000000 in
theorem rm3_36 (l : Launch) (Z : State) (a0 : Array Value) (hw : HW Z a0) (ws : List Jvm.Cond) (w5 : Addr) (w1 : Addr) (w13 : Addr) (w14 : Addr) (w12 : Addr) (w16 : Addr) (w15 : Addr) (w17 : Addr) (w18 : Addr) (h0 : Heap) (n0 : Nat) (Z0 : n0 ≤ h0.size) (S0 : Sta Z Z.heap "com/example/edictum/edictum/io/XpathTokens$Kind" "AT" "Lcom/example/edictum/edictum/io/XpathTokens$Kind;" (.ref w1)) (P2 : Old Z n0 h0) (F_w5_ordinal : Fld Z Z.heap w5 "java/lang/Enum" "ordinal" "I" (.int 11)) (F_w1_ordinal : Fld Z Z.heap w1 "java/lang/Enum" "ordinal" "I" (.int 0)) (S24 : Sta Z Z.heap "com/example/edictum/edictum/io/XpathTokens$Kind" "AXIS_SEPARATOR" "Lcom/example/edictum/edictum/io/XpathTokens$Kind;" (.ref w13)) (F_w13_ordinal : Fld Z Z.heap w13 "java/lang/Enum" "ordinal" "I" (.int 1)) (S26 : Sta Z Z.heap "com/example/edictum/edictum/io/XpathTokens$Kind" "LEFT_PAREN" "Lcom/example/edictum/edictum/io/XpathTokens$Kind;" (.ref w14)) (F_w14_ordinal : Fld Z Z.heap w14 "java/lang/Enum" "ordinal" "I" (.int 2)) (S22 : Sta Z Z.heap "com/example/edictum/edictum/io/XpathTokens$Kind" "LEFT_BRACKET" "Lcom/example/edictum/edictum/io/XpathTokens$Kind;" (.ref w12)) (F_w12_ordinal : Fld Z Z.heap w12 "java/lang/Enum" "ordinal" "I" (.int 3)) (S30 : Sta Z Z.heap "com/example/edictum/edictum/io/XpathTokens$Kind" "COMMA" "Lcom/example/edictum/edictum/io/XpathTokens$Kind;" (.ref w16)) (F_w16_ordinal : Fld Z Z.heap w16 "java/lang/Enum" "ordinal" "I" (.int 4)) (S28 : Sta Z Z.heap "com/example/edictum/edictum/io/XpathTokens$Kind" "SLASH" "Lcom/example/edictum/edictum/io/XpathTokens$Kind;" (.ref w15)) (F_w15_ordinal : Fld Z Z.heap w15 "java/lang/Enum" "ordinal" "I" (.int 7)) (S32 : Sta Z Z.heap "com/example/edictum/edictum/io/XpathTokens$Kind" "DOUBLE_SLASH" "Lcom/example/edictum/edictum/io/XpathTokens$Kind;" (.ref w17)) (F_w17_ordinal : Fld Z Z.heap w17 "java/lang/Enum" "ordinal" "I" (.int 8)) (S34 : Sta Z Z.heap "com/example/edictum/edictum/io/XpathTokens$Kind" "OPERATOR" "Lcom/example/edictum/edictum/io/XpathTokens$Kind;" (.ref w18)) (F_w18_ordinal : Fld Z Z.heap w18 "java/lang/Enum" "ordinal" "I" (.int 9)) :
    MF l Z (⟨"com/example/edictum/edictum/io/XpathTokens$Kind", "namesNext", "()Z"⟩ : MethodName) (Jvm.Cond.code (⟨"com/example/edictum/edictum/io/XpathTokens$Kind", "namesNext", "()Z"⟩ : MethodName) prog_251_method_4_code 1 (some .boolean)) ws ({ frames := 0, cells := 0, slots := 0, locals := 0 } : Room) #[(.ref w5)] h0 (Q3_36 Z w5 w1 w13 w14 w12 w16 w15 w17 w18 h0 n0) := by
  refine MetFree.of_bodySF (plainFor_of_name pn_1) hisR ?_
  intro p e s m args below meth c s₁ Bd hml0 hP hK
  obtain ⟨rfl, hZ, hh⟩ := hP
  have hx := Bd.exec
  have hby := Bd.bytes
  have hml : c.maxLocals = 1 := hml0
  have hown : s.vm.findClass "com/example/edictum/edictum/io/XpathTokens$Kind" = some m.cls := findClass_of_methodNamed Bd.named
  have hnm := (name_of_methodNamed Bd.named Bd.method).1
  have X0 : Stand p l e ({ frames := 0, cells := 0, slots := 0, locals := 0 } : Room) s m #[(.ref w5)] below meth c s₁ [] 0 0 := Stand.of_body Bd
  have e0 : s₁.heap = h0 := by rw [← hh, Bd.state]; rfl
  have N0 := Fr.nil n0
  have pre0 : ∀ t, SF p e below s₁ (mkF m 0 #[rv w5] []) t → SF p e below s₁ (entryFrame m #[(.ref w5)] 1) t := fun t k => castTop (ef_2 m w5) k
  obtain ⟨T1, X1, e1, st1⟩ := getS2 X0 hx hZ hown (host := "") (Or.inl (tw hw 36 rfl)) Via.refl e0 (S0.ext P2.2) (g := (mkF m 1 #[rv w5] [(.ref w5)])) rfl (hb hby d3_1)
  obtain ⟨T2, X2, e2, st2⟩ := getS2 X1 hx hZ hown (host := "") (Or.inl (tw hw 39 rfl)) Via.refl e1 (S24.ext P2.2) (g := (mkF m 8 #[rv w5] [(.ref w5)])) rfl (hb hby d3_8)
  obtain ⟨T3, X3, e3, st3⟩ := getS2 X2 hx hZ hown (host := "") (Or.inl (tw hw 41 rfl)) Via.refl e2 (S26.ext P2.2) (g := (mkF m 15 #[rv w5] [(.ref w5)])) rfl (hb hby d3_15)
  obtain ⟨T4, X4, e4, st4⟩ := getS2 X3 hx hZ hown (host := "") (Or.inl (tw hw 43 rfl)) Via.refl e3 (S22.ext P2.2) (g := (mkF m 22 #[rv w5] [(.ref w5)])) rfl (hb hby d3_22)
  obtain ⟨T5, X5, e5, st5⟩ := getS2 X4 hx hZ hown (host := "") (Or.inl (tw hw 48 rfl)) Via.refl e4 (S30.ext P2.2) (g := (mkF m 29 #[rv w5] [(.ref w5)])) rfl (hb hby d3_29)
  obtain ⟨T6, X6, e6, st6⟩ := getS2 X5 hx hZ hown (host := "") (Or.inl (tw hw 50 rfl)) Via.refl e5 (S28.ext P2.2) (g := (mkF m 36 #[rv w5] [(.ref w5)])) rfl (hb hby d3_36)
  obtain ⟨T7, X7, e7, st7⟩ := getS2 X6 hx hZ hown (host := "") (Or.inl (tw hw 51 rfl)) Via.refl e6 (S32.ext P2.2) (g := (mkF m 43 #[rv w5] [(.ref w5)])) rfl (hb hby d3_43)
  obtain ⟨T8, X8, e8, st8⟩ := getS2 X7 hx hZ hown (host := "") (Or.inl (tw hw 53 rfl)) Via.refl e7 (S34.ext P2.2) (g := (mkF m 50 #[rv w5] [(.ref w5)])) rfl (hb hby d3_50)
  obtain ⟨fs, hr, hrun, hended, hW, hsame⟩ := X8.leave (v := some (.int 0)) (fun h => by rw [Bd.returns] at h; cases h)
  refine ⟨_, _, pre0 _ ?_, hrun, hended, _, _, rfl, ?_, ⟨_, rfl⟩, hW, hsame.mono (by decide) (by decide)⟩
  · show SF p e below s₁ (mkF m 0 #[rv w5] []) _
    refine XS.aloadN X0.here hx rfl (hb hby d3_0) rfl rfl ?_
    show SF p e below s₁ (mkF m 1 #[rv w5] [(.ref w5)]) _
    refine st1 _ ?_
    show SF p e below T1 (mkF m 4 #[rv w5] [(.ref w1), (.ref w5)]) _
    refine Jvm.RoadKit.acmp (g := (mkF m 4 #[rv w5] [(.ref w1), (.ref w5)])) X1 hx rfl rfl rfl (pc0 := 4) (pc' := 7) (same := false) rfl (hb hby d3_4) rfl (decide_eq_false fun q => (Fld.ne F_w5_ordinal F_w1_ordinal (by decide)) (Value.ref.inj q)) (by decide) (by decide) ?_
    show SF p e below T1 (mkF m 7 #[rv w5] []) _
    refine XS.aloadN X1.here hx rfl (hb hby d3_7) rfl rfl ?_
    show SF p e below T1 (mkF m 8 #[rv w5] [(.ref w5)]) _
    refine st2 _ ?_
    show SF p e below T2 (mkF m 11 #[rv w5] [(.ref w13), (.ref w5)]) _
    refine Jvm.RoadKit.acmp (g := (mkF m 11 #[rv w5] [(.ref w13), (.ref w5)])) X2 hx rfl rfl rfl (pc0 := 11) (pc' := 14) (same := false) rfl (hb hby d3_11) rfl (decide_eq_false fun q => (Fld.ne F_w5_ordinal F_w13_ordinal (by decide)) (Value.ref.inj q)) (by decide) (by decide) ?_
    show SF p e below T2 (mkF m 14 #[rv w5] []) _
    refine XS.aloadN X2.here hx rfl (hb hby d3_14) rfl rfl ?_
    show SF p e below T2 (mkF m 15 #[rv w5] [(.ref w5)]) _
    refine st3 _ ?_
    show SF p e below T3 (mkF m 18 #[rv w5] [(.ref w14), (.ref w5)]) _
    refine Jvm.RoadKit.acmp (g := (mkF m 18 #[rv w5] [(.ref w14), (.ref w5)])) X3 hx rfl rfl rfl (pc0 := 18) (pc' := 21) (same := false) rfl (hb hby d3_18) rfl (decide_eq_false fun q => (Fld.ne F_w5_ordinal F_w14_ordinal (by decide)) (Value.ref.inj q)) (by decide) (by decide) ?_
    show SF p e below T3 (mkF m 21 #[rv w5] []) _
    refine XS.aloadN X3.here hx rfl (hb hby d3_21) rfl rfl ?_
    show SF p e below T3 (mkF m 22 #[rv w5] [(.ref w5)]) _
    refine st4 _ ?_
    show SF p e below T4 (mkF m 25 #[rv w5] [(.ref w12), (.ref w5)]) _
    refine Jvm.RoadKit.acmp (g := (mkF m 25 #[rv w5] [(.ref w12), (.ref w5)])) X4 hx rfl rfl rfl (pc0 := 25) (pc' := 28) (same := false) rfl (hb hby d3_25) rfl (decide_eq_false fun q => (Fld.ne F_w5_ordinal F_w12_ordinal (by decide)) (Value.ref.inj q)) (by decide) (by decide) ?_
    show SF p e below T4 (mkF m 28 #[rv w5] []) _
    refine XS.aloadN X4.here hx rfl (hb hby d3_28) rfl rfl ?_
    show SF p e below T4 (mkF m 29 #[rv w5] [(.ref w5)]) _
    refine st5 _ ?_
    show SF p e below T5 (mkF m 32 #[rv w5] [(.ref w16), (.ref w5)]) _
    refine Jvm.RoadKit.acmp (g := (mkF m 32 #[rv w5] [(.ref w16), (.ref w5)])) X5 hx rfl rfl rfl (pc0 := 32) (pc' := 35) (same := false) rfl (hb hby d3_32) rfl (decide_eq_false fun q => (Fld.ne F_w5_ordinal F_w16_ordinal (by decide)) (Value.ref.inj q)) (by decide) (by decide) ?_
    show SF p e below T5 (mkF m 35 #[rv w5] []) _
    refine XS.aloadN X5.here hx rfl (hb hby d3_35) rfl rfl ?_
    show SF p e below T5 (mkF m 36 #[rv w5] [(.ref w5)]) _
    refine st6 _ ?_
    show SF p e below T6 (mkF m 39 #[rv w5] [(.ref w15), (.ref w5)]) _
    refine Jvm.RoadKit.acmp (g := (mkF m 39 #[rv w5] [(.ref w15), (.ref w5)])) X6 hx rfl rfl rfl (pc0 := 39) (pc' := 42) (same := false) rfl (hb hby d3_39) rfl (decide_eq_false fun q => (Fld.ne F_w5_ordinal F_w15_ordinal (by decide)) (Value.ref.inj q)) (by decide) (by decide) ?_
    show SF p e below T6 (mkF m 42 #[rv w5] []) _
    refine XS.aloadN X6.here hx rfl (hb hby d3_42) rfl rfl ?_
    show SF p e below T6 (mkF m 43 #[rv w5] [(.ref w5)]) _
    refine st7 _ ?_
    show SF p e below T7 (mkF m 46 #[rv w5] [(.ref w17), (.ref w5)]) _
    refine Jvm.RoadKit.acmp (g := (mkF m 46 #[rv w5] [(.ref w17), (.ref w5)])) X7 hx rfl rfl rfl (pc0 := 46) (pc' := 49) (same := false) rfl (hb hby d3_46) rfl (decide_eq_false fun q => (Fld.ne F_w5_ordinal F_w17_ordinal (by decide)) (Value.ref.inj q)) (by decide) (by decide) ?_
    show SF p e below T7 (mkF m 49 #[rv w5] []) _
    refine XS.aloadN X7.here hx rfl (hb hby d3_49) rfl rfl ?_
    show SF p e below T7 (mkF m 50 #[rv w5] [(.ref w5)]) _
    refine st8 _ ?_
    show SF p e below T8 (mkF m 53 #[rv w5] [(.ref w18), (.ref w5)]) _
    refine Jvm.RoadKit.acmp (g := (mkF m 53 #[rv w5] [(.ref w18), (.ref w5)])) X8 hx rfl rfl rfl (pc0 := 53) (pc' := 60) (same := false) rfl (hb hby d3_53) rfl (decide_eq_false fun q => (Fld.ne F_w5_ordinal F_w18_ordinal (by decide)) (Value.ref.inj q)) (by decide) (by decide) ?_
    show SF p e below T8 (mkF m 60 #[rv w5] []) _
    refine XS.iconst X8.here hx rfl (hb hby d3_60) ?_
    show SF p e below T8 (mkF m 61 #[rv w5] [(.int 0)]) _
    exact retN X8 hx (t := .boolean) Bd.returns (by simp) (hb hby d3_61) hr
  · show Q3_36 Z w5 w1 w13 w14 w12 w16 w15 w17 w18 h0 n0 _ T8.heap _
    rw [e8]
    exact ⟨rfl, N0, rfl⟩
theorem d1_113 : decode method_2_code 113 = .ok (.iload_n 0, 1) := by decide +kernel
theorem d1_114 : decode method_2_code 114 = .ok (.bipush 12, 2) := by decide +kernel
theorem d1_116 : decode method_2_code 116 = .ok (.if_icmp .ne 7, 3) := by decide +kernel
theorem d1_119 : decode method_2_code 119 = .ok (.getstatic 46, 3) := by decide +kernel
theorem d1_122 : decode method_2_code 122 = .ok (.areturn, 1) := by decide +kernel
-- XpathTokensNamesNextPinLaw.kindOf 
def Q1_37 (Z : State) (w6 : Addr) (h0 : Heap) (n0 : Nat) (v : Option Value) (h : Heap) (L : List Loc) : Prop := v = some (.ref w6) ∧ Fr n0 L ∧ h = h0
set_option maxRecDepth 65536 in
set_option maxHeartbeats 40000000 in
theorem rm1_37 (l : Launch) (Z : State) (a0 : Array Value) (hw : HW Z a0) (ws : List Jvm.Cond) (w6 : Addr) (h0 : Heap) (n0 : Nat) (Z0 : n0 ≤ h0.size) (S10 : Sta Z Z.heap "com/example/edictum/edictum/io/XpathTokens$Kind" "NODE_TYPE" "Lcom/example/edictum/edictum/io/XpathTokens$Kind;" (.ref w6)) (P2 : Old Z n0 h0) :
    MF l Z (⟨"com/example/edictum/edictum/io/XpathTokensNamesNextPinLaw", "kindOf", "(I)Lcom/example/edictum/edictum/io/XpathTokens$Kind;"⟩ : MethodName) (Jvm.Cond.code (⟨"com/example/edictum/edictum/io/XpathTokensNamesNextPinLaw", "kindOf", "(I)Lcom/example/edictum/edictum/io/XpathTokens$Kind;"⟩ : MethodName) method_2_code 1 (some (.object "com/example/edictum/edictum/io/XpathTokens$Kind"))) ws ({ frames := 0, cells := 0, slots := 0, locals := 0 } : Room) #[(.int 12)] h0 (Q1_37 Z w6 h0 n0) := by
  refine MetFree.of_bodySF (plainFor_of_name pn_0) hisR ?_
  intro p e s m args below meth c s₁ Bd hml0 hP hK
  obtain ⟨rfl, hZ, hh⟩ := hP
  have hx := Bd.exec
  have hby := Bd.bytes
  have hml : c.maxLocals = 1 := hml0
  have hown : s.vm.findClass "com/example/edictum/edictum/io/XpathTokensNamesNextPinLaw" = some m.cls := findClass_of_methodNamed Bd.named
  have hnm := (name_of_methodNamed Bd.named Bd.method).1
  have X0 : Stand p l e ({ frames := 0, cells := 0, slots := 0, locals := 0 } : Room) s m #[(.int 12)] below meth c s₁ [] 0 0 := Stand.of_body Bd
  have e0 : s₁.heap = h0 := by rw [← hh, Bd.state]; rfl
  have N0 := Fr.nil n0
  have pre0 : ∀ t, SF p e below s₁ (mkF m 0 #[iv 12] []) t → SF p e below s₁ (entryFrame m #[(.int 12)] 1) t := fun t k => castTop (ef_0 m (12 : Int32)) k
  obtain ⟨T1, X1, e1, st1⟩ := getS2 X0 hx hZ hown (host := "") (Or.inl (tw hw 19 rfl)) Via.refl e0 (S10.ext P2.2) (g := (mkF m 119 #[iv 12] [])) rfl (hb hby d1_119)
  obtain ⟨fs, hr, hrun, hended, hW, hsame⟩ := X1.leave (v := some (.ref w6)) (fun h => by rw [Bd.returns] at h; cases h)
  refine ⟨_, _, pre0 _ ?_, hrun, hended, _, _, rfl, ?_, ⟨_, rfl⟩, hW, hsame.mono (by decide) (by decide)⟩
  · show SF p e below s₁ (mkF m 0 #[iv 12] []) _
    refine XS.iloadN X0.here hx rfl (hb hby d1_0) rfl ?_
    show SF p e below s₁ (mkF m 1 #[iv 12] [(.int 12)]) _
    refine XS.ifYes X0.here hx rfl (pc0 := 1) (pc' := 8) rfl (hb hby d1_1) rfl ((if0 _ _).trans (feq (by decide : ¬ ((12 : Int32) = (0 : Int32)))).2) (by decide) (by decide) ?_
    show SF p e below s₁ (mkF m 8 #[iv 12] []) _
    refine XS.iloadN X0.here hx rfl (hb hby d1_8) rfl ?_
    show SF p e below s₁ (mkF m 9 #[iv 12] [(.int 12)]) _
    refine XS.iconst X0.here hx rfl (hb hby d1_9) ?_
    show SF p e below s₁ (mkF m 10 #[iv 12] [(.int 1), (.int 12)]) _
    refine XS.icmpYes X0.here hx rfl (pc0 := 10) (pc' := 17) rfl (hb hby d1_10) rfl (feq (by decide : ¬ ((12 : Int32) = (1 : Int32)))).2 (by decide) (by decide) ?_
    show SF p e below s₁ (mkF m 17 #[iv 12] []) _
    refine XS.iloadN X0.here hx rfl (hb hby d1_17) rfl ?_
    show SF p e below s₁ (mkF m 18 #[iv 12] [(.int 12)]) _
    refine XS.iconst X0.here hx rfl (hb hby d1_18) ?_
    show SF p e below s₁ (mkF m 19 #[iv 12] [(.int 2), (.int 12)]) _
    refine XS.icmpYes X0.here hx rfl (pc0 := 19) (pc' := 26) rfl (hb hby d1_19) rfl (feq (by decide : ¬ ((12 : Int32) = (2 : Int32)))).2 (by decide) (by decide) ?_
    show SF p e below s₁ (mkF m 26 #[iv 12] []) _
    refine XS.iloadN X0.here hx rfl (hb hby d1_26) rfl ?_
    show SF p e below s₁ (mkF m 27 #[iv 12] [(.int 12)]) _
    refine XS.iconst X0.here hx rfl (hb hby d1_27) ?_
    show SF p e below s₁ (mkF m 28 #[iv 12] [(.int 3), (.int 12)]) _
    refine XS.icmpYes X0.here hx rfl (pc0 := 28) (pc' := 35) rfl (hb hby d1_28) rfl (feq (by decide : ¬ ((12 : Int32) = (3 : Int32)))).2 (by decide) (by decide) ?_
    show SF p e below s₁ (mkF m 35 #[iv 12] []) _
    refine XS.iloadN X0.here hx rfl (hb hby d1_35) rfl ?_
    show SF p e below s₁ (mkF m 36 #[iv 12] [(.int 12)]) _
    refine XS.iconst X0.here hx rfl (hb hby d1_36) ?_
    show SF p e below s₁ (mkF m 37 #[iv 12] [(.int 4), (.int 12)]) _
    refine XS.icmpYes X0.here hx rfl (pc0 := 37) (pc' := 44) rfl (hb hby d1_37) rfl (feq (by decide : ¬ ((12 : Int32) = (4 : Int32)))).2 (by decide) (by decide) ?_
    show SF p e below s₁ (mkF m 44 #[iv 12] []) _
    refine XS.iloadN X0.here hx rfl (hb hby d1_44) rfl ?_
    show SF p e below s₁ (mkF m 45 #[iv 12] [(.int 12)]) _
    refine XS.iconst X0.here hx rfl (hb hby d1_45) ?_
    show SF p e below s₁ (mkF m 46 #[iv 12] [(.int 5), (.int 12)]) _
    refine XS.icmpYes X0.here hx rfl (pc0 := 46) (pc' := 53) rfl (hb hby d1_46) rfl (feq (by decide : ¬ ((12 : Int32) = (5 : Int32)))).2 (by decide) (by decide) ?_
    show SF p e below s₁ (mkF m 53 #[iv 12] []) _
    refine XS.iloadN X0.here hx rfl (hb hby d1_53) rfl ?_
    show SF p e below s₁ (mkF m 54 #[iv 12] [(.int 12)]) _
    refine XS.bipush X0.here hx rfl (hb hby d1_54) ?_
    show SF p e below s₁ (mkF m 56 #[iv 12] [(.int 6), (.int 12)]) _
    refine XS.icmpYes X0.here hx rfl (pc0 := 56) (pc' := 63) rfl (hb hby d1_56) rfl (feq (by decide : ¬ ((12 : Int32) = (6 : Int32)))).2 (by decide) (by decide) ?_
    show SF p e below s₁ (mkF m 63 #[iv 12] []) _
    refine XS.iloadN X0.here hx rfl (hb hby d1_63) rfl ?_
    show SF p e below s₁ (mkF m 64 #[iv 12] [(.int 12)]) _
    refine XS.bipush X0.here hx rfl (hb hby d1_64) ?_
    show SF p e below s₁ (mkF m 66 #[iv 12] [(.int 7), (.int 12)]) _
    refine XS.icmpYes X0.here hx rfl (pc0 := 66) (pc' := 73) rfl (hb hby d1_66) rfl (feq (by decide : ¬ ((12 : Int32) = (7 : Int32)))).2 (by decide) (by decide) ?_
    show SF p e below s₁ (mkF m 73 #[iv 12] []) _
    refine XS.iloadN X0.here hx rfl (hb hby d1_73) rfl ?_
    show SF p e below s₁ (mkF m 74 #[iv 12] [(.int 12)]) _
    refine XS.bipush X0.here hx rfl (hb hby d1_74) ?_
    show SF p e below s₁ (mkF m 76 #[iv 12] [(.int 8), (.int 12)]) _
    refine XS.icmpYes X0.here hx rfl (pc0 := 76) (pc' := 83) rfl (hb hby d1_76) rfl (feq (by decide : ¬ ((12 : Int32) = (8 : Int32)))).2 (by decide) (by decide) ?_
    show SF p e below s₁ (mkF m 83 #[iv 12] []) _
    refine XS.iloadN X0.here hx rfl (hb hby d1_83) rfl ?_
    show SF p e below s₁ (mkF m 84 #[iv 12] [(.int 12)]) _
    refine XS.bipush X0.here hx rfl (hb hby d1_84) ?_
    show SF p e below s₁ (mkF m 86 #[iv 12] [(.int 9), (.int 12)]) _
    refine XS.icmpYes X0.here hx rfl (pc0 := 86) (pc' := 93) rfl (hb hby d1_86) rfl (feq (by decide : ¬ ((12 : Int32) = (9 : Int32)))).2 (by decide) (by decide) ?_
    show SF p e below s₁ (mkF m 93 #[iv 12] []) _
    refine XS.iloadN X0.here hx rfl (hb hby d1_93) rfl ?_
    show SF p e below s₁ (mkF m 94 #[iv 12] [(.int 12)]) _
    refine XS.bipush X0.here hx rfl (hb hby d1_94) ?_
    show SF p e below s₁ (mkF m 96 #[iv 12] [(.int 10), (.int 12)]) _
    refine XS.icmpYes X0.here hx rfl (pc0 := 96) (pc' := 103) rfl (hb hby d1_96) rfl (feq (by decide : ¬ ((12 : Int32) = (10 : Int32)))).2 (by decide) (by decide) ?_
    show SF p e below s₁ (mkF m 103 #[iv 12] []) _
    refine XS.iloadN X0.here hx rfl (hb hby d1_103) rfl ?_
    show SF p e below s₁ (mkF m 104 #[iv 12] [(.int 12)]) _
    refine XS.bipush X0.here hx rfl (hb hby d1_104) ?_
    show SF p e below s₁ (mkF m 106 #[iv 12] [(.int 11), (.int 12)]) _
    refine XS.icmpYes X0.here hx rfl (pc0 := 106) (pc' := 113) rfl (hb hby d1_106) rfl (feq (by decide : ¬ ((12 : Int32) = (11 : Int32)))).2 (by decide) (by decide) ?_
    show SF p e below s₁ (mkF m 113 #[iv 12] []) _
    refine XS.iloadN X0.here hx rfl (hb hby d1_113) rfl ?_
    show SF p e below s₁ (mkF m 114 #[iv 12] [(.int 12)]) _
    refine XS.bipush X0.here hx rfl (hb hby d1_114) ?_
    show SF p e below s₁ (mkF m 116 #[iv 12] [(.int 12), (.int 12)]) _
    refine XS.icmpNo X0.here hx rfl (hb hby d1_116) rfl (teq (by decide : (12 : Int32) = (12 : Int32))).2 ?_
    show SF p e below s₁ (mkF m 119 #[iv 12] []) _
    refine st1 _ ?_
    show SF p e below T1 (mkF m 122 #[iv 12] [(.ref w6)]) _
    exact own_retR X1 hx Bd.returns rfl rfl (hb hby d1_122) hr
  · show Q1_37 Z w6 h0 n0 _ T1.heap _
    rw [e1]
    exact ⟨rfl, N0, rfl⟩
-- XpathTokensNamesNextPinLaw.endsOperand 
def Q2_38 (Z : State) (w6 : Addr) (w2 : Addr) (w3 : Addr) (w4 : Addr) (w5 : Addr) (h0 : Heap) (n0 : Nat) (v : Option Value) (h : Heap) (L : List Loc) : Prop := v = some (.int 1) ∧ Fr n0 L ∧ h = h0
set_option maxRecDepth 65536 in
set_option maxHeartbeats 40000000 in
theorem rm2_38 (l : Launch) (Z : State) (a0 : Array Value) (hw : HW Z a0) (ws : List Jvm.Cond) (w6 : Addr) (w2 : Addr) (w3 : Addr) (w4 : Addr) (w5 : Addr) (h0 : Heap) (n0 : Nat) (Z0 : n0 ≤ h0.size) (S2 : Sta Z Z.heap "com/example/edictum/edictum/io/XpathTokens$Kind" "RIGHT_PAREN" "Lcom/example/edictum/edictum/io/XpathTokens$Kind;" (.ref w2)) (P2 : Old Z n0 h0) (F_w6_ordinal : Fld Z Z.heap w6 "java/lang/Enum" "ordinal" "I" (.int 12)) (F_w2_ordinal : Fld Z Z.heap w2 "java/lang/Enum" "ordinal" "I" (.int 5)) (S4 : Sta Z Z.heap "com/example/edictum/edictum/io/XpathTokens$Kind" "RIGHT_BRACKET" "Lcom/example/edictum/edictum/io/XpathTokens$Kind;" (.ref w3)) (F_w3_ordinal : Fld Z Z.heap w3 "java/lang/Enum" "ordinal" "I" (.int 6)) (S6 : Sta Z Z.heap "com/example/edictum/edictum/io/XpathTokens$Kind" "AXIS" "Lcom/example/edictum/edictum/io/XpathTokens$Kind;" (.ref w4)) (F_w4_ordinal : Fld Z Z.heap w4 "java/lang/Enum" "ordinal" "I" (.int 10)) (S8 : Sta Z Z.heap "com/example/edictum/edictum/io/XpathTokens$Kind" "FUNCTION" "Lcom/example/edictum/edictum/io/XpathTokens$Kind;" (.ref w5)) (F_w5_ordinal : Fld Z Z.heap w5 "java/lang/Enum" "ordinal" "I" (.int 11)) (S10 : Sta Z Z.heap "com/example/edictum/edictum/io/XpathTokens$Kind" "NODE_TYPE" "Lcom/example/edictum/edictum/io/XpathTokens$Kind;" (.ref w6)) :
    MF l Z (⟨"com/example/edictum/edictum/io/XpathTokensNamesNextPinLaw", "endsOperand", "(Lcom/example/edictum/edictum/io/XpathTokens$Kind;)Z"⟩ : MethodName) (Jvm.Cond.code (⟨"com/example/edictum/edictum/io/XpathTokensNamesNextPinLaw", "endsOperand", "(Lcom/example/edictum/edictum/io/XpathTokens$Kind;)Z"⟩ : MethodName) method_3_code 1 (some .boolean)) ws ({ frames := 0, cells := 0, slots := 0, locals := 0 } : Room) #[(.ref w6)] h0 (Q2_38 Z w6 w2 w3 w4 w5 h0 n0) := by
  refine MetFree.of_bodySF (plainFor_of_name pn_0) hisR ?_
  intro p e s m args below meth c s₁ Bd hml0 hP hK
  obtain ⟨rfl, hZ, hh⟩ := hP
  have hx := Bd.exec
  have hby := Bd.bytes
  have hml : c.maxLocals = 1 := hml0
  have hown : s.vm.findClass "com/example/edictum/edictum/io/XpathTokensNamesNextPinLaw" = some m.cls := findClass_of_methodNamed Bd.named
  have hnm := (name_of_methodNamed Bd.named Bd.method).1
  have X0 : Stand p l e ({ frames := 0, cells := 0, slots := 0, locals := 0 } : Room) s m #[(.ref w6)] below meth c s₁ [] 0 0 := Stand.of_body Bd
  have e0 : s₁.heap = h0 := by rw [← hh, Bd.state]; rfl
  have N0 := Fr.nil n0
  have pre0 : ∀ t, SF p e below s₁ (mkF m 0 #[rv w6] []) t → SF p e below s₁ (entryFrame m #[(.ref w6)] 1) t := fun t k => castTop (ef_1 m w6) k
  obtain ⟨T1, X1, e1, st1⟩ := getS2 X0 hx hZ hown (host := "") (Or.inl (tw hw 11 rfl)) Via.refl e0 (S2.ext P2.2) (g := (mkF m 1 #[rv w6] [(.ref w6)])) rfl (hb hby d2_1)
  obtain ⟨T2, X2, e2, st2⟩ := getS2 X1 hx hZ hown (host := "") (Or.inl (tw hw 13 rfl)) Via.refl e1 (S4.ext P2.2) (g := (mkF m 8 #[rv w6] [(.ref w6)])) rfl (hb hby d2_8)
  obtain ⟨T3, X3, e3, st3⟩ := getS2 X2 hx hZ hown (host := "") (Or.inl (tw hw 15 rfl)) Via.refl e2 (S6.ext P2.2) (g := (mkF m 15 #[rv w6] [(.ref w6)])) rfl (hb hby d2_15)
  obtain ⟨T4, X4, e4, st4⟩ := getS2 X3 hx hZ hown (host := "") (Or.inl (tw hw 17 rfl)) Via.refl e3 (S8.ext P2.2) (g := (mkF m 22 #[rv w6] [(.ref w6)])) rfl (hb hby d2_22)
  obtain ⟨T5, X5, e5, st5⟩ := getS2 X4 hx hZ hown (host := "") (Or.inl (tw hw 19 rfl)) Via.refl e4 (S10.ext P2.2) (g := (mkF m 29 #[rv w6] [(.ref w6)])) rfl (hb hby d2_29)
  obtain ⟨fs, hr, hrun, hended, hW, hsame⟩ := X5.leave (v := some (.int 1)) (fun h => by rw [Bd.returns] at h; cases h)
  refine ⟨_, _, pre0 _ ?_, hrun, hended, _, _, rfl, ?_, ⟨_, rfl⟩, hW, hsame.mono (by decide) (by decide)⟩
  · show SF p e below s₁ (mkF m 0 #[rv w6] []) _
    refine XS.aloadN X0.here hx rfl (hb hby d2_0) rfl rfl ?_
    show SF p e below s₁ (mkF m 1 #[rv w6] [(.ref w6)]) _
    refine st1 _ ?_
    show SF p e below T1 (mkF m 4 #[rv w6] [(.ref w2), (.ref w6)]) _
    refine Jvm.RoadKit.acmp (g := (mkF m 4 #[rv w6] [(.ref w2), (.ref w6)])) X1 hx rfl rfl rfl (pc0 := 4) (pc' := 7) (same := false) rfl (hb hby d2_4) rfl (decide_eq_false fun q => (Fld.ne F_w6_ordinal F_w2_ordinal (by decide)) (Value.ref.inj q)) (by decide) (by decide) ?_
    show SF p e below T1 (mkF m 7 #[rv w6] []) _
    refine XS.aloadN X1.here hx rfl (hb hby d2_7) rfl rfl ?_
    show SF p e below T1 (mkF m 8 #[rv w6] [(.ref w6)]) _
    refine st2 _ ?_
    show SF p e below T2 (mkF m 11 #[rv w6] [(.ref w3), (.ref w6)]) _
    refine Jvm.RoadKit.acmp (g := (mkF m 11 #[rv w6] [(.ref w3), (.ref w6)])) X2 hx rfl rfl rfl (pc0 := 11) (pc' := 14) (same := false) rfl (hb hby d2_11) rfl (decide_eq_false fun q => (Fld.ne F_w6_ordinal F_w3_ordinal (by decide)) (Value.ref.inj q)) (by decide) (by decide) ?_
    show SF p e below T2 (mkF m 14 #[rv w6] []) _
    refine XS.aloadN X2.here hx rfl (hb hby d2_14) rfl rfl ?_
    show SF p e below T2 (mkF m 15 #[rv w6] [(.ref w6)]) _
    refine st3 _ ?_
    show SF p e below T3 (mkF m 18 #[rv w6] [(.ref w4), (.ref w6)]) _
    refine Jvm.RoadKit.acmp (g := (mkF m 18 #[rv w6] [(.ref w4), (.ref w6)])) X3 hx rfl rfl rfl (pc0 := 18) (pc' := 21) (same := false) rfl (hb hby d2_18) rfl (decide_eq_false fun q => (Fld.ne F_w6_ordinal F_w4_ordinal (by decide)) (Value.ref.inj q)) (by decide) (by decide) ?_
    show SF p e below T3 (mkF m 21 #[rv w6] []) _
    refine XS.aloadN X3.here hx rfl (hb hby d2_21) rfl rfl ?_
    show SF p e below T3 (mkF m 22 #[rv w6] [(.ref w6)]) _
    refine st4 _ ?_
    show SF p e below T4 (mkF m 25 #[rv w6] [(.ref w5), (.ref w6)]) _
    refine Jvm.RoadKit.acmp (g := (mkF m 25 #[rv w6] [(.ref w5), (.ref w6)])) X4 hx rfl rfl rfl (pc0 := 25) (pc' := 28) (same := false) rfl (hb hby d2_25) rfl (decide_eq_false fun q => (Fld.ne F_w6_ordinal F_w5_ordinal (by decide)) (Value.ref.inj q)) (by decide) (by decide) ?_
    show SF p e below T4 (mkF m 28 #[rv w6] []) _
    refine XS.aloadN X4.here hx rfl (hb hby d2_28) rfl rfl ?_
    show SF p e below T4 (mkF m 29 #[rv w6] [(.ref w6)]) _
    refine st5 _ ?_
    show SF p e below T5 (mkF m 32 #[rv w6] [(.ref w6), (.ref w6)]) _
    refine Jvm.RoadKit.acmp (g := (mkF m 32 #[rv w6] [(.ref w6), (.ref w6)])) X5 hx rfl rfl rfl (pc0 := 32) (pc' := 70) (same := true) rfl (hb hby d2_32) rfl (decide_eq_true rfl) (by decide) (by decide) ?_
    show SF p e below T5 (mkF m 70 #[rv w6] []) _
    refine XS.iconst X5.here hx rfl (hb hby d2_70) ?_
    show SF p e below T5 (mkF m 71 #[rv w6] [(.int 1)]) _
    refine XS.goto X5.here hx rfl (pc0 := 71) (pc' := 75) rfl (hb hby d2_71) (by decide) (by decide) ?_
    show SF p e below T5 (mkF m 75 #[rv w6] [(.int 1)]) _
    exact retN X5 hx (t := .boolean) Bd.returns (by simp) (hb hby d2_75) hr
  · show Q2_38 Z w6 w2 w3 w4 w5 h0 n0 _ T5.heap _
    rw [e5]
    exact ⟨rfl, N0, rfl⟩
-- XpathTokens$Kind.namesNext 
def Q3_39 (Z : State) (w6 : Addr) (w1 : Addr) (w13 : Addr) (w14 : Addr) (w12 : Addr) (w16 : Addr) (w15 : Addr) (w17 : Addr) (w18 : Addr) (h0 : Heap) (n0 : Nat) (v : Option Value) (h : Heap) (L : List Loc) : Prop := v = some (.int 0) ∧ Fr n0 L ∧ h = h0
set_option maxRecDepth 65536 in
set_option maxHeartbeats 40000000 in
theorem rm3_39 (l : Launch) (Z : State) (a0 : Array Value) (hw : HW Z a0) (ws : List Jvm.Cond) (w6 : Addr) (w1 : Addr) (w13 : Addr) (w14 : Addr) (w12 : Addr) (w16 : Addr) (w15 : Addr) (w17 : Addr) (w18 : Addr) (h0 : Heap) (n0 : Nat) (Z0 : n0 ≤ h0.size) (S0 : Sta Z Z.heap "com/example/edictum/edictum/io/XpathTokens$Kind" "AT" "Lcom/example/edictum/edictum/io/XpathTokens$Kind;" (.ref w1)) (P2 : Old Z n0 h0) (F_w6_ordinal : Fld Z Z.heap w6 "java/lang/Enum" "ordinal" "I" (.int 12)) (F_w1_ordinal : Fld Z Z.heap w1 "java/lang/Enum" "ordinal" "I" (.int 0)) (S24 : Sta Z Z.heap "com/example/edictum/edictum/io/XpathTokens$Kind" "AXIS_SEPARATOR" "Lcom/example/edictum/edictum/io/XpathTokens$Kind;" (.ref w13)) (F_w13_ordinal : Fld Z Z.heap w13 "java/lang/Enum" "ordinal" "I" (.int 1)) (S26 : Sta Z Z.heap "com/example/edictum/edictum/io/XpathTokens$Kind" "LEFT_PAREN" "Lcom/example/edictum/edictum/io/XpathTokens$Kind;" (.ref w14)) (F_w14_ordinal : Fld Z Z.heap w14 "java/lang/Enum" "ordinal" "I" (.int 2)) (S22 : Sta Z Z.heap "com/example/edictum/edictum/io/XpathTokens$Kind" "LEFT_BRACKET" "Lcom/example/edictum/edictum/io/XpathTokens$Kind;" (.ref w12)) (F_w12_ordinal : Fld Z Z.heap w12 "java/lang/Enum" "ordinal" "I" (.int 3)) (S30 : Sta Z Z.heap "com/example/edictum/edictum/io/XpathTokens$Kind" "COMMA" "Lcom/example/edictum/edictum/io/XpathTokens$Kind;" (.ref w16)) (F_w16_ordinal : Fld Z Z.heap w16 "java/lang/Enum" "ordinal" "I" (.int 4)) (S28 : Sta Z Z.heap "com/example/edictum/edictum/io/XpathTokens$Kind" "SLASH" "Lcom/example/edictum/edictum/io/XpathTokens$Kind;" (.ref w15)) (F_w15_ordinal : Fld Z Z.heap w15 "java/lang/Enum" "ordinal" "I" (.int 7)) (S32 : Sta Z Z.heap "com/example/edictum/edictum/io/XpathTokens$Kind" "DOUBLE_SLASH" "Lcom/example/edictum/edictum/io/XpathTokens$Kind;" (.ref w17)) (F_w17_ordinal : Fld Z Z.heap w17 "java/lang/Enum" "ordinal" "I" (.int 8)) (S34 : Sta Z Z.heap "com/example/edictum/edictum/io/XpathTokens$Kind" "OPERATOR" "Lcom/example/edictum/edictum/io/XpathTokens$Kind;" (.ref w18)) (F_w18_ordinal : Fld Z Z.heap w18 "java/lang/Enum" "ordinal" "I" (.int 9)) :
    MF l Z (⟨"com/example/edictum/edictum/io/XpathTokens$Kind", "namesNext", "()Z"⟩ : MethodName) (Jvm.Cond.code (⟨"com/example/edictum/edictum/io/XpathTokens$Kind", "namesNext", "()Z"⟩ : MethodName) prog_251_method_4_code 1 (some .boolean)) ws ({ frames := 0, cells := 0, slots := 0, locals := 0 } : Room) #[(.ref w6)] h0 (Q3_39 Z w6 w1 w13 w14 w12 w16 w15 w17 w18 h0 n0) := by
  refine MetFree.of_bodySF (plainFor_of_name pn_1) hisR ?_
  intro p e s m args below meth c s₁ Bd hml0 hP hK
  obtain ⟨rfl, hZ, hh⟩ := hP
  have hx := Bd.exec
  have hby := Bd.bytes
  have hml : c.maxLocals = 1 := hml0
  have hown : s.vm.findClass "com/example/edictum/edictum/io/XpathTokens$Kind" = some m.cls := findClass_of_methodNamed Bd.named
  have hnm := (name_of_methodNamed Bd.named Bd.method).1
  have X0 : Stand p l e ({ frames := 0, cells := 0, slots := 0, locals := 0 } : Room) s m #[(.ref w6)] below meth c s₁ [] 0 0 := Stand.of_body Bd
  have e0 : s₁.heap = h0 := by rw [← hh, Bd.state]; rfl
  have N0 := Fr.nil n0
  have pre0 : ∀ t, SF p e below s₁ (mkF m 0 #[rv w6] []) t → SF p e below s₁ (entryFrame m #[(.ref w6)] 1) t := fun t k => castTop (ef_2 m w6) k
  obtain ⟨T1, X1, e1, st1⟩ := getS2 X0 hx hZ hown (host := "") (Or.inl (tw hw 36 rfl)) Via.refl e0 (S0.ext P2.2) (g := (mkF m 1 #[rv w6] [(.ref w6)])) rfl (hb hby d3_1)
  obtain ⟨T2, X2, e2, st2⟩ := getS2 X1 hx hZ hown (host := "") (Or.inl (tw hw 39 rfl)) Via.refl e1 (S24.ext P2.2) (g := (mkF m 8 #[rv w6] [(.ref w6)])) rfl (hb hby d3_8)
  obtain ⟨T3, X3, e3, st3⟩ := getS2 X2 hx hZ hown (host := "") (Or.inl (tw hw 41 rfl)) Via.refl e2 (S26.ext P2.2) (g := (mkF m 15 #[rv w6] [(.ref w6)])) rfl (hb hby d3_15)
  obtain ⟨T4, X4, e4, st4⟩ := getS2 X3 hx hZ hown (host := "") (Or.inl (tw hw 43 rfl)) Via.refl e3 (S22.ext P2.2) (g := (mkF m 22 #[rv w6] [(.ref w6)])) rfl (hb hby d3_22)
  obtain ⟨T5, X5, e5, st5⟩ := getS2 X4 hx hZ hown (host := "") (Or.inl (tw hw 48 rfl)) Via.refl e4 (S30.ext P2.2) (g := (mkF m 29 #[rv w6] [(.ref w6)])) rfl (hb hby d3_29)
  obtain ⟨T6, X6, e6, st6⟩ := getS2 X5 hx hZ hown (host := "") (Or.inl (tw hw 50 rfl)) Via.refl e5 (S28.ext P2.2) (g := (mkF m 36 #[rv w6] [(.ref w6)])) rfl (hb hby d3_36)
  obtain ⟨T7, X7, e7, st7⟩ := getS2 X6 hx hZ hown (host := "") (Or.inl (tw hw 51 rfl)) Via.refl e6 (S32.ext P2.2) (g := (mkF m 43 #[rv w6] [(.ref w6)])) rfl (hb hby d3_43)
  obtain ⟨T8, X8, e8, st8⟩ := getS2 X7 hx hZ hown (host := "") (Or.inl (tw hw 53 rfl)) Via.refl e7 (S34.ext P2.2) (g := (mkF m 50 #[rv w6] [(.ref w6)])) rfl (hb hby d3_50)
  obtain ⟨fs, hr, hrun, hended, hW, hsame⟩ := X8.leave (v := some (.int 0)) (fun h => by rw [Bd.returns] at h; cases h)
  refine ⟨_, _, pre0 _ ?_, hrun, hended, _, _, rfl, ?_, ⟨_, rfl⟩, hW, hsame.mono (by decide) (by decide)⟩
  · show SF p e below s₁ (mkF m 0 #[rv w6] []) _
    refine XS.aloadN X0.here hx rfl (hb hby d3_0) rfl rfl ?_
    show SF p e below s₁ (mkF m 1 #[rv w6] [(.ref w6)]) _
    refine st1 _ ?_
    show SF p e below T1 (mkF m 4 #[rv w6] [(.ref w1), (.ref w6)]) _
    refine Jvm.RoadKit.acmp (g := (mkF m 4 #[rv w6] [(.ref w1), (.ref w6)])) X1 hx rfl rfl rfl (pc0 := 4) (pc' := 7) (same := false) rfl (hb hby d3_4) rfl (decide_eq_false fun q => (Fld.ne F_w6_ordinal F_w1_ordinal (by decide)) (Value.ref.inj q)) (by decide) (by decide) ?_
    show SF p e below T1 (mkF m 7 #[rv w6] []) _
    refine XS.aloadN X1.here hx rfl (hb hby d3_7) rfl rfl ?_
    show SF p e below T1 (mkF m 8 #[rv w6] [(.ref w6)]) _
    refine st2 _ ?_
    show SF p e below T2 (mkF m 11 #[rv w6] [(.ref w13), (.ref w6)]) _
    refine Jvm.RoadKit.acmp (g := (mkF m 11 #[rv w6] [(.ref w13), (.ref w6)])) X2 hx rfl rfl rfl (pc0 := 11) (pc' := 14) (same := false) rfl (hb hby d3_11) rfl (decide_eq_false fun q => (Fld.ne F_w6_ordinal F_w13_ordinal (by decide)) (Value.ref.inj q)) (by decide) (by decide) ?_
    show SF p e below T2 (mkF m 14 #[rv w6] []) _
    refine XS.aloadN X2.here hx rfl (hb hby d3_14) rfl rfl ?_
    show SF p e below T2 (mkF m 15 #[rv w6] [(.ref w6)]) _
    refine st3 _ ?_
    show SF p e below T3 (mkF m 18 #[rv w6] [(.ref w14), (.ref w6)]) _
    refine Jvm.RoadKit.acmp (g := (mkF m 18 #[rv w6] [(.ref w14), (.ref w6)])) X3 hx rfl rfl rfl (pc0 := 18) (pc' := 21) (same := false) rfl (hb hby d3_18) rfl (decide_eq_false fun q => (Fld.ne F_w6_ordinal F_w14_ordinal (by decide)) (Value.ref.inj q)) (by decide) (by decide) ?_
    show SF p e below T3 (mkF m 21 #[rv w6] []) _
    refine XS.aloadN X3.here hx rfl (hb hby d3_21) rfl rfl ?_
    show SF p e below T3 (mkF m 22 #[rv w6] [(.ref w6)]) _
    refine st4 _ ?_
    show SF p e below T4 (mkF m 25 #[rv w6] [(.ref w12), (.ref w6)]) _
    refine Jvm.RoadKit.acmp (g := (mkF m 25 #[rv w6] [(.ref w12), (.ref w6)])) X4 hx rfl rfl rfl (pc0 := 25) (pc' := 28) (same := false) rfl (hb hby d3_25) rfl (decide_eq_false fun q => (Fld.ne F_w6_ordinal F_w12_ordinal (by decide)) (Value.ref.inj q)) (by decide) (by decide) ?_
    show SF p e below T4 (mkF m 28 #[rv w6] []) _
    refine XS.aloadN X4.here hx rfl (hb hby d3_28) rfl rfl ?_
    show SF p e below T4 (mkF m 29 #[rv w6] [(.ref w6)]) _
    refine st5 _ ?_
    show SF p e below T5 (mkF m 32 #[rv w6] [(.ref w16), (.ref w6)]) _
    refine Jvm.RoadKit.acmp (g := (mkF m 32 #[rv w6] [(.ref w16), (.ref w6)])) X5 hx rfl rfl rfl (pc0 := 32) (pc' := 35) (same := false) rfl (hb hby d3_32) rfl (decide_eq_false fun q => (Fld.ne F_w6_ordinal F_w16_ordinal (by decide)) (Value.ref.inj q)) (by decide) (by decide) ?_
    show SF p e below T5 (mkF m 35 #[rv w6] []) _
    refine XS.aloadN X5.here hx rfl (hb hby d3_35) rfl rfl ?_
    show SF p e below T5 (mkF m 36 #[rv w6] [(.ref w6)]) _
    refine st6 _ ?_
    show SF p e below T6 (mkF m 39 #[rv w6] [(.ref w15), (.ref w6)]) _
    refine Jvm.RoadKit.acmp (g := (mkF m 39 #[rv w6] [(.ref w15), (.ref w6)])) X6 hx rfl rfl rfl (pc0 := 39) (pc' := 42) (same := false) rfl (hb hby d3_39) rfl (decide_eq_false fun q => (Fld.ne F_w6_ordinal F_w15_ordinal (by decide)) (Value.ref.inj q)) (by decide) (by decide) ?_
    show SF p e below T6 (mkF m 42 #[rv w6] []) _
    refine XS.aloadN X6.here hx rfl (hb hby d3_42) rfl rfl ?_
    show SF p e below T6 (mkF m 43 #[rv w6] [(.ref w6)]) _
    refine st7 _ ?_
    show SF p e below T7 (mkF m 46 #[rv w6] [(.ref w17), (.ref w6)]) _
    refine Jvm.RoadKit.acmp (g := (mkF m 46 #[rv w6] [(.ref w17), (.ref w6)])) X7 hx rfl rfl rfl (pc0 := 46) (pc' := 49) (same := false) rfl (hb hby d3_46) rfl (decide_eq_false fun q => (Fld.ne F_w6_ordinal F_w17_ordinal (by decide)) (Value.ref.inj q)) (by decide) (by decide) ?_
    show SF p e below T7 (mkF m 49 #[rv w6] []) _
    refine XS.aloadN X7.here hx rfl (hb hby d3_49) rfl rfl ?_
    show SF p e below T7 (mkF m 50 #[rv w6] [(.ref w6)]) _
    refine st8 _ ?_
    show SF p e below T8 (mkF m 53 #[rv w6] [(.ref w18), (.ref w6)]) _
    refine Jvm.RoadKit.acmp (g := (mkF m 53 #[rv w6] [(.ref w18), (.ref w6)])) X8 hx rfl rfl rfl (pc0 := 53) (pc' := 60) (same := false) rfl (hb hby d3_53) rfl (decide_eq_false fun q => (Fld.ne F_w6_ordinal F_w18_ordinal (by decide)) (Value.ref.inj q)) (by decide) (by decide) ?_
    show SF p e below T8 (mkF m 60 #[rv w6] []) _
    refine XS.iconst X8.here hx rfl (hb hby d3_60) ?_
    show SF p e below T8 (mkF m 61 #[rv w6] [(.int 0)]) _
    exact retN X8 hx (t := .boolean) Bd.returns (by simp) (hb hby d3_61) hr
  · show Q3_39 Z w6 w1 w13 w14 w12 w16 w15 w17 w18 h0 n0 _ T8.heap _
    rw [e8]
    exact ⟨rfl, N0, rfl⟩
theorem d1_123 : decode method_2_code 123 = .ok (.iload_n 0, 1) := by decide +kernel
theorem d1_124 : decode method_2_code 124 = .ok (.bipush 13, 2) := by decide +kernel
theorem d1_126 : decode method_2_code 126 = .ok (.if_icmp .ne 7, 3) := by decide +kernel
theorem d1_129 : decode method_2_code 129 = .ok (.getstatic 49, 3) := by decide +kernel
theorem d1_132 : decode method_2_code 132 = .ok (.areturn, 1) := by decide +kernel
-- XpathTokensNamesNextPinLaw.kindOf 
def Q1_40 (Z : State) (w7 : Addr) (h0 : Heap) (n0 : Nat) (v : Option Value) (h : Heap) (L : List Loc) : Prop := v = some (.ref w7) ∧ Fr n0 L ∧ h = h0
set_option maxRecDepth 65536 in
set_option maxHeartbeats 40000000 in
theorem rm1_40 (l : Launch) (Z : State) (a0 : Array Value) (hw : HW Z a0) (ws : List Jvm.Cond) (w7 : Addr) (h0 : Heap) (n0 : Nat) (Z0 : n0 ≤ h0.size) (S12 : Sta Z Z.heap "com/example/edictum/edictum/io/XpathTokens$Kind" "NAME_TEST" "Lcom/example/edictum/edictum/io/XpathTokens$Kind;" (.ref w7)) (P2 : Old Z n0 h0) :
    MF l Z (⟨"com/example/edictum/edictum/io/XpathTokensNamesNextPinLaw", "kindOf", "(I)Lcom/example/edictum/edictum/io/XpathTokens$Kind;"⟩ : MethodName) (Jvm.Cond.code (⟨"com/example/edictum/edictum/io/XpathTokensNamesNextPinLaw", "kindOf", "(I)Lcom/example/edictum/edictum/io/XpathTokens$Kind;"⟩ : MethodName) method_2_code 1 (some (.object "com/example/edictum/edictum/io/XpathTokens$Kind"))) ws ({ frames := 0, cells := 0, slots := 0, locals := 0 } : Room) #[(.int 13)] h0 (Q1_40 Z w7 h0 n0) := by
  refine MetFree.of_bodySF (plainFor_of_name pn_0) hisR ?_
  intro p e s m args below meth c s₁ Bd hml0 hP hK
  obtain ⟨rfl, hZ, hh⟩ := hP
  have hx := Bd.exec
  have hby := Bd.bytes
  have hml : c.maxLocals = 1 := hml0
  have hown : s.vm.findClass "com/example/edictum/edictum/io/XpathTokensNamesNextPinLaw" = some m.cls := findClass_of_methodNamed Bd.named
  have hnm := (name_of_methodNamed Bd.named Bd.method).1
  have X0 : Stand p l e ({ frames := 0, cells := 0, slots := 0, locals := 0 } : Room) s m #[(.int 13)] below meth c s₁ [] 0 0 := Stand.of_body Bd
  have e0 : s₁.heap = h0 := by rw [← hh, Bd.state]; rfl
  have N0 := Fr.nil n0
  have pre0 : ∀ t, SF p e below s₁ (mkF m 0 #[iv 13] []) t → SF p e below s₁ (entryFrame m #[(.int 13)] 1) t := fun t k => castTop (ef_0 m (13 : Int32)) k
  obtain ⟨T1, X1, e1, st1⟩ := getS2 X0 hx hZ hown (host := "") (Or.inl (tw hw 21 rfl)) Via.refl e0 (S12.ext P2.2) (g := (mkF m 129 #[iv 13] [])) rfl (hb hby d1_129)
  obtain ⟨fs, hr, hrun, hended, hW, hsame⟩ := X1.leave (v := some (.ref w7)) (fun h => by rw [Bd.returns] at h; cases h)
  refine ⟨_, _, pre0 _ ?_, hrun, hended, _, _, rfl, ?_, ⟨_, rfl⟩, hW, hsame.mono (by decide) (by decide)⟩
  · show SF p e below s₁ (mkF m 0 #[iv 13] []) _
    refine XS.iloadN X0.here hx rfl (hb hby d1_0) rfl ?_
    show SF p e below s₁ (mkF m 1 #[iv 13] [(.int 13)]) _
    refine XS.ifYes X0.here hx rfl (pc0 := 1) (pc' := 8) rfl (hb hby d1_1) rfl ((if0 _ _).trans (feq (by decide : ¬ ((13 : Int32) = (0 : Int32)))).2) (by decide) (by decide) ?_
    show SF p e below s₁ (mkF m 8 #[iv 13] []) _
    refine XS.iloadN X0.here hx rfl (hb hby d1_8) rfl ?_
    show SF p e below s₁ (mkF m 9 #[iv 13] [(.int 13)]) _
    refine XS.iconst X0.here hx rfl (hb hby d1_9) ?_
    show SF p e below s₁ (mkF m 10 #[iv 13] [(.int 1), (.int 13)]) _
    refine XS.icmpYes X0.here hx rfl (pc0 := 10) (pc' := 17) rfl (hb hby d1_10) rfl (feq (by decide : ¬ ((13 : Int32) = (1 : Int32)))).2 (by decide) (by decide) ?_
    show SF p e below s₁ (mkF m 17 #[iv 13] []) _
    refine XS.iloadN X0.here hx rfl (hb hby d1_17) rfl ?_
    show SF p e below s₁ (mkF m 18 #[iv 13] [(.int 13)]) _
    refine XS.iconst X0.here hx rfl (hb hby d1_18) ?_
    show SF p e below s₁ (mkF m 19 #[iv 13] [(.int 2), (.int 13)]) _
    refine XS.icmpYes X0.here hx rfl (pc0 := 19) (pc' := 26) rfl (hb hby d1_19) rfl (feq (by decide : ¬ ((13 : Int32) = (2 : Int32)))).2 (by decide) (by decide) ?_
    show SF p e below s₁ (mkF m 26 #[iv 13] []) _
    refine XS.iloadN X0.here hx rfl (hb hby d1_26) rfl ?_
    show SF p e below s₁ (mkF m 27 #[iv 13] [(.int 13)]) _
    refine XS.iconst X0.here hx rfl (hb hby d1_27) ?_
    show SF p e below s₁ (mkF m 28 #[iv 13] [(.int 3), (.int 13)]) _
    refine XS.icmpYes X0.here hx rfl (pc0 := 28) (pc' := 35) rfl (hb hby d1_28) rfl (feq (by decide : ¬ ((13 : Int32) = (3 : Int32)))).2 (by decide) (by decide) ?_
    show SF p e below s₁ (mkF m 35 #[iv 13] []) _
    refine XS.iloadN X0.here hx rfl (hb hby d1_35) rfl ?_
    show SF p e below s₁ (mkF m 36 #[iv 13] [(.int 13)]) _
    refine XS.iconst X0.here hx rfl (hb hby d1_36) ?_
    show SF p e below s₁ (mkF m 37 #[iv 13] [(.int 4), (.int 13)]) _
    refine XS.icmpYes X0.here hx rfl (pc0 := 37) (pc' := 44) rfl (hb hby d1_37) rfl (feq (by decide : ¬ ((13 : Int32) = (4 : Int32)))).2 (by decide) (by decide) ?_
    show SF p e below s₁ (mkF m 44 #[iv 13] []) _
    refine XS.iloadN X0.here hx rfl (hb hby d1_44) rfl ?_
    show SF p e below s₁ (mkF m 45 #[iv 13] [(.int 13)]) _
    refine XS.iconst X0.here hx rfl (hb hby d1_45) ?_
    show SF p e below s₁ (mkF m 46 #[iv 13] [(.int 5), (.int 13)]) _
    refine XS.icmpYes X0.here hx rfl (pc0 := 46) (pc' := 53) rfl (hb hby d1_46) rfl (feq (by decide : ¬ ((13 : Int32) = (5 : Int32)))).2 (by decide) (by decide) ?_
    show SF p e below s₁ (mkF m 53 #[iv 13] []) _
    refine XS.iloadN X0.here hx rfl (hb hby d1_53) rfl ?_
    show SF p e below s₁ (mkF m 54 #[iv 13] [(.int 13)]) _
    refine XS.bipush X0.here hx rfl (hb hby d1_54) ?_
    show SF p e below s₁ (mkF m 56 #[iv 13] [(.int 6), (.int 13)]) _
    refine XS.icmpYes X0.here hx rfl (pc0 := 56) (pc' := 63) rfl (hb hby d1_56) rfl (feq (by decide : ¬ ((13 : Int32) = (6 : Int32)))).2 (by decide) (by decide) ?_
    show SF p e below s₁ (mkF m 63 #[iv 13] []) _
    refine XS.iloadN X0.here hx rfl (hb hby d1_63) rfl ?_
    show SF p e below s₁ (mkF m 64 #[iv 13] [(.int 13)]) _
    refine XS.bipush X0.here hx rfl (hb hby d1_64) ?_
    show SF p e below s₁ (mkF m 66 #[iv 13] [(.int 7), (.int 13)]) _
    refine XS.icmpYes X0.here hx rfl (pc0 := 66) (pc' := 73) rfl (hb hby d1_66) rfl (feq (by decide : ¬ ((13 : Int32) = (7 : Int32)))).2 (by decide) (by decide) ?_
    show SF p e below s₁ (mkF m 73 #[iv 13] []) _
    refine XS.iloadN X0.here hx rfl (hb hby d1_73) rfl ?_
    show SF p e below s₁ (mkF m 74 #[iv 13] [(.int 13)]) _
    refine XS.bipush X0.here hx rfl (hb hby d1_74) ?_
    show SF p e below s₁ (mkF m 76 #[iv 13] [(.int 8), (.int 13)]) _
    refine XS.icmpYes X0.here hx rfl (pc0 := 76) (pc' := 83) rfl (hb hby d1_76) rfl (feq (by decide : ¬ ((13 : Int32) = (8 : Int32)))).2 (by decide) (by decide) ?_
    show SF p e below s₁ (mkF m 83 #[iv 13] []) _
    refine XS.iloadN X0.here hx rfl (hb hby d1_83) rfl ?_
    show SF p e below s₁ (mkF m 84 #[iv 13] [(.int 13)]) _
    refine XS.bipush X0.here hx rfl (hb hby d1_84) ?_
    show SF p e below s₁ (mkF m 86 #[iv 13] [(.int 9), (.int 13)]) _
    refine XS.icmpYes X0.here hx rfl (pc0 := 86) (pc' := 93) rfl (hb hby d1_86) rfl (feq (by decide : ¬ ((13 : Int32) = (9 : Int32)))).2 (by decide) (by decide) ?_
    show SF p e below s₁ (mkF m 93 #[iv 13] []) _
    refine XS.iloadN X0.here hx rfl (hb hby d1_93) rfl ?_
    show SF p e below s₁ (mkF m 94 #[iv 13] [(.int 13)]) _
    refine XS.bipush X0.here hx rfl (hb hby d1_94) ?_
    show SF p e below s₁ (mkF m 96 #[iv 13] [(.int 10), (.int 13)]) _
    refine XS.icmpYes X0.here hx rfl (pc0 := 96) (pc' := 103) rfl (hb hby d1_96) rfl (feq (by decide : ¬ ((13 : Int32) = (10 : Int32)))).2 (by decide) (by decide) ?_
    show SF p e below s₁ (mkF m 103 #[iv 13] []) _
    refine XS.iloadN X0.here hx rfl (hb hby d1_103) rfl ?_
    show SF p e below s₁ (mkF m 104 #[iv 13] [(.int 13)]) _
    refine XS.bipush X0.here hx rfl (hb hby d1_104) ?_
    show SF p e below s₁ (mkF m 106 #[iv 13] [(.int 11), (.int 13)]) _
    refine XS.icmpYes X0.here hx rfl (pc0 := 106) (pc' := 113) rfl (hb hby d1_106) rfl (feq (by decide : ¬ ((13 : Int32) = (11 : Int32)))).2 (by decide) (by decide) ?_
    show SF p e below s₁ (mkF m 113 #[iv 13] []) _
    refine XS.iloadN X0.here hx rfl (hb hby d1_113) rfl ?_
    show SF p e below s₁ (mkF m 114 #[iv 13] [(.int 13)]) _
    refine XS.bipush X0.here hx rfl (hb hby d1_114) ?_
    show SF p e below s₁ (mkF m 116 #[iv 13] [(.int 12), (.int 13)]) _
    refine XS.icmpYes X0.here hx rfl (pc0 := 116) (pc' := 123) rfl (hb hby d1_116) rfl (feq (by decide : ¬ ((13 : Int32) = (12 : Int32)))).2 (by decide) (by decide) ?_
    show SF p e below s₁ (mkF m 123 #[iv 13] []) _
    refine XS.iloadN X0.here hx rfl (hb hby d1_123) rfl ?_
    show SF p e below s₁ (mkF m 124 #[iv 13] [(.int 13)]) _
    refine XS.bipush X0.here hx rfl (hb hby d1_124) ?_
    show SF p e below s₁ (mkF m 126 #[iv 13] [(.int 13), (.int 13)]) _
    refine XS.icmpNo X0.here hx rfl (hb hby d1_126) rfl (teq (by decide : (13 : Int32) = (13 : Int32))).2 ?_
    show SF p e below s₁ (mkF m 129 #[iv 13] []) _
    refine st1 _ ?_
    show SF p e below T1 (mkF m 132 #[iv 13] [(.ref w7)]) _
    exact own_retR X1 hx Bd.returns rfl rfl (hb hby d1_132) hr
  · show Q1_40 Z w7 h0 n0 _ T1.heap _
    rw [e1]
    exact ⟨rfl, N0, rfl⟩
-- XpathTokensNamesNextPinLaw.endsOperand 
def Q2_41 (Z : State) (w7 : Addr) (w2 : Addr) (w3 : Addr) (w4 : Addr) (w5 : Addr) (w6 : Addr) (h0 : Heap) (n0 : Nat) (v : Option Value) (h : Heap) (L : List Loc) : Prop := v = some (.int 1) ∧ Fr n0 L ∧ h = h0
set_option maxRecDepth 65536 in
set_option maxHeartbeats 40000000 in
theorem rm2_41 (l : Launch) (Z : State) (a0 : Array Value) (hw : HW Z a0) (ws : List Jvm.Cond) (w7 : Addr) (w2 : Addr) (w3 : Addr) (w4 : Addr) (w5 : Addr) (w6 : Addr) (h0 : Heap) (n0 : Nat) (Z0 : n0 ≤ h0.size) (S2 : Sta Z Z.heap "com/example/edictum/edictum/io/XpathTokens$Kind" "RIGHT_PAREN" "Lcom/example/edictum/edictum/io/XpathTokens$Kind;" (.ref w2)) (P2 : Old Z n0 h0) (F_w7_ordinal : Fld Z Z.heap w7 "java/lang/Enum" "ordinal" "I" (.int 13)) (F_w2_ordinal : Fld Z Z.heap w2 "java/lang/Enum" "ordinal" "I" (.int 5)) (S4 : Sta Z Z.heap "com/example/edictum/edictum/io/XpathTokens$Kind" "RIGHT_BRACKET" "Lcom/example/edictum/edictum/io/XpathTokens$Kind;" (.ref w3)) (F_w3_ordinal : Fld Z Z.heap w3 "java/lang/Enum" "ordinal" "I" (.int 6)) (S6 : Sta Z Z.heap "com/example/edictum/edictum/io/XpathTokens$Kind" "AXIS" "Lcom/example/edictum/edictum/io/XpathTokens$Kind;" (.ref w4)) (F_w4_ordinal : Fld Z Z.heap w4 "java/lang/Enum" "ordinal" "I" (.int 10)) (S8 : Sta Z Z.heap "com/example/edictum/edictum/io/XpathTokens$Kind" "FUNCTION" "Lcom/example/edictum/edictum/io/XpathTokens$Kind;" (.ref w5)) (F_w5_ordinal : Fld Z Z.heap w5 "java/lang/Enum" "ordinal" "I" (.int 11)) (S10 : Sta Z Z.heap "com/example/edictum/edictum/io/XpathTokens$Kind" "NODE_TYPE" "Lcom/example/edictum/edictum/io/XpathTokens$Kind;" (.ref w6)) (F_w6_ordinal : Fld Z Z.heap w6 "java/lang/Enum" "ordinal" "I" (.int 12)) (S12 : Sta Z Z.heap "com/example/edictum/edictum/io/XpathTokens$Kind" "NAME_TEST" "Lcom/example/edictum/edictum/io/XpathTokens$Kind;" (.ref w7)) :
    MF l Z (⟨"com/example/edictum/edictum/io/XpathTokensNamesNextPinLaw", "endsOperand", "(Lcom/example/edictum/edictum/io/XpathTokens$Kind;)Z"⟩ : MethodName) (Jvm.Cond.code (⟨"com/example/edictum/edictum/io/XpathTokensNamesNextPinLaw", "endsOperand", "(Lcom/example/edictum/edictum/io/XpathTokens$Kind;)Z"⟩ : MethodName) method_3_code 1 (some .boolean)) ws ({ frames := 0, cells := 0, slots := 0, locals := 0 } : Room) #[(.ref w7)] h0 (Q2_41 Z w7 w2 w3 w4 w5 w6 h0 n0) := by
  refine MetFree.of_bodySF (plainFor_of_name pn_0) hisR ?_
  intro p e s m args below meth c s₁ Bd hml0 hP hK
  obtain ⟨rfl, hZ, hh⟩ := hP
  have hx := Bd.exec
  have hby := Bd.bytes
  have hml : c.maxLocals = 1 := hml0
  have hown : s.vm.findClass "com/example/edictum/edictum/io/XpathTokensNamesNextPinLaw" = some m.cls := findClass_of_methodNamed Bd.named
  have hnm := (name_of_methodNamed Bd.named Bd.method).1
  have X0 : Stand p l e ({ frames := 0, cells := 0, slots := 0, locals := 0 } : Room) s m #[(.ref w7)] below meth c s₁ [] 0 0 := Stand.of_body Bd
  have e0 : s₁.heap = h0 := by rw [← hh, Bd.state]; rfl
  have N0 := Fr.nil n0
  have pre0 : ∀ t, SF p e below s₁ (mkF m 0 #[rv w7] []) t → SF p e below s₁ (entryFrame m #[(.ref w7)] 1) t := fun t k => castTop (ef_1 m w7) k
  obtain ⟨T1, X1, e1, st1⟩ := getS2 X0 hx hZ hown (host := "") (Or.inl (tw hw 11 rfl)) Via.refl e0 (S2.ext P2.2) (g := (mkF m 1 #[rv w7] [(.ref w7)])) rfl (hb hby d2_1)
  obtain ⟨T2, X2, e2, st2⟩ := getS2 X1 hx hZ hown (host := "") (Or.inl (tw hw 13 rfl)) Via.refl e1 (S4.ext P2.2) (g := (mkF m 8 #[rv w7] [(.ref w7)])) rfl (hb hby d2_8)
  obtain ⟨T3, X3, e3, st3⟩ := getS2 X2 hx hZ hown (host := "") (Or.inl (tw hw 15 rfl)) Via.refl e2 (S6.ext P2.2) (g := (mkF m 15 #[rv w7] [(.ref w7)])) rfl (hb hby d2_15)
  obtain ⟨T4, X4, e4, st4⟩ := getS2 X3 hx hZ hown (host := "") (Or.inl (tw hw 17 rfl)) Via.refl e3 (S8.ext P2.2) (g := (mkF m 22 #[rv w7] [(.ref w7)])) rfl (hb hby d2_22)
  obtain ⟨T5, X5, e5, st5⟩ := getS2 X4 hx hZ hown (host := "") (Or.inl (tw hw 19 rfl)) Via.refl e4 (S10.ext P2.2) (g := (mkF m 29 #[rv w7] [(.ref w7)])) rfl (hb hby d2_29)
  obtain ⟨T6, X6, e6, st6⟩ := getS2 X5 hx hZ hown (host := "") (Or.inl (tw hw 21 rfl)) Via.refl e5 (S12.ext P2.2) (g := (mkF m 36 #[rv w7] [(.ref w7)])) rfl (hb hby d2_36)
  obtain ⟨fs, hr, hrun, hended, hW, hsame⟩ := X6.leave (v := some (.int 1)) (fun h => by rw [Bd.returns] at h; cases h)
  refine ⟨_, _, pre0 _ ?_, hrun, hended, _, _, rfl, ?_, ⟨_, rfl⟩, hW, hsame.mono (by decide) (by decide)⟩
  · show SF p e below s₁ (mkF m 0 #[rv w7] []) _
    refine XS.aloadN X0.here hx rfl (hb hby d2_0) rfl rfl ?_
    show SF p e below s₁ (mkF m 1 #[rv w7] [(.ref w7)]) _
    refine st1 _ ?_
    show SF p e below T1 (mkF m 4 #[rv w7] [(.ref w2), (.ref w7)]) _
    refine Jvm.RoadKit.acmp (g := (mkF m 4 #[rv w7] [(.ref w2), (.ref w7)])) X1 hx rfl rfl rfl (pc0 := 4) (pc' := 7) (same := false) rfl (hb hby d2_4) rfl (decide_eq_false fun q => (Fld.ne F_w7_ordinal F_w2_ordinal (by decide)) (Value.ref.inj q)) (by decide) (by decide) ?_
    show SF p e below T1 (mkF m 7 #[rv w7] []) _
    refine XS.aloadN X1.here hx rfl (hb hby d2_7) rfl rfl ?_
    show SF p e below T1 (mkF m 8 #[rv w7] [(.ref w7)]) _
    refine st2 _ ?_
    show SF p e below T2 (mkF m 11 #[rv w7] [(.ref w3), (.ref w7)]) _
    refine Jvm.RoadKit.acmp (g := (mkF m 11 #[rv w7] [(.ref w3), (.ref w7)])) X2 hx rfl rfl rfl (pc0 := 11) (pc' := 14) (same := false) rfl (hb hby d2_11) rfl (decide_eq_false fun q => (Fld.ne F_w7_ordinal F_w3_ordinal (by decide)) (Value.ref.inj q)) (by decide) (by decide) ?_
    show SF p e below T2 (mkF m 14 #[rv w7] []) _
    refine XS.aloadN X2.here hx rfl (hb hby d2_14) rfl rfl ?_
    show SF p e below T2 (mkF m 15 #[rv w7] [(.ref w7)]) _
    refine st3 _ ?_
    show SF p e below T3 (mkF m 18 #[rv w7] [(.ref w4), (.ref w7)]) _
    refine Jvm.RoadKit.acmp (g := (mkF m 18 #[rv w7] [(.ref w4), (.ref w7)])) X3 hx rfl rfl rfl (pc0 := 18) (pc' := 21) (same := false) rfl (hb hby d2_18) rfl (decide_eq_false fun q => (Fld.ne F_w7_ordinal F_w4_ordinal (by decide)) (Value.ref.inj q)) (by decide) (by decide) ?_
    show SF p e below T3 (mkF m 21 #[rv w7] []) _
    refine XS.aloadN X3.here hx rfl (hb hby d2_21) rfl rfl ?_
    show SF p e below T3 (mkF m 22 #[rv w7] [(.ref w7)]) _
    refine st4 _ ?_
    show SF p e below T4 (mkF m 25 #[rv w7] [(.ref w5), (.ref w7)]) _
    refine Jvm.RoadKit.acmp (g := (mkF m 25 #[rv w7] [(.ref w5), (.ref w7)])) X4 hx rfl rfl rfl (pc0 := 25) (pc' := 28) (same := false) rfl (hb hby d2_25) rfl (decide_eq_false fun q => (Fld.ne F_w7_ordinal F_w5_ordinal (by decide)) (Value.ref.inj q)) (by decide) (by decide) ?_
    show SF p e below T4 (mkF m 28 #[rv w7] []) _
    refine XS.aloadN X4.here hx rfl (hb hby d2_28) rfl rfl ?_
    show SF p e below T4 (mkF m 29 #[rv w7] [(.ref w7)]) _
    refine st5 _ ?_
    show SF p e below T5 (mkF m 32 #[rv w7] [(.ref w6), (.ref w7)]) _
    refine Jvm.RoadKit.acmp (g := (mkF m 32 #[rv w7] [(.ref w6), (.ref w7)])) X5 hx rfl rfl rfl (pc0 := 32) (pc' := 35) (same := false) rfl (hb hby d2_32) rfl (decide_eq_false fun q => (Fld.ne F_w7_ordinal F_w6_ordinal (by decide)) (Value.ref.inj q)) (by decide) (by decide) ?_
    show SF p e below T5 (mkF m 35 #[rv w7] []) _
    refine XS.aloadN X5.here hx rfl (hb hby d2_35) rfl rfl ?_
    show SF p e below T5 (mkF m 36 #[rv w7] [(.ref w7)]) _
    refine st6 _ ?_
    show SF p e below T6 (mkF m 39 #[rv w7] [(.ref w7), (.ref w7)]) _
    refine Jvm.RoadKit.acmp (g := (mkF m 39 #[rv w7] [(.ref w7), (.ref w7)])) X6 hx rfl rfl rfl (pc0 := 39) (pc' := 70) (same := true) rfl (hb hby d2_39) rfl (decide_eq_true rfl) (by decide) (by decide) ?_
    show SF p e below T6 (mkF m 70 #[rv w7] []) _
    refine XS.iconst X6.here hx rfl (hb hby d2_70) ?_
    show SF p e below T6 (mkF m 71 #[rv w7] [(.int 1)]) _
    refine XS.goto X6.here hx rfl (pc0 := 71) (pc' := 75) rfl (hb hby d2_71) (by decide) (by decide) ?_
    show SF p e below T6 (mkF m 75 #[rv w7] [(.int 1)]) _
    exact retN X6 hx (t := .boolean) Bd.returns (by simp) (hb hby d2_75) hr
  · show Q2_41 Z w7 w2 w3 w4 w5 w6 h0 n0 _ T6.heap _
    rw [e6]
    exact ⟨rfl, N0, rfl⟩
-- XpathTokens$Kind.namesNext 
def Q3_42 (Z : State) (w7 : Addr) (w1 : Addr) (w13 : Addr) (w14 : Addr) (w12 : Addr) (w16 : Addr) (w15 : Addr) (w17 : Addr) (w18 : Addr) (h0 : Heap) (n0 : Nat) (v : Option Value) (h : Heap) (L : List Loc) : Prop := v = some (.int 0) ∧ Fr n0 L ∧ h = h0
set_option maxRecDepth 65536 in
set_option maxHeartbeats 40000000 in
theorem rm3_42 (l : Launch) (Z : State) (a0 : Array Value) (hw : HW Z a0) (ws : List Jvm.Cond) (w7 : Addr) (w1 : Addr) (w13 : Addr) (w14 : Addr) (w12 : Addr) (w16 : Addr) (w15 : Addr) (w17 : Addr) (w18 : Addr) (h0 : Heap) (n0 : Nat) (Z0 : n0 ≤ h0.size) (S0 : Sta Z Z.heap "com/example/edictum/edictum/io/XpathTokens$Kind" "AT" "Lcom/example/edictum/edictum/io/XpathTokens$Kind;" (.ref w1)) (P2 : Old Z n0 h0) (F_w7_ordinal : Fld Z Z.heap w7 "java/lang/Enum" "ordinal" "I" (.int 13)) (F_w1_ordinal : Fld Z Z.heap w1 "java/lang/Enum" "ordinal" "I" (.int 0)) (S24 : Sta Z Z.heap "com/example/edictum/edictum/io/XpathTokens$Kind" "AXIS_SEPARATOR" "Lcom/example/edictum/edictum/io/XpathTokens$Kind;" (.ref w13)) (F_w13_ordinal : Fld Z Z.heap w13 "java/lang/Enum" "ordinal" "I" (.int 1)) (S26 : Sta Z Z.heap "com/example/edictum/edictum/io/XpathTokens$Kind" "LEFT_PAREN" "Lcom/example/edictum/edictum/io/XpathTokens$Kind;" (.ref w14)) (F_w14_ordinal : Fld Z Z.heap w14 "java/lang/Enum" "ordinal" "I" (.int 2)) (S22 : Sta Z Z.heap "com/example/edictum/edictum/io/XpathTokens$Kind" "LEFT_BRACKET" "Lcom/example/edictum/edictum/io/XpathTokens$Kind;" (.ref w12)) (F_w12_ordinal : Fld Z Z.heap w12 "java/lang/Enum" "ordinal" "I" (.int 3)) (S30 : Sta Z Z.heap "com/example/edictum/edictum/io/XpathTokens$Kind" "COMMA" "Lcom/example/edictum/edictum/io/XpathTokens$Kind;" (.ref w16)) (F_w16_ordinal : Fld Z Z.heap w16 "java/lang/Enum" "ordinal" "I" (.int 4)) (S28 : Sta Z Z.heap "com/example/edictum/edictum/io/XpathTokens$Kind" "SLASH" "Lcom/example/edictum/edictum/io/XpathTokens$Kind;" (.ref w15)) (F_w15_ordinal : Fld Z Z.heap w15 "java/lang/Enum" "ordinal" "I" (.int 7)) (S32 : Sta Z Z.heap "com/example/edictum/edictum/io/XpathTokens$Kind" "DOUBLE_SLASH" "Lcom/example/edictum/edictum/io/XpathTokens$Kind;" (.ref w17)) (F_w17_ordinal : Fld Z Z.heap w17 "java/lang/Enum" "ordinal" "I" (.int 8)) (S34 : Sta Z Z.heap "com/example/edictum/edictum/io/XpathTokens$Kind" "OPERATOR" "Lcom/example/edictum/edictum/io/XpathTokens$Kind;" (.ref w18)) (F_w18_ordinal : Fld Z Z.heap w18 "java/lang/Enum" "ordinal" "I" (.int 9)) :
    MF l Z (⟨"com/example/edictum/edictum/io/XpathTokens$Kind", "namesNext", "()Z"⟩ : MethodName) (Jvm.Cond.code (⟨"com/example/edictum/edictum/io/XpathTokens$Kind", "namesNext", "()Z"⟩ : MethodName) prog_251_method_4_code 1 (some .boolean)) ws ({ frames := 0, cells := 0, slots := 0, locals := 0 } : Room) #[(.ref w7)] h0 (Q3_42 Z w7 w1 w13 w14 w12 w16 w15 w17 w18 h0 n0) := by
  refine MetFree.of_bodySF (plainFor_of_name pn_1) hisR ?_
  intro p e s m args below meth c s₁ Bd hml0 hP hK
  obtain ⟨rfl, hZ, hh⟩ := hP
  have hx := Bd.exec
  have hby := Bd.bytes
  have hml : c.maxLocals = 1 := hml0
  have hown : s.vm.findClass "com/example/edictum/edictum/io/XpathTokens$Kind" = some m.cls := findClass_of_methodNamed Bd.named
  have hnm := (name_of_methodNamed Bd.named Bd.method).1
  have X0 : Stand p l e ({ frames := 0, cells := 0, slots := 0, locals := 0 } : Room) s m #[(.ref w7)] below meth c s₁ [] 0 0 := Stand.of_body Bd
  have e0 : s₁.heap = h0 := by rw [← hh, Bd.state]; rfl
  have N0 := Fr.nil n0
  have pre0 : ∀ t, SF p e below s₁ (mkF m 0 #[rv w7] []) t → SF p e below s₁ (entryFrame m #[(.ref w7)] 1) t := fun t k => castTop (ef_2 m w7) k
  obtain ⟨T1, X1, e1, st1⟩ := getS2 X0 hx hZ hown (host := "") (Or.inl (tw hw 36 rfl)) Via.refl e0 (S0.ext P2.2) (g := (mkF m 1 #[rv w7] [(.ref w7)])) rfl (hb hby d3_1)
  obtain ⟨T2, X2, e2, st2⟩ := getS2 X1 hx hZ hown (host := "") (Or.inl (tw hw 39 rfl)) Via.refl e1 (S24.ext P2.2) (g := (mkF m 8 #[rv w7] [(.ref w7)])) rfl (hb hby d3_8)
  obtain ⟨T3, X3, e3, st3⟩ := getS2 X2 hx hZ hown (host := "") (Or.inl (tw hw 41 rfl)) Via.refl e2 (S26.ext P2.2) (g := (mkF m 15 #[rv w7] [(.ref w7)])) rfl (hb hby d3_15)
  obtain ⟨T4, X4, e4, st4⟩ := getS2 X3 hx hZ hown (host := "") (Or.inl (tw hw 43 rfl)) Via.refl e3 (S22.ext P2.2) (g := (mkF m 22 #[rv w7] [(.ref w7)])) rfl (hb hby d3_22)
  obtain ⟨T5, X5, e5, st5⟩ := getS2 X4 hx hZ hown (host := "") (Or.inl (tw hw 48 rfl)) Via.refl e4 (S30.ext P2.2) (g := (mkF m 29 #[rv w7] [(.ref w7)])) rfl (hb hby d3_29)
  obtain ⟨T6, X6, e6, st6⟩ := getS2 X5 hx hZ hown (host := "") (Or.inl (tw hw 50 rfl)) Via.refl e5 (S28.ext P2.2) (g := (mkF m 36 #[rv w7] [(.ref w7)])) rfl (hb hby d3_36)
  obtain ⟨T7, X7, e7, st7⟩ := getS2 X6 hx hZ hown (host := "") (Or.inl (tw hw 51 rfl)) Via.refl e6 (S32.ext P2.2) (g := (mkF m 43 #[rv w7] [(.ref w7)])) rfl (hb hby d3_43)
  obtain ⟨T8, X8, e8, st8⟩ := getS2 X7 hx hZ hown (host := "") (Or.inl (tw hw 53 rfl)) Via.refl e7 (S34.ext P2.2) (g := (mkF m 50 #[rv w7] [(.ref w7)])) rfl (hb hby d3_50)
  obtain ⟨fs, hr, hrun, hended, hW, hsame⟩ := X8.leave (v := some (.int 0)) (fun h => by rw [Bd.returns] at h; cases h)
  refine ⟨_, _, pre0 _ ?_, hrun, hended, _, _, rfl, ?_, ⟨_, rfl⟩, hW, hsame.mono (by decide) (by decide)⟩
  · show SF p e below s₁ (mkF m 0 #[rv w7] []) _
    refine XS.aloadN X0.here hx rfl (hb hby d3_0) rfl rfl ?_
    show SF p e below s₁ (mkF m 1 #[rv w7] [(.ref w7)]) _
    refine st1 _ ?_
    show SF p e below T1 (mkF m 4 #[rv w7] [(.ref w1), (.ref w7)]) _
    refine Jvm.RoadKit.acmp (g := (mkF m 4 #[rv w7] [(.ref w1), (.ref w7)])) X1 hx rfl rfl rfl (pc0 := 4) (pc' := 7) (same := false) rfl (hb hby d3_4) rfl (decide_eq_false fun q => (Fld.ne F_w7_ordinal F_w1_ordinal (by decide)) (Value.ref.inj q)) (by decide) (by decide) ?_
    show SF p e below T1 (mkF m 7 #[rv w7] []) _
    refine XS.aloadN X1.here hx rfl (hb hby d3_7) rfl rfl ?_
    show SF p e below T1 (mkF m 8 #[rv w7] [(.ref w7)]) _
    refine st2 _ ?_
    show SF p e below T2 (mkF m 11 #[rv w7] [(.ref w13), (.ref w7)]) _
    refine Jvm.RoadKit.acmp (g := (mkF m 11 #[rv w7] [(.ref w13), (.ref w7)])) X2 hx rfl rfl rfl (pc0 := 11) (pc' := 14) (same := false) rfl (hb hby d3_11) rfl (decide_eq_false fun q => (Fld.ne F_w7_ordinal F_w13_ordinal (by decide)) (Value.ref.inj q)) (by decide) (by decide) ?_
    show SF p e below T2 (mkF m 14 #[rv w7] []) _
    refine XS.aloadN X2.here hx rfl (hb hby d3_14) rfl rfl ?_
    show SF p e below T2 (mkF m 15 #[rv w7] [(.ref w7)]) _
    refine st3 _ ?_
    show SF p e below T3 (mkF m 18 #[rv w7] [(.ref w14), (.ref w7)]) _
    refine Jvm.RoadKit.acmp (g := (mkF m 18 #[rv w7] [(.ref w14), (.ref w7)])) X3 hx rfl rfl rfl (pc0 := 18) (pc' := 21) (same := false) rfl (hb hby d3_18) rfl (decide_eq_false fun q => (Fld.ne F_w7_ordinal F_w14_ordinal (by decide)) (Value.ref.inj q)) (by decide) (by decide) ?_
    show SF p e below T3 (mkF m 21 #[rv w7] []) _
    refine XS.aloadN X3.here hx rfl (hb hby d3_21) rfl rfl ?_
    show SF p e below T3 (mkF m 22 #[rv w7] [(.ref w7)]) _
    refine st4 _ ?_
    show SF p e below T4 (mkF m 25 #[rv w7] [(.ref w12), (.ref w7)]) _
    refine Jvm.RoadKit.acmp (g := (mkF m 25 #[rv w7] [(.ref w12), (.ref w7)])) X4 hx rfl rfl rfl (pc0 := 25) (pc' := 28) (same := false) rfl (hb hby d3_25) rfl (decide_eq_false fun q => (Fld.ne F_w7_ordinal F_w12_ordinal (by decide)) (Value.ref.inj q)) (by decide) (by decide) ?_
    show SF p e below T4 (mkF m 28 #[rv w7] []) _
    refine XS.aloadN X4.here hx rfl (hb hby d3_28) rfl rfl ?_
    show SF p e below T4 (mkF m 29 #[rv w7] [(.ref w7)]) _
    refine st5 _ ?_
    show SF p e below T5 (mkF m 32 #[rv w7] [(.ref w16), (.ref w7)]) _
    refine Jvm.RoadKit.acmp (g := (mkF m 32 #[rv w7] [(.ref w16), (.ref w7)])) X5 hx rfl rfl rfl (pc0 := 32) (pc' := 35) (same := false) rfl (hb hby d3_32) rfl (decide_eq_false fun q => (Fld.ne F_w7_ordinal F_w16_ordinal (by decide)) (Value.ref.inj q)) (by decide) (by decide) ?_
    show SF p e below T5 (mkF m 35 #[rv w7] []) _
    refine XS.aloadN X5.here hx rfl (hb hby d3_35) rfl rfl ?_
    show SF p e below T5 (mkF m 36 #[rv w7] [(.ref w7)]) _
    refine st6 _ ?_
    show SF p e below T6 (mkF m 39 #[rv w7] [(.ref w15), (.ref w7)]) _
    refine Jvm.RoadKit.acmp (g := (mkF m 39 #[rv w7] [(.ref w15), (.ref w7)])) X6 hx rfl rfl rfl (pc0 := 39) (pc' := 42) (same := false) rfl (hb hby d3_39) rfl (decide_eq_false fun q => (Fld.ne F_w7_ordinal F_w15_ordinal (by decide)) (Value.ref.inj q)) (by decide) (by decide) ?_
    show SF p e below T6 (mkF m 42 #[rv w7] []) _
    refine XS.aloadN X6.here hx rfl (hb hby d3_42) rfl rfl ?_
    show SF p e below T6 (mkF m 43 #[rv w7] [(.ref w7)]) _
    refine st7 _ ?_
    show SF p e below T7 (mkF m 46 #[rv w7] [(.ref w17), (.ref w7)]) _
    refine Jvm.RoadKit.acmp (g := (mkF m 46 #[rv w7] [(.ref w17), (.ref w7)])) X7 hx rfl rfl rfl (pc0 := 46) (pc' := 49) (same := false) rfl (hb hby d3_46) rfl (decide_eq_false fun q => (Fld.ne F_w7_ordinal F_w17_ordinal (by decide)) (Value.ref.inj q)) (by decide) (by decide) ?_
    show SF p e below T7 (mkF m 49 #[rv w7] []) _
    refine XS.aloadN X7.here hx rfl (hb hby d3_49) rfl rfl ?_
    show SF p e below T7 (mkF m 50 #[rv w7] [(.ref w7)]) _
    refine st8 _ ?_
    show SF p e below T8 (mkF m 53 #[rv w7] [(.ref w18), (.ref w7)]) _
    refine Jvm.RoadKit.acmp (g := (mkF m 53 #[rv w7] [(.ref w18), (.ref w7)])) X8 hx rfl rfl rfl (pc0 := 53) (pc' := 60) (same := false) rfl (hb hby d3_53) rfl (decide_eq_false fun q => (Fld.ne F_w7_ordinal F_w18_ordinal (by decide)) (Value.ref.inj q)) (by decide) (by decide) ?_
    show SF p e below T8 (mkF m 60 #[rv w7] []) _
    refine XS.iconst X8.here hx rfl (hb hby d3_60) ?_
    show SF p e below T8 (mkF m 61 #[rv w7] [(.int 0)]) _
    exact retN X8 hx (t := .boolean) Bd.returns (by simp) (hb hby d3_61) hr
  · show Q3_42 Z w7 w1 w13 w14 w12 w16 w15 w17 w18 h0 n0 _ T8.heap _
    rw [e8]
    exact ⟨rfl, N0, rfl⟩
theorem d1_133 : decode method_2_code 133 = .ok (.iload_n 0, 1) := by decide +kernel
theorem d1_134 : decode method_2_code 134 = .ok (.bipush 14, 2) := by decide +kernel
theorem d1_136 : decode method_2_code 136 = .ok (.if_icmp .ne 7, 3) := by decide +kernel
theorem d1_139 : decode method_2_code 139 = .ok (.getstatic 52, 3) := by decide +kernel
theorem d1_142 : decode method_2_code 142 = .ok (.areturn, 1) := by decide +kernel
-- XpathTokensNamesNextPinLaw.kindOf 
def Q1_43 (Z : State) (w8 : Addr) (h0 : Heap) (n0 : Nat) (v : Option Value) (h : Heap) (L : List Loc) : Prop := v = some (.ref w8) ∧ Fr n0 L ∧ h = h0
set_option maxRecDepth 65536 in
set_option maxHeartbeats 40000000 in
theorem rm1_43 (l : Launch) (Z : State) (a0 : Array Value) (hw : HW Z a0) (ws : List Jvm.Cond) (w8 : Addr) (h0 : Heap) (n0 : Nat) (Z0 : n0 ≤ h0.size) (S14 : Sta Z Z.heap "com/example/edictum/edictum/io/XpathTokens$Kind" "DOT" "Lcom/example/edictum/edictum/io/XpathTokens$Kind;" (.ref w8)) (P2 : Old Z n0 h0) :
    MF l Z (⟨"com/example/edictum/edictum/io/XpathTokensNamesNextPinLaw", "kindOf", "(I)Lcom/example/edictum/edictum/io/XpathTokens$Kind;"⟩ : MethodName) (Jvm.Cond.code (⟨"com/example/edictum/edictum/io/XpathTokensNamesNextPinLaw", "kindOf", "(I)Lcom/example/edictum/edictum/io/XpathTokens$Kind;"⟩ : MethodName) method_2_code 1 (some (.object "com/example/edictum/edictum/io/XpathTokens$Kind"))) ws ({ frames := 0, cells := 0, slots := 0, locals := 0 } : Room) #[(.int 14)] h0 (Q1_43 Z w8 h0 n0) := by
  refine MetFree.of_bodySF (plainFor_of_name pn_0) hisR ?_
  intro p e s m args below meth c s₁ Bd hml0 hP hK
  obtain ⟨rfl, hZ, hh⟩ := hP
  have hx := Bd.exec
  have hby := Bd.bytes
  have hml : c.maxLocals = 1 := hml0
  have hown : s.vm.findClass "com/example/edictum/edictum/io/XpathTokensNamesNextPinLaw" = some m.cls := findClass_of_methodNamed Bd.named
  have hnm := (name_of_methodNamed Bd.named Bd.method).1
  have X0 : Stand p l e ({ frames := 0, cells := 0, slots := 0, locals := 0 } : Room) s m #[(.int 14)] below meth c s₁ [] 0 0 := Stand.of_body Bd
  have e0 : s₁.heap = h0 := by rw [← hh, Bd.state]; rfl
  have N0 := Fr.nil n0
  have pre0 : ∀ t, SF p e below s₁ (mkF m 0 #[iv 14] []) t → SF p e below s₁ (entryFrame m #[(.int 14)] 1) t := fun t k => castTop (ef_0 m (14 : Int32)) k
  obtain ⟨T1, X1, e1, st1⟩ := getS2 X0 hx hZ hown (host := "") (Or.inl (tw hw 23 rfl)) Via.refl e0 (S14.ext P2.2) (g := (mkF m 139 #[iv 14] [])) rfl (hb hby d1_139)
  obtain ⟨fs, hr, hrun, hended, hW, hsame⟩ := X1.leave (v := some (.ref w8)) (fun h => by rw [Bd.returns] at h; cases h)
  refine ⟨_, _, pre0 _ ?_, hrun, hended, _, _, rfl, ?_, ⟨_, rfl⟩, hW, hsame.mono (by decide) (by decide)⟩
  · show SF p e below s₁ (mkF m 0 #[iv 14] []) _
    refine XS.iloadN X0.here hx rfl (hb hby d1_0) rfl ?_
    show SF p e below s₁ (mkF m 1 #[iv 14] [(.int 14)]) _
    refine XS.ifYes X0.here hx rfl (pc0 := 1) (pc' := 8) rfl (hb hby d1_1) rfl ((if0 _ _).trans (feq (by decide : ¬ ((14 : Int32) = (0 : Int32)))).2) (by decide) (by decide) ?_
    show SF p e below s₁ (mkF m 8 #[iv 14] []) _
    refine XS.iloadN X0.here hx rfl (hb hby d1_8) rfl ?_
    show SF p e below s₁ (mkF m 9 #[iv 14] [(.int 14)]) _
    refine XS.iconst X0.here hx rfl (hb hby d1_9) ?_
    show SF p e below s₁ (mkF m 10 #[iv 14] [(.int 1), (.int 14)]) _
    refine XS.icmpYes X0.here hx rfl (pc0 := 10) (pc' := 17) rfl (hb hby d1_10) rfl (feq (by decide : ¬ ((14 : Int32) = (1 : Int32)))).2 (by decide) (by decide) ?_
    show SF p e below s₁ (mkF m 17 #[iv 14] []) _
    refine XS.iloadN X0.here hx rfl (hb hby d1_17) rfl ?_
    show SF p e below s₁ (mkF m 18 #[iv 14] [(.int 14)]) _
    refine XS.iconst X0.here hx rfl (hb hby d1_18) ?_
    show SF p e below s₁ (mkF m 19 #[iv 14] [(.int 2), (.int 14)]) _
    refine XS.icmpYes X0.here hx rfl (pc0 := 19) (pc' := 26) rfl (hb hby d1_19) rfl (feq (by decide : ¬ ((14 : Int32) = (2 : Int32)))).2 (by decide) (by decide) ?_
    show SF p e below s₁ (mkF m 26 #[iv 14] []) _
    refine XS.iloadN X0.here hx rfl (hb hby d1_26) rfl ?_
    show SF p e below s₁ (mkF m 27 #[iv 14] [(.int 14)]) _
    refine XS.iconst X0.here hx rfl (hb hby d1_27) ?_
    show SF p e below s₁ (mkF m 28 #[iv 14] [(.int 3), (.int 14)]) _
    refine XS.icmpYes X0.here hx rfl (pc0 := 28) (pc' := 35) rfl (hb hby d1_28) rfl (feq (by decide : ¬ ((14 : Int32) = (3 : Int32)))).2 (by decide) (by decide) ?_
    show SF p e below s₁ (mkF m 35 #[iv 14] []) _
    refine XS.iloadN X0.here hx rfl (hb hby d1_35) rfl ?_
    show SF p e below s₁ (mkF m 36 #[iv 14] [(.int 14)]) _
    refine XS.iconst X0.here hx rfl (hb hby d1_36) ?_
    show SF p e below s₁ (mkF m 37 #[iv 14] [(.int 4), (.int 14)]) _
    refine XS.icmpYes X0.here hx rfl (pc0 := 37) (pc' := 44) rfl (hb hby d1_37) rfl (feq (by decide : ¬ ((14 : Int32) = (4 : Int32)))).2 (by decide) (by decide) ?_
    show SF p e below s₁ (mkF m 44 #[iv 14] []) _
    refine XS.iloadN X0.here hx rfl (hb hby d1_44) rfl ?_
    show SF p e below s₁ (mkF m 45 #[iv 14] [(.int 14)]) _
    refine XS.iconst X0.here hx rfl (hb hby d1_45) ?_
    show SF p e below s₁ (mkF m 46 #[iv 14] [(.int 5), (.int 14)]) _
    refine XS.icmpYes X0.here hx rfl (pc0 := 46) (pc' := 53) rfl (hb hby d1_46) rfl (feq (by decide : ¬ ((14 : Int32) = (5 : Int32)))).2 (by decide) (by decide) ?_
    show SF p e below s₁ (mkF m 53 #[iv 14] []) _
    refine XS.iloadN X0.here hx rfl (hb hby d1_53) rfl ?_
    show SF p e below s₁ (mkF m 54 #[iv 14] [(.int 14)]) _
    refine XS.bipush X0.here hx rfl (hb hby d1_54) ?_
    show SF p e below s₁ (mkF m 56 #[iv 14] [(.int 6), (.int 14)]) _
    refine XS.icmpYes X0.here hx rfl (pc0 := 56) (pc' := 63) rfl (hb hby d1_56) rfl (feq (by decide : ¬ ((14 : Int32) = (6 : Int32)))).2 (by decide) (by decide) ?_
    show SF p e below s₁ (mkF m 63 #[iv 14] []) _
    refine XS.iloadN X0.here hx rfl (hb hby d1_63) rfl ?_
    show SF p e below s₁ (mkF m 64 #[iv 14] [(.int 14)]) _
    refine XS.bipush X0.here hx rfl (hb hby d1_64) ?_
    show SF p e below s₁ (mkF m 66 #[iv 14] [(.int 7), (.int 14)]) _
    refine XS.icmpYes X0.here hx rfl (pc0 := 66) (pc' := 73) rfl (hb hby d1_66) rfl (feq (by decide : ¬ ((14 : Int32) = (7 : Int32)))).2 (by decide) (by decide) ?_
    show SF p e below s₁ (mkF m 73 #[iv 14] []) _
    refine XS.iloadN X0.here hx rfl (hb hby d1_73) rfl ?_
    show SF p e below s₁ (mkF m 74 #[iv 14] [(.int 14)]) _
    refine XS.bipush X0.here hx rfl (hb hby d1_74) ?_
    show SF p e below s₁ (mkF m 76 #[iv 14] [(.int 8), (.int 14)]) _
    refine XS.icmpYes X0.here hx rfl (pc0 := 76) (pc' := 83) rfl (hb hby d1_76) rfl (feq (by decide : ¬ ((14 : Int32) = (8 : Int32)))).2 (by decide) (by decide) ?_
    show SF p e below s₁ (mkF m 83 #[iv 14] []) _
    refine XS.iloadN X0.here hx rfl (hb hby d1_83) rfl ?_
    show SF p e below s₁ (mkF m 84 #[iv 14] [(.int 14)]) _
    refine XS.bipush X0.here hx rfl (hb hby d1_84) ?_
    show SF p e below s₁ (mkF m 86 #[iv 14] [(.int 9), (.int 14)]) _
    refine XS.icmpYes X0.here hx rfl (pc0 := 86) (pc' := 93) rfl (hb hby d1_86) rfl (feq (by decide : ¬ ((14 : Int32) = (9 : Int32)))).2 (by decide) (by decide) ?_
    show SF p e below s₁ (mkF m 93 #[iv 14] []) _
    refine XS.iloadN X0.here hx rfl (hb hby d1_93) rfl ?_
    show SF p e below s₁ (mkF m 94 #[iv 14] [(.int 14)]) _
    refine XS.bipush X0.here hx rfl (hb hby d1_94) ?_
    show SF p e below s₁ (mkF m 96 #[iv 14] [(.int 10), (.int 14)]) _
    refine XS.icmpYes X0.here hx rfl (pc0 := 96) (pc' := 103) rfl (hb hby d1_96) rfl (feq (by decide : ¬ ((14 : Int32) = (10 : Int32)))).2 (by decide) (by decide) ?_
    show SF p e below s₁ (mkF m 103 #[iv 14] []) _
    refine XS.iloadN X0.here hx rfl (hb hby d1_103) rfl ?_
    show SF p e below s₁ (mkF m 104 #[iv 14] [(.int 14)]) _
    refine XS.bipush X0.here hx rfl (hb hby d1_104) ?_
    show SF p e below s₁ (mkF m 106 #[iv 14] [(.int 11), (.int 14)]) _
    refine XS.icmpYes X0.here hx rfl (pc0 := 106) (pc' := 113) rfl (hb hby d1_106) rfl (feq (by decide : ¬ ((14 : Int32) = (11 : Int32)))).2 (by decide) (by decide) ?_
    show SF p e below s₁ (mkF m 113 #[iv 14] []) _
    refine XS.iloadN X0.here hx rfl (hb hby d1_113) rfl ?_
    show SF p e below s₁ (mkF m 114 #[iv 14] [(.int 14)]) _
    refine XS.bipush X0.here hx rfl (hb hby d1_114) ?_
    show SF p e below s₁ (mkF m 116 #[iv 14] [(.int 12), (.int 14)]) _
    refine XS.icmpYes X0.here hx rfl (pc0 := 116) (pc' := 123) rfl (hb hby d1_116) rfl (feq (by decide : ¬ ((14 : Int32) = (12 : Int32)))).2 (by decide) (by decide) ?_
    show SF p e below s₁ (mkF m 123 #[iv 14] []) _
    refine XS.iloadN X0.here hx rfl (hb hby d1_123) rfl ?_
    show SF p e below s₁ (mkF m 124 #[iv 14] [(.int 14)]) _
    refine XS.bipush X0.here hx rfl (hb hby d1_124) ?_
    show SF p e below s₁ (mkF m 126 #[iv 14] [(.int 13), (.int 14)]) _
    refine XS.icmpYes X0.here hx rfl (pc0 := 126) (pc' := 133) rfl (hb hby d1_126) rfl (feq (by decide : ¬ ((14 : Int32) = (13 : Int32)))).2 (by decide) (by decide) ?_
    show SF p e below s₁ (mkF m 133 #[iv 14] []) _
    refine XS.iloadN X0.here hx rfl (hb hby d1_133) rfl ?_
    show SF p e below s₁ (mkF m 134 #[iv 14] [(.int 14)]) _
    refine XS.bipush X0.here hx rfl (hb hby d1_134) ?_
    show SF p e below s₁ (mkF m 136 #[iv 14] [(.int 14), (.int 14)]) _
    refine XS.icmpNo X0.here hx rfl (hb hby d1_136) rfl (teq (by decide : (14 : Int32) = (14 : Int32))).2 ?_
    show SF p e below s₁ (mkF m 139 #[iv 14] []) _
    refine st1 _ ?_
    show SF p e below T1 (mkF m 142 #[iv 14] [(.ref w8)]) _
    exact own_retR X1 hx Bd.returns rfl rfl (hb hby d1_142) hr
  · show Q1_43 Z w8 h0 n0 _ T1.heap _
    rw [e1]
    exact ⟨rfl, N0, rfl⟩
-- XpathTokensNamesNextPinLaw.endsOperand 
def Q2_44 (Z : State) (w8 : Addr) (w2 : Addr) (w3 : Addr) (w4 : Addr) (w5 : Addr) (w6 : Addr) (w7 : Addr) (h0 : Heap) (n0 : Nat) (v : Option Value) (h : Heap) (L : List Loc) : Prop := v = some (.int 1) ∧ Fr n0 L ∧ h = h0
set_option maxRecDepth 65536 in
set_option maxHeartbeats 40000000 in
theorem rm2_44 (l : Launch) (Z : State) (a0 : Array Value) (hw : HW Z a0) (ws : List Jvm.Cond) (w8 : Addr) (w2 : Addr) (w3 : Addr) (w4 : Addr) (w5 : Addr) (w6 : Addr) (w7 : Addr) (h0 : Heap) (n0 : Nat) (Z0 : n0 ≤ h0.size) (S2 : Sta Z Z.heap "com/example/edictum/edictum/io/XpathTokens$Kind" "RIGHT_PAREN" "Lcom/example/edictum/edictum/io/XpathTokens$Kind;" (.ref w2)) (P2 : Old Z n0 h0) (F_w8_ordinal : Fld Z Z.heap w8 "java/lang/Enum" "ordinal" "I" (.int 14)) (F_w2_ordinal : Fld Z Z.heap w2 "java/lang/Enum" "ordinal" "I" (.int 5)) (S4 : Sta Z Z.heap "com/example/edictum/edictum/io/XpathTokens$Kind" "RIGHT_BRACKET" "Lcom/example/edictum/edictum/io/XpathTokens$Kind;" (.ref w3)) (F_w3_ordinal : Fld Z Z.heap w3 "java/lang/Enum" "ordinal" "I" (.int 6)) (S6 : Sta Z Z.heap "com/example/edictum/edictum/io/XpathTokens$Kind" "AXIS" "Lcom/example/edictum/edictum/io/XpathTokens$Kind;" (.ref w4)) (F_w4_ordinal : Fld Z Z.heap w4 "java/lang/Enum" "ordinal" "I" (.int 10)) (S8 : Sta Z Z.heap "com/example/edictum/edictum/io/XpathTokens$Kind" "FUNCTION" "Lcom/example/edictum/edictum/io/XpathTokens$Kind;" (.ref w5)) (F_w5_ordinal : Fld Z Z.heap w5 "java/lang/Enum" "ordinal" "I" (.int 11)) (S10 : Sta Z Z.heap "com/example/edictum/edictum/io/XpathTokens$Kind" "NODE_TYPE" "Lcom/example/edictum/edictum/io/XpathTokens$Kind;" (.ref w6)) (F_w6_ordinal : Fld Z Z.heap w6 "java/lang/Enum" "ordinal" "I" (.int 12)) (S12 : Sta Z Z.heap "com/example/edictum/edictum/io/XpathTokens$Kind" "NAME_TEST" "Lcom/example/edictum/edictum/io/XpathTokens$Kind;" (.ref w7)) (F_w7_ordinal : Fld Z Z.heap w7 "java/lang/Enum" "ordinal" "I" (.int 13)) (S14 : Sta Z Z.heap "com/example/edictum/edictum/io/XpathTokens$Kind" "DOT" "Lcom/example/edictum/edictum/io/XpathTokens$Kind;" (.ref w8)) :
    MF l Z (⟨"com/example/edictum/edictum/io/XpathTokensNamesNextPinLaw", "endsOperand", "(Lcom/example/edictum/edictum/io/XpathTokens$Kind;)Z"⟩ : MethodName) (Jvm.Cond.code (⟨"com/example/edictum/edictum/io/XpathTokensNamesNextPinLaw", "endsOperand", "(Lcom/example/edictum/edictum/io/XpathTokens$Kind;)Z"⟩ : MethodName) method_3_code 1 (some .boolean)) ws ({ frames := 0, cells := 0, slots := 0, locals := 0 } : Room) #[(.ref w8)] h0 (Q2_44 Z w8 w2 w3 w4 w5 w6 w7 h0 n0) := by
  refine MetFree.of_bodySF (plainFor_of_name pn_0) hisR ?_
  intro p e s m args below meth c s₁ Bd hml0 hP hK
  obtain ⟨rfl, hZ, hh⟩ := hP
  have hx := Bd.exec
  have hby := Bd.bytes
  have hml : c.maxLocals = 1 := hml0
  have hown : s.vm.findClass "com/example/edictum/edictum/io/XpathTokensNamesNextPinLaw" = some m.cls := findClass_of_methodNamed Bd.named
  have hnm := (name_of_methodNamed Bd.named Bd.method).1
  have X0 : Stand p l e ({ frames := 0, cells := 0, slots := 0, locals := 0 } : Room) s m #[(.ref w8)] below meth c s₁ [] 0 0 := Stand.of_body Bd
  have e0 : s₁.heap = h0 := by rw [← hh, Bd.state]; rfl
  have N0 := Fr.nil n0
  have pre0 : ∀ t, SF p e below s₁ (mkF m 0 #[rv w8] []) t → SF p e below s₁ (entryFrame m #[(.ref w8)] 1) t := fun t k => castTop (ef_1 m w8) k
  obtain ⟨T1, X1, e1, st1⟩ := getS2 X0 hx hZ hown (host := "") (Or.inl (tw hw 11 rfl)) Via.refl e0 (S2.ext P2.2) (g := (mkF m 1 #[rv w8] [(.ref w8)])) rfl (hb hby d2_1)
  obtain ⟨T2, X2, e2, st2⟩ := getS2 X1 hx hZ hown (host := "") (Or.inl (tw hw 13 rfl)) Via.refl e1 (S4.ext P2.2) (g := (mkF m 8 #[rv w8] [(.ref w8)])) rfl (hb hby d2_8)
  obtain ⟨T3, X3, e3, st3⟩ := getS2 X2 hx hZ hown (host := "") (Or.inl (tw hw 15 rfl)) Via.refl e2 (S6.ext P2.2) (g := (mkF m 15 #[rv w8] [(.ref w8)])) rfl (hb hby d2_15)
  obtain ⟨T4, X4, e4, st4⟩ := getS2 X3 hx hZ hown (host := "") (Or.inl (tw hw 17 rfl)) Via.refl e3 (S8.ext P2.2) (g := (mkF m 22 #[rv w8] [(.ref w8)])) rfl (hb hby d2_22)
  obtain ⟨T5, X5, e5, st5⟩ := getS2 X4 hx hZ hown (host := "") (Or.inl (tw hw 19 rfl)) Via.refl e4 (S10.ext P2.2) (g := (mkF m 29 #[rv w8] [(.ref w8)])) rfl (hb hby d2_29)
  obtain ⟨T6, X6, e6, st6⟩ := getS2 X5 hx hZ hown (host := "") (Or.inl (tw hw 21 rfl)) Via.refl e5 (S12.ext P2.2) (g := (mkF m 36 #[rv w8] [(.ref w8)])) rfl (hb hby d2_36)
  obtain ⟨T7, X7, e7, st7⟩ := getS2 X6 hx hZ hown (host := "") (Or.inl (tw hw 23 rfl)) Via.refl e6 (S14.ext P2.2) (g := (mkF m 43 #[rv w8] [(.ref w8)])) rfl (hb hby d2_43)
  obtain ⟨fs, hr, hrun, hended, hW, hsame⟩ := X7.leave (v := some (.int 1)) (fun h => by rw [Bd.returns] at h; cases h)
  refine ⟨_, _, pre0 _ ?_, hrun, hended, _, _, rfl, ?_, ⟨_, rfl⟩, hW, hsame.mono (by decide) (by decide)⟩
  · show SF p e below s₁ (mkF m 0 #[rv w8] []) _
    refine XS.aloadN X0.here hx rfl (hb hby d2_0) rfl rfl ?_
    show SF p e below s₁ (mkF m 1 #[rv w8] [(.ref w8)]) _
    refine st1 _ ?_
    show SF p e below T1 (mkF m 4 #[rv w8] [(.ref w2), (.ref w8)]) _
    refine Jvm.RoadKit.acmp (g := (mkF m 4 #[rv w8] [(.ref w2), (.ref w8)])) X1 hx rfl rfl rfl (pc0 := 4) (pc' := 7) (same := false) rfl (hb hby d2_4) rfl (decide_eq_false fun q => (Fld.ne F_w8_ordinal F_w2_ordinal (by decide)) (Value.ref.inj q)) (by decide) (by decide) ?_
    show SF p e below T1 (mkF m 7 #[rv w8] []) _
    refine XS.aloadN X1.here hx rfl (hb hby d2_7) rfl rfl ?_
    show SF p e below T1 (mkF m 8 #[rv w8] [(.ref w8)]) _
    refine st2 _ ?_
    show SF p e below T2 (mkF m 11 #[rv w8] [(.ref w3), (.ref w8)]) _
    refine Jvm.RoadKit.acmp (g := (mkF m 11 #[rv w8] [(.ref w3), (.ref w8)])) X2 hx rfl rfl rfl (pc0 := 11) (pc' := 14) (same := false) rfl (hb hby d2_11) rfl (decide_eq_false fun q => (Fld.ne F_w8_ordinal F_w3_ordinal (by decide)) (Value.ref.inj q)) (by decide) (by decide) ?_
    show SF p e below T2 (mkF m 14 #[rv w8] []) _
    refine XS.aloadN X2.here hx rfl (hb hby d2_14) rfl rfl ?_
    show SF p e below T2 (mkF m 15 #[rv w8] [(.ref w8)]) _
    refine st3 _ ?_
    show SF p e below T3 (mkF m 18 #[rv w8] [(.ref w4), (.ref w8)]) _
    refine Jvm.RoadKit.acmp (g := (mkF m 18 #[rv w8] [(.ref w4), (.ref w8)])) X3 hx rfl rfl rfl (pc0 := 18) (pc' := 21) (same := false) rfl (hb hby d2_18) rfl (decide_eq_false fun q => (Fld.ne F_w8_ordinal F_w4_ordinal (by decide)) (Value.ref.inj q)) (by decide) (by decide) ?_
    show SF p e below T3 (mkF m 21 #[rv w8] []) _
    refine XS.aloadN X3.here hx rfl (hb hby d2_21) rfl rfl ?_
    show SF p e below T3 (mkF m 22 #[rv w8] [(.ref w8)]) _
    refine st4 _ ?_
    show SF p e below T4 (mkF m 25 #[rv w8] [(.ref w5), (.ref w8)]) _
    refine Jvm.RoadKit.acmp (g := (mkF m 25 #[rv w8] [(.ref w5), (.ref w8)])) X4 hx rfl rfl rfl (pc0 := 25) (pc' := 28) (same := false) rfl (hb hby d2_25) rfl (decide_eq_false fun q => (Fld.ne F_w8_ordinal F_w5_ordinal (by decide)) (Value.ref.inj q)) (by decide) (by decide) ?_
    show SF p e below T4 (mkF m 28 #[rv w8] []) _
    refine XS.aloadN X4.here hx rfl (hb hby d2_28) rfl rfl ?_
    show SF p e below T4 (mkF m 29 #[rv w8] [(.ref w8)]) _
    refine st5 _ ?_
    show SF p e below T5 (mkF m 32 #[rv w8] [(.ref w6), (.ref w8)]) _
    refine Jvm.RoadKit.acmp (g := (mkF m 32 #[rv w8] [(.ref w6), (.ref w8)])) X5 hx rfl rfl rfl (pc0 := 32) (pc' := 35) (same := false) rfl (hb hby d2_32) rfl (decide_eq_false fun q => (Fld.ne F_w8_ordinal F_w6_ordinal (by decide)) (Value.ref.inj q)) (by decide) (by decide) ?_
    show SF p e below T5 (mkF m 35 #[rv w8] []) _
    refine XS.aloadN X5.here hx rfl (hb hby d2_35) rfl rfl ?_
    show SF p e below T5 (mkF m 36 #[rv w8] [(.ref w8)]) _
    refine st6 _ ?_
    show SF p e below T6 (mkF m 39 #[rv w8] [(.ref w7), (.ref w8)]) _
    refine Jvm.RoadKit.acmp (g := (mkF m 39 #[rv w8] [(.ref w7), (.ref w8)])) X6 hx rfl rfl rfl (pc0 := 39) (pc' := 42) (same := false) rfl (hb hby d2_39) rfl (decide_eq_false fun q => (Fld.ne F_w8_ordinal F_w7_ordinal (by decide)) (Value.ref.inj q)) (by decide) (by decide) ?_
    show SF p e below T6 (mkF m 42 #[rv w8] []) _
    refine XS.aloadN X6.here hx rfl (hb hby d2_42) rfl rfl ?_
    show SF p e below T6 (mkF m 43 #[rv w8] [(.ref w8)]) _
    refine st7 _ ?_
    show SF p e below T7 (mkF m 46 #[rv w8] [(.ref w8), (.ref w8)]) _
    refine Jvm.RoadKit.acmp (g := (mkF m 46 #[rv w8] [(.ref w8), (.ref w8)])) X7 hx rfl rfl rfl (pc0 := 46) (pc' := 70) (same := true) rfl (hb hby d2_46) rfl (decide_eq_true rfl) (by decide) (by decide) ?_
    show SF p e below T7 (mkF m 70 #[rv w8] []) _
    refine XS.iconst X7.here hx rfl (hb hby d2_70) ?_
    show SF p e below T7 (mkF m 71 #[rv w8] [(.int 1)]) _
    refine XS.goto X7.here hx rfl (pc0 := 71) (pc' := 75) rfl (hb hby d2_71) (by decide) (by decide) ?_
    show SF p e below T7 (mkF m 75 #[rv w8] [(.int 1)]) _
    exact retN X7 hx (t := .boolean) Bd.returns (by simp) (hb hby d2_75) hr
  · show Q2_44 Z w8 w2 w3 w4 w5 w6 w7 h0 n0 _ T7.heap _
    rw [e7]
    exact ⟨rfl, N0, rfl⟩
-- XpathTokens$Kind.namesNext 
def Q3_45 (Z : State) (w8 : Addr) (w1 : Addr) (w13 : Addr) (w14 : Addr) (w12 : Addr) (w16 : Addr) (w15 : Addr) (w17 : Addr) (w18 : Addr) (h0 : Heap) (n0 : Nat) (v : Option Value) (h : Heap) (L : List Loc) : Prop := v = some (.int 0) ∧ Fr n0 L ∧ h = h0
set_option maxRecDepth 65536 in
set_option maxHeartbeats 40000000 in
theorem rm3_45 (l : Launch) (Z : State) (a0 : Array Value) (hw : HW Z a0) (ws : List Jvm.Cond) (w8 : Addr) (w1 : Addr) (w13 : Addr) (w14 : Addr) (w12 : Addr) (w16 : Addr) (w15 : Addr) (w17 : Addr) (w18 : Addr) (h0 : Heap) (n0 : Nat) (Z0 : n0 ≤ h0.size) (S0 : Sta Z Z.heap "com/example/edictum/edictum/io/XpathTokens$Kind" "AT" "Lcom/example/edictum/edictum/io/XpathTokens$Kind;" (.ref w1)) (P2 : Old Z n0 h0) (F_w8_ordinal : Fld Z Z.heap w8 "java/lang/Enum" "ordinal" "I" (.int 14)) (F_w1_ordinal : Fld Z Z.heap w1 "java/lang/Enum" "ordinal" "I" (.int 0)) (S24 : Sta Z Z.heap "com/example/edictum/edictum/io/XpathTokens$Kind" "AXIS_SEPARATOR" "Lcom/example/edictum/edictum/io/XpathTokens$Kind;" (.ref w13)) (F_w13_ordinal : Fld Z Z.heap w13 "java/lang/Enum" "ordinal" "I" (.int 1)) (S26 : Sta Z Z.heap "com/example/edictum/edictum/io/XpathTokens$Kind" "LEFT_PAREN" "Lcom/example/edictum/edictum/io/XpathTokens$Kind;" (.ref w14)) (F_w14_ordinal : Fld Z Z.heap w14 "java/lang/Enum" "ordinal" "I" (.int 2)) (S22 : Sta Z Z.heap "com/example/edictum/edictum/io/XpathTokens$Kind" "LEFT_BRACKET" "Lcom/example/edictum/edictum/io/XpathTokens$Kind;" (.ref w12)) (F_w12_ordinal : Fld Z Z.heap w12 "java/lang/Enum" "ordinal" "I" (.int 3)) (S30 : Sta Z Z.heap "com/example/edictum/edictum/io/XpathTokens$Kind" "COMMA" "Lcom/example/edictum/edictum/io/XpathTokens$Kind;" (.ref w16)) (F_w16_ordinal : Fld Z Z.heap w16 "java/lang/Enum" "ordinal" "I" (.int 4)) (S28 : Sta Z Z.heap "com/example/edictum/edictum/io/XpathTokens$Kind" "SLASH" "Lcom/example/edictum/edictum/io/XpathTokens$Kind;" (.ref w15)) (F_w15_ordinal : Fld Z Z.heap w15 "java/lang/Enum" "ordinal" "I" (.int 7)) (S32 : Sta Z Z.heap "com/example/edictum/edictum/io/XpathTokens$Kind" "DOUBLE_SLASH" "Lcom/example/edictum/edictum/io/XpathTokens$Kind;" (.ref w17)) (F_w17_ordinal : Fld Z Z.heap w17 "java/lang/Enum" "ordinal" "I" (.int 8)) (S34 : Sta Z Z.heap "com/example/edictum/edictum/io/XpathTokens$Kind" "OPERATOR" "Lcom/example/edictum/edictum/io/XpathTokens$Kind;" (.ref w18)) (F_w18_ordinal : Fld Z Z.heap w18 "java/lang/Enum" "ordinal" "I" (.int 9)) :
    MF l Z (⟨"com/example/edictum/edictum/io/XpathTokens$Kind", "namesNext", "()Z"⟩ : MethodName) (Jvm.Cond.code (⟨"com/example/edictum/edictum/io/XpathTokens$Kind", "namesNext", "()Z"⟩ : MethodName) prog_251_method_4_code 1 (some .boolean)) ws ({ frames := 0, cells := 0, slots := 0, locals := 0 } : Room) #[(.ref w8)] h0 (Q3_45 Z w8 w1 w13 w14 w12 w16 w15 w17 w18 h0 n0) := by
  refine MetFree.of_bodySF (plainFor_of_name pn_1) hisR ?_
  intro p e s m args below meth c s₁ Bd hml0 hP hK
  obtain ⟨rfl, hZ, hh⟩ := hP
  have hx := Bd.exec
  have hby := Bd.bytes
  have hml : c.maxLocals = 1 := hml0
  have hown : s.vm.findClass "com/example/edictum/edictum/io/XpathTokens$Kind" = some m.cls := findClass_of_methodNamed Bd.named
  have hnm := (name_of_methodNamed Bd.named Bd.method).1
  have X0 : Stand p l e ({ frames := 0, cells := 0, slots := 0, locals := 0 } : Room) s m #[(.ref w8)] below meth c s₁ [] 0 0 := Stand.of_body Bd
  have e0 : s₁.heap = h0 := by rw [← hh, Bd.state]; rfl
  have N0 := Fr.nil n0
  have pre0 : ∀ t, SF p e below s₁ (mkF m 0 #[rv w8] []) t → SF p e below s₁ (entryFrame m #[(.ref w8)] 1) t := fun t k => castTop (ef_2 m w8) k
  obtain ⟨T1, X1, e1, st1⟩ := getS2 X0 hx hZ hown (host := "") (Or.inl (tw hw 36 rfl)) Via.refl e0 (S0.ext P2.2) (g := (mkF m 1 #[rv w8] [(.ref w8)])) rfl (hb hby d3_1)
  obtain ⟨T2, X2, e2, st2⟩ := getS2 X1 hx hZ hown (host := "") (Or.inl (tw hw 39 rfl)) Via.refl e1 (S24.ext P2.2) (g := (mkF m 8 #[rv w8] [(.ref w8)])) rfl (hb hby d3_8)
  obtain ⟨T3, X3, e3, st3⟩ := getS2 X2 hx hZ hown (host := "") (Or.inl (tw hw 41 rfl)) Via.refl e2 (S26.ext P2.2) (g := (mkF m 15 #[rv w8] [(.ref w8)])) rfl (hb hby d3_15)
  obtain ⟨T4, X4, e4, st4⟩ := getS2 X3 hx hZ hown (host := "") (Or.inl (tw hw 43 rfl)) Via.refl e3 (S22.ext P2.2) (g := (mkF m 22 #[rv w8] [(.ref w8)])) rfl (hb hby d3_22)
  obtain ⟨T5, X5, e5, st5⟩ := getS2 X4 hx hZ hown (host := "") (Or.inl (tw hw 48 rfl)) Via.refl e4 (S30.ext P2.2) (g := (mkF m 29 #[rv w8] [(.ref w8)])) rfl (hb hby d3_29)
  obtain ⟨T6, X6, e6, st6⟩ := getS2 X5 hx hZ hown (host := "") (Or.inl (tw hw 50 rfl)) Via.refl e5 (S28.ext P2.2) (g := (mkF m 36 #[rv w8] [(.ref w8)])) rfl (hb hby d3_36)
  obtain ⟨T7, X7, e7, st7⟩ := getS2 X6 hx hZ hown (host := "") (Or.inl (tw hw 51 rfl)) Via.refl e6 (S32.ext P2.2) (g := (mkF m 43 #[rv w8] [(.ref w8)])) rfl (hb hby d3_43)
  obtain ⟨T8, X8, e8, st8⟩ := getS2 X7 hx hZ hown (host := "") (Or.inl (tw hw 53 rfl)) Via.refl e7 (S34.ext P2.2) (g := (mkF m 50 #[rv w8] [(.ref w8)])) rfl (hb hby d3_50)
  obtain ⟨fs, hr, hrun, hended, hW, hsame⟩ := X8.leave (v := some (.int 0)) (fun h => by rw [Bd.returns] at h; cases h)
  refine ⟨_, _, pre0 _ ?_, hrun, hended, _, _, rfl, ?_, ⟨_, rfl⟩, hW, hsame.mono (by decide) (by decide)⟩
  · show SF p e below s₁ (mkF m 0 #[rv w8] []) _
    refine XS.aloadN X0.here hx rfl (hb hby d3_0) rfl rfl ?_
    show SF p e below s₁ (mkF m 1 #[rv w8] [(.ref w8)]) _
    refine st1 _ ?_
    show SF p e below T1 (mkF m 4 #[rv w8] [(.ref w1), (.ref w8)]) _
    refine Jvm.RoadKit.acmp (g := (mkF m 4 #[rv w8] [(.ref w1), (.ref w8)])) X1 hx rfl rfl rfl (pc0 := 4) (pc' := 7) (same := false) rfl (hb hby d3_4) rfl (decide_eq_false fun q => (Fld.ne F_w8_ordinal F_w1_ordinal (by decide)) (Value.ref.inj q)) (by decide) (by decide) ?_
    show SF p e below T1 (mkF m 7 #[rv w8] []) _
    refine XS.aloadN X1.here hx rfl (hb hby d3_7) rfl rfl ?_
    show SF p e below T1 (mkF m 8 #[rv w8] [(.ref w8)]) _
    refine st2 _ ?_
    show SF p e below T2 (mkF m 11 #[rv w8] [(.ref w13), (.ref w8)]) _
    refine Jvm.RoadKit.acmp (g := (mkF m 11 #[rv w8] [(.ref w13), (.ref w8)])) X2 hx rfl rfl rfl (pc0 := 11) (pc' := 14) (same := false) rfl (hb hby d3_11) rfl (decide_eq_false fun q => (Fld.ne F_w8_ordinal F_w13_ordinal (by decide)) (Value.ref.inj q)) (by decide) (by decide) ?_
    show SF p e below T2 (mkF m 14 #[rv w8] []) _
    refine XS.aloadN X2.here hx rfl (hb hby d3_14) rfl rfl ?_
    show SF p e below T2 (mkF m 15 #[rv w8] [(.ref w8)]) _
    refine st3 _ ?_
    show SF p e below T3 (mkF m 18 #[rv w8] [(.ref w14), (.ref w8)]) _
    refine Jvm.RoadKit.acmp (g := (mkF m 18 #[rv w8] [(.ref w14), (.ref w8)])) X3 hx rfl rfl rfl (pc0 := 18) (pc' := 21) (same := false) rfl (hb hby d3_18) rfl (decide_eq_false fun q => (Fld.ne F_w8_ordinal F_w14_ordinal (by decide)) (Value.ref.inj q)) (by decide) (by decide) ?_
    show SF p e below T3 (mkF m 21 #[rv w8] []) _
    refine XS.aloadN X3.here hx rfl (hb hby d3_21) rfl rfl ?_
    show SF p e below T3 (mkF m 22 #[rv w8] [(.ref w8)]) _
    refine st4 _ ?_
    show SF p e below T4 (mkF m 25 #[rv w8] [(.ref w12), (.ref w8)]) _
    refine Jvm.RoadKit.acmp (g := (mkF m 25 #[rv w8] [(.ref w12), (.ref w8)])) X4 hx rfl rfl rfl (pc0 := 25) (pc' := 28) (same := false) rfl (hb hby d3_25) rfl (decide_eq_false fun q => (Fld.ne F_w8_ordinal F_w12_ordinal (by decide)) (Value.ref.inj q)) (by decide) (by decide) ?_
    show SF p e below T4 (mkF m 28 #[rv w8] []) _
    refine XS.aloadN X4.here hx rfl (hb hby d3_28) rfl rfl ?_
    show SF p e below T4 (mkF m 29 #[rv w8] [(.ref w8)]) _
    refine st5 _ ?_
    show SF p e below T5 (mkF m 32 #[rv w8] [(.ref w16), (.ref w8)]) _
    refine Jvm.RoadKit.acmp (g := (mkF m 32 #[rv w8] [(.ref w16), (.ref w8)])) X5 hx rfl rfl rfl (pc0 := 32) (pc' := 35) (same := false) rfl (hb hby d3_32) rfl (decide_eq_false fun q => (Fld.ne F_w8_ordinal F_w16_ordinal (by decide)) (Value.ref.inj q)) (by decide) (by decide) ?_
    show SF p e below T5 (mkF m 35 #[rv w8] []) _
    refine XS.aloadN X5.here hx rfl (hb hby d3_35) rfl rfl ?_
    show SF p e below T5 (mkF m 36 #[rv w8] [(.ref w8)]) _
    refine st6 _ ?_
    show SF p e below T6 (mkF m 39 #[rv w8] [(.ref w15), (.ref w8)]) _
    refine Jvm.RoadKit.acmp (g := (mkF m 39 #[rv w8] [(.ref w15), (.ref w8)])) X6 hx rfl rfl rfl (pc0 := 39) (pc' := 42) (same := false) rfl (hb hby d3_39) rfl (decide_eq_false fun q => (Fld.ne F_w8_ordinal F_w15_ordinal (by decide)) (Value.ref.inj q)) (by decide) (by decide) ?_
    show SF p e below T6 (mkF m 42 #[rv w8] []) _
    refine XS.aloadN X6.here hx rfl (hb hby d3_42) rfl rfl ?_
    show SF p e below T6 (mkF m 43 #[rv w8] [(.ref w8)]) _
    refine st7 _ ?_
    show SF p e below T7 (mkF m 46 #[rv w8] [(.ref w17), (.ref w8)]) _
    refine Jvm.RoadKit.acmp (g := (mkF m 46 #[rv w8] [(.ref w17), (.ref w8)])) X7 hx rfl rfl rfl (pc0 := 46) (pc' := 49) (same := false) rfl (hb hby d3_46) rfl (decide_eq_false fun q => (Fld.ne F_w8_ordinal F_w17_ordinal (by decide)) (Value.ref.inj q)) (by decide) (by decide) ?_
    show SF p e below T7 (mkF m 49 #[rv w8] []) _
    refine XS.aloadN X7.here hx rfl (hb hby d3_49) rfl rfl ?_
    show SF p e below T7 (mkF m 50 #[rv w8] [(.ref w8)]) _
    refine st8 _ ?_
    show SF p e below T8 (mkF m 53 #[rv w8] [(.ref w18), (.ref w8)]) _
    refine Jvm.RoadKit.acmp (g := (mkF m 53 #[rv w8] [(.ref w18), (.ref w8)])) X8 hx rfl rfl rfl (pc0 := 53) (pc' := 60) (same := false) rfl (hb hby d3_53) rfl (decide_eq_false fun q => (Fld.ne F_w8_ordinal F_w18_ordinal (by decide)) (Value.ref.inj q)) (by decide) (by decide) ?_
    show SF p e below T8 (mkF m 60 #[rv w8] []) _
    refine XS.iconst X8.here hx rfl (hb hby d3_60) ?_
    show SF p e below T8 (mkF m 61 #[rv w8] [(.int 0)]) _
    exact retN X8 hx (t := .boolean) Bd.returns (by simp) (hb hby d3_61) hr
  · show Q3_45 Z w8 w1 w13 w14 w12 w16 w15 w17 w18 h0 n0 _ T8.heap _
    rw [e8]
    exact ⟨rfl, N0, rfl⟩
theorem d1_143 : decode method_2_code 143 = .ok (.iload_n 0, 1) := by decide +kernel
theorem d1_144 : decode method_2_code 144 = .ok (.bipush 15, 2) := by decide +kernel
theorem d1_146 : decode method_2_code 146 = .ok (.if_icmp .ne 7, 3) := by decide +kernel
theorem d1_149 : decode method_2_code 149 = .ok (.getstatic 55, 3) := by decide +kernel
theorem d1_152 : decode method_2_code 152 = .ok (.areturn, 1) := by decide +kernel
-- XpathTokensNamesNextPinLaw.kindOf 
def Q1_46 (Z : State) (w9 : Addr) (h0 : Heap) (n0 : Nat) (v : Option Value) (h : Heap) (L : List Loc) : Prop := v = some (.ref w9) ∧ Fr n0 L ∧ h = h0
set_option maxRecDepth 65536 in
set_option maxHeartbeats 40000000 in
theorem rm1_46 (l : Launch) (Z : State) (a0 : Array Value) (hw : HW Z a0) (ws : List Jvm.Cond) (w9 : Addr) (h0 : Heap) (n0 : Nat) (Z0 : n0 ≤ h0.size) (S16 : Sta Z Z.heap "com/example/edictum/edictum/io/XpathTokens$Kind" "DOT_DOT" "Lcom/example/edictum/edictum/io/XpathTokens$Kind;" (.ref w9)) (P2 : Old Z n0 h0) :
    MF l Z (⟨"com/example/edictum/edictum/io/XpathTokensNamesNextPinLaw", "kindOf", "(I)Lcom/example/edictum/edictum/io/XpathTokens$Kind;"⟩ : MethodName) (Jvm.Cond.code (⟨"com/example/edictum/edictum/io/XpathTokensNamesNextPinLaw", "kindOf", "(I)Lcom/example/edictum/edictum/io/XpathTokens$Kind;"⟩ : MethodName) method_2_code 1 (some (.object "com/example/edictum/edictum/io/XpathTokens$Kind"))) ws ({ frames := 0, cells := 0, slots := 0, locals := 0 } : Room) #[(.int 15)] h0 (Q1_46 Z w9 h0 n0) := by
  refine MetFree.of_bodySF (plainFor_of_name pn_0) hisR ?_
  intro p e s m args below meth c s₁ Bd hml0 hP hK
  obtain ⟨rfl, hZ, hh⟩ := hP
  have hx := Bd.exec
  have hby := Bd.bytes
  have hml : c.maxLocals = 1 := hml0
  have hown : s.vm.findClass "com/example/edictum/edictum/io/XpathTokensNamesNextPinLaw" = some m.cls := findClass_of_methodNamed Bd.named
  have hnm := (name_of_methodNamed Bd.named Bd.method).1
  have X0 : Stand p l e ({ frames := 0, cells := 0, slots := 0, locals := 0 } : Room) s m #[(.int 15)] below meth c s₁ [] 0 0 := Stand.of_body Bd
  have e0 : s₁.heap = h0 := by rw [← hh, Bd.state]; rfl
  have N0 := Fr.nil n0
  have pre0 : ∀ t, SF p e below s₁ (mkF m 0 #[iv 15] []) t → SF p e below s₁ (entryFrame m #[(.int 15)] 1) t := fun t k => castTop (ef_0 m (15 : Int32)) k
  obtain ⟨T1, X1, e1, st1⟩ := getS2 X0 hx hZ hown (host := "") (Or.inl (tw hw 25 rfl)) Via.refl e0 (S16.ext P2.2) (g := (mkF m 149 #[iv 15] [])) rfl (hb hby d1_149)
  obtain ⟨fs, hr, hrun, hended, hW, hsame⟩ := X1.leave (v := some (.ref w9)) (fun h => by rw [Bd.returns] at h; cases h)
  refine ⟨_, _, pre0 _ ?_, hrun, hended, _, _, rfl, ?_, ⟨_, rfl⟩, hW, hsame.mono (by decide) (by decide)⟩
  · show SF p e below s₁ (mkF m 0 #[iv 15] []) _
    refine XS.iloadN X0.here hx rfl (hb hby d1_0) rfl ?_
    show SF p e below s₁ (mkF m 1 #[iv 15] [(.int 15)]) _
    refine XS.ifYes X0.here hx rfl (pc0 := 1) (pc' := 8) rfl (hb hby d1_1) rfl ((if0 _ _).trans (feq (by decide : ¬ ((15 : Int32) = (0 : Int32)))).2) (by decide) (by decide) ?_
    show SF p e below s₁ (mkF m 8 #[iv 15] []) _
    refine XS.iloadN X0.here hx rfl (hb hby d1_8) rfl ?_
    show SF p e below s₁ (mkF m 9 #[iv 15] [(.int 15)]) _
    refine XS.iconst X0.here hx rfl (hb hby d1_9) ?_
    show SF p e below s₁ (mkF m 10 #[iv 15] [(.int 1), (.int 15)]) _
    refine XS.icmpYes X0.here hx rfl (pc0 := 10) (pc' := 17) rfl (hb hby d1_10) rfl (feq (by decide : ¬ ((15 : Int32) = (1 : Int32)))).2 (by decide) (by decide) ?_
    show SF p e below s₁ (mkF m 17 #[iv 15] []) _
    refine XS.iloadN X0.here hx rfl (hb hby d1_17) rfl ?_
    show SF p e below s₁ (mkF m 18 #[iv 15] [(.int 15)]) _
    refine XS.iconst X0.here hx rfl (hb hby d1_18) ?_
    show SF p e below s₁ (mkF m 19 #[iv 15] [(.int 2), (.int 15)]) _
    refine XS.icmpYes X0.here hx rfl (pc0 := 19) (pc' := 26) rfl (hb hby d1_19) rfl (feq (by decide : ¬ ((15 : Int32) = (2 : Int32)))).2 (by decide) (by decide) ?_
    show SF p e below s₁ (mkF m 26 #[iv 15] []) _
    refine XS.iloadN X0.here hx rfl (hb hby d1_26) rfl ?_
    show SF p e below s₁ (mkF m 27 #[iv 15] [(.int 15)]) _
    refine XS.iconst X0.here hx rfl (hb hby d1_27) ?_
    show SF p e below s₁ (mkF m 28 #[iv 15] [(.int 3), (.int 15)]) _
    refine XS.icmpYes X0.here hx rfl (pc0 := 28) (pc' := 35) rfl (hb hby d1_28) rfl (feq (by decide : ¬ ((15 : Int32) = (3 : Int32)))).2 (by decide) (by decide) ?_
    show SF p e below s₁ (mkF m 35 #[iv 15] []) _
    refine XS.iloadN X0.here hx rfl (hb hby d1_35) rfl ?_
    show SF p e below s₁ (mkF m 36 #[iv 15] [(.int 15)]) _
    refine XS.iconst X0.here hx rfl (hb hby d1_36) ?_
    show SF p e below s₁ (mkF m 37 #[iv 15] [(.int 4), (.int 15)]) _
    refine XS.icmpYes X0.here hx rfl (pc0 := 37) (pc' := 44) rfl (hb hby d1_37) rfl (feq (by decide : ¬ ((15 : Int32) = (4 : Int32)))).2 (by decide) (by decide) ?_
    show SF p e below s₁ (mkF m 44 #[iv 15] []) _
    refine XS.iloadN X0.here hx rfl (hb hby d1_44) rfl ?_
    show SF p e below s₁ (mkF m 45 #[iv 15] [(.int 15)]) _
    refine XS.iconst X0.here hx rfl (hb hby d1_45) ?_
    show SF p e below s₁ (mkF m 46 #[iv 15] [(.int 5), (.int 15)]) _
    refine XS.icmpYes X0.here hx rfl (pc0 := 46) (pc' := 53) rfl (hb hby d1_46) rfl (feq (by decide : ¬ ((15 : Int32) = (5 : Int32)))).2 (by decide) (by decide) ?_
    show SF p e below s₁ (mkF m 53 #[iv 15] []) _
    refine XS.iloadN X0.here hx rfl (hb hby d1_53) rfl ?_
    show SF p e below s₁ (mkF m 54 #[iv 15] [(.int 15)]) _
    refine XS.bipush X0.here hx rfl (hb hby d1_54) ?_
    show SF p e below s₁ (mkF m 56 #[iv 15] [(.int 6), (.int 15)]) _
    refine XS.icmpYes X0.here hx rfl (pc0 := 56) (pc' := 63) rfl (hb hby d1_56) rfl (feq (by decide : ¬ ((15 : Int32) = (6 : Int32)))).2 (by decide) (by decide) ?_
    show SF p e below s₁ (mkF m 63 #[iv 15] []) _
    refine XS.iloadN X0.here hx rfl (hb hby d1_63) rfl ?_
    show SF p e below s₁ (mkF m 64 #[iv 15] [(.int 15)]) _
    refine XS.bipush X0.here hx rfl (hb hby d1_64) ?_
    show SF p e below s₁ (mkF m 66 #[iv 15] [(.int 7), (.int 15)]) _
    refine XS.icmpYes X0.here hx rfl (pc0 := 66) (pc' := 73) rfl (hb hby d1_66) rfl (feq (by decide : ¬ ((15 : Int32) = (7 : Int32)))).2 (by decide) (by decide) ?_
    show SF p e below s₁ (mkF m 73 #[iv 15] []) _
    refine XS.iloadN X0.here hx rfl (hb hby d1_73) rfl ?_
    show SF p e below s₁ (mkF m 74 #[iv 15] [(.int 15)]) _
    refine XS.bipush X0.here hx rfl (hb hby d1_74) ?_
    show SF p e below s₁ (mkF m 76 #[iv 15] [(.int 8), (.int 15)]) _
    refine XS.icmpYes X0.here hx rfl (pc0 := 76) (pc' := 83) rfl (hb hby d1_76) rfl (feq (by decide : ¬ ((15 : Int32) = (8 : Int32)))).2 (by decide) (by decide) ?_
    show SF p e below s₁ (mkF m 83 #[iv 15] []) _
    refine XS.iloadN X0.here hx rfl (hb hby d1_83) rfl ?_
    show SF p e below s₁ (mkF m 84 #[iv 15] [(.int 15)]) _
    refine XS.bipush X0.here hx rfl (hb hby d1_84) ?_
    show SF p e below s₁ (mkF m 86 #[iv 15] [(.int 9), (.int 15)]) _
    refine XS.icmpYes X0.here hx rfl (pc0 := 86) (pc' := 93) rfl (hb hby d1_86) rfl (feq (by decide : ¬ ((15 : Int32) = (9 : Int32)))).2 (by decide) (by decide) ?_
    show SF p e below s₁ (mkF m 93 #[iv 15] []) _
    refine XS.iloadN X0.here hx rfl (hb hby d1_93) rfl ?_
    show SF p e below s₁ (mkF m 94 #[iv 15] [(.int 15)]) _
    refine XS.bipush X0.here hx rfl (hb hby d1_94) ?_
    show SF p e below s₁ (mkF m 96 #[iv 15] [(.int 10), (.int 15)]) _
    refine XS.icmpYes X0.here hx rfl (pc0 := 96) (pc' := 103) rfl (hb hby d1_96) rfl (feq (by decide : ¬ ((15 : Int32) = (10 : Int32)))).2 (by decide) (by decide) ?_
    show SF p e below s₁ (mkF m 103 #[iv 15] []) _
    refine XS.iloadN X0.here hx rfl (hb hby d1_103) rfl ?_
    show SF p e below s₁ (mkF m 104 #[iv 15] [(.int 15)]) _
    refine XS.bipush X0.here hx rfl (hb hby d1_104) ?_
    show SF p e below s₁ (mkF m 106 #[iv 15] [(.int 11), (.int 15)]) _
    refine XS.icmpYes X0.here hx rfl (pc0 := 106) (pc' := 113) rfl (hb hby d1_106) rfl (feq (by decide : ¬ ((15 : Int32) = (11 : Int32)))).2 (by decide) (by decide) ?_
    show SF p e below s₁ (mkF m 113 #[iv 15] []) _
    refine XS.iloadN X0.here hx rfl (hb hby d1_113) rfl ?_
    show SF p e below s₁ (mkF m 114 #[iv 15] [(.int 15)]) _
    refine XS.bipush X0.here hx rfl (hb hby d1_114) ?_
    show SF p e below s₁ (mkF m 116 #[iv 15] [(.int 12), (.int 15)]) _
    refine XS.icmpYes X0.here hx rfl (pc0 := 116) (pc' := 123) rfl (hb hby d1_116) rfl (feq (by decide : ¬ ((15 : Int32) = (12 : Int32)))).2 (by decide) (by decide) ?_
    show SF p e below s₁ (mkF m 123 #[iv 15] []) _
    refine XS.iloadN X0.here hx rfl (hb hby d1_123) rfl ?_
    show SF p e below s₁ (mkF m 124 #[iv 15] [(.int 15)]) _
    refine XS.bipush X0.here hx rfl (hb hby d1_124) ?_
    show SF p e below s₁ (mkF m 126 #[iv 15] [(.int 13), (.int 15)]) _
    refine XS.icmpYes X0.here hx rfl (pc0 := 126) (pc' := 133) rfl (hb hby d1_126) rfl (feq (by decide : ¬ ((15 : Int32) = (13 : Int32)))).2 (by decide) (by decide) ?_
    show SF p e below s₁ (mkF m 133 #[iv 15] []) _
    refine XS.iloadN X0.here hx rfl (hb hby d1_133) rfl ?_
    show SF p e below s₁ (mkF m 134 #[iv 15] [(.int 15)]) _
    refine XS.bipush X0.here hx rfl (hb hby d1_134) ?_
    show SF p e below s₁ (mkF m 136 #[iv 15] [(.int 14), (.int 15)]) _
    refine XS.icmpYes X0.here hx rfl (pc0 := 136) (pc' := 143) rfl (hb hby d1_136) rfl (feq (by decide : ¬ ((15 : Int32) = (14 : Int32)))).2 (by decide) (by decide) ?_
    show SF p e below s₁ (mkF m 143 #[iv 15] []) _
    refine XS.iloadN X0.here hx rfl (hb hby d1_143) rfl ?_
    show SF p e below s₁ (mkF m 144 #[iv 15] [(.int 15)]) _
    refine XS.bipush X0.here hx rfl (hb hby d1_144) ?_
    show SF p e below s₁ (mkF m 146 #[iv 15] [(.int 15), (.int 15)]) _
    refine XS.icmpNo X0.here hx rfl (hb hby d1_146) rfl (teq (by decide : (15 : Int32) = (15 : Int32))).2 ?_
    show SF p e below s₁ (mkF m 149 #[iv 15] []) _
    refine st1 _ ?_
    show SF p e below T1 (mkF m 152 #[iv 15] [(.ref w9)]) _
    exact own_retR X1 hx Bd.returns rfl rfl (hb hby d1_152) hr
  · show Q1_46 Z w9 h0 n0 _ T1.heap _
    rw [e1]
    exact ⟨rfl, N0, rfl⟩
-- XpathTokensNamesNextPinLaw.endsOperand 
def Q2_47 (Z : State) (w9 : Addr) (w2 : Addr) (w3 : Addr) (w4 : Addr) (w5 : Addr) (w6 : Addr) (w7 : Addr) (w8 : Addr) (h0 : Heap) (n0 : Nat) (v : Option Value) (h : Heap) (L : List Loc) : Prop := v = some (.int 1) ∧ Fr n0 L ∧ h = h0
set_option maxRecDepth 65536 in
set_option maxHeartbeats 40000000 in
theorem rm2_47 (l : Launch) (Z : State) (a0 : Array Value) (hw : HW Z a0) (ws : List Jvm.Cond) (w9 : Addr) (w2 : Addr) (w3 : Addr) (w4 : Addr) (w5 : Addr) (w6 : Addr) (w7 : Addr) (w8 : Addr) (h0 : Heap) (n0 : Nat) (Z0 : n0 ≤ h0.size) (S2 : Sta Z Z.heap "com/example/edictum/edictum/io/XpathTokens$Kind" "RIGHT_PAREN" "Lcom/example/edictum/edictum/io/XpathTokens$Kind;" (.ref w2)) (P2 : Old Z n0 h0) (F_w9_ordinal : Fld Z Z.heap w9 "java/lang/Enum" "ordinal" "I" (.int 15)) (F_w2_ordinal : Fld Z Z.heap w2 "java/lang/Enum" "ordinal" "I" (.int 5)) (S4 : Sta Z Z.heap "com/example/edictum/edictum/io/XpathTokens$Kind" "RIGHT_BRACKET" "Lcom/example/edictum/edictum/io/XpathTokens$Kind;" (.ref w3)) (F_w3_ordinal : Fld Z Z.heap w3 "java/lang/Enum" "ordinal" "I" (.int 6)) (S6 : Sta Z Z.heap "com/example/edictum/edictum/io/XpathTokens$Kind" "AXIS" "Lcom/example/edictum/edictum/io/XpathTokens$Kind;" (.ref w4)) (F_w4_ordinal : Fld Z Z.heap w4 "java/lang/Enum" "ordinal" "I" (.int 10)) (S8 : Sta Z Z.heap "com/example/edictum/edictum/io/XpathTokens$Kind" "FUNCTION" "Lcom/example/edictum/edictum/io/XpathTokens$Kind;" (.ref w5)) (F_w5_ordinal : Fld Z Z.heap w5 "java/lang/Enum" "ordinal" "I" (.int 11)) (S10 : Sta Z Z.heap "com/example/edictum/edictum/io/XpathTokens$Kind" "NODE_TYPE" "Lcom/example/edictum/edictum/io/XpathTokens$Kind;" (.ref w6)) (F_w6_ordinal : Fld Z Z.heap w6 "java/lang/Enum" "ordinal" "I" (.int 12)) (S12 : Sta Z Z.heap "com/example/edictum/edictum/io/XpathTokens$Kind" "NAME_TEST" "Lcom/example/edictum/edictum/io/XpathTokens$Kind;" (.ref w7)) (F_w7_ordinal : Fld Z Z.heap w7 "java/lang/Enum" "ordinal" "I" (.int 13)) (S14 : Sta Z Z.heap "com/example/edictum/edictum/io/XpathTokens$Kind" "DOT" "Lcom/example/edictum/edictum/io/XpathTokens$Kind;" (.ref w8)) (F_w8_ordinal : Fld Z Z.heap w8 "java/lang/Enum" "ordinal" "I" (.int 14)) (S16 : Sta Z Z.heap "com/example/edictum/edictum/io/XpathTokens$Kind" "DOT_DOT" "Lcom/example/edictum/edictum/io/XpathTokens$Kind;" (.ref w9)) :
    MF l Z (⟨"com/example/edictum/edictum/io/XpathTokensNamesNextPinLaw", "endsOperand", "(Lcom/example/edictum/edictum/io/XpathTokens$Kind;)Z"⟩ : MethodName) (Jvm.Cond.code (⟨"com/example/edictum/edictum/io/XpathTokensNamesNextPinLaw", "endsOperand", "(Lcom/example/edictum/edictum/io/XpathTokens$Kind;)Z"⟩ : MethodName) method_3_code 1 (some .boolean)) ws ({ frames := 0, cells := 0, slots := 0, locals := 0 } : Room) #[(.ref w9)] h0 (Q2_47 Z w9 w2 w3 w4 w5 w6 w7 w8 h0 n0) := by
  refine MetFree.of_bodySF (plainFor_of_name pn_0) hisR ?_
  intro p e s m args below meth c s₁ Bd hml0 hP hK
  obtain ⟨rfl, hZ, hh⟩ := hP
  have hx := Bd.exec
  have hby := Bd.bytes
  have hml : c.maxLocals = 1 := hml0
  have hown : s.vm.findClass "com/example/edictum/edictum/io/XpathTokensNamesNextPinLaw" = some m.cls := findClass_of_methodNamed Bd.named
  have hnm := (name_of_methodNamed Bd.named Bd.method).1
  have X0 : Stand p l e ({ frames := 0, cells := 0, slots := 0, locals := 0 } : Room) s m #[(.ref w9)] below meth c s₁ [] 0 0 := Stand.of_body Bd
  have e0 : s₁.heap = h0 := by rw [← hh, Bd.state]; rfl
  have N0 := Fr.nil n0
  have pre0 : ∀ t, SF p e below s₁ (mkF m 0 #[rv w9] []) t → SF p e below s₁ (entryFrame m #[(.ref w9)] 1) t := fun t k => castTop (ef_1 m w9) k
  obtain ⟨T1, X1, e1, st1⟩ := getS2 X0 hx hZ hown (host := "") (Or.inl (tw hw 11 rfl)) Via.refl e0 (S2.ext P2.2) (g := (mkF m 1 #[rv w9] [(.ref w9)])) rfl (hb hby d2_1)
  obtain ⟨T2, X2, e2, st2⟩ := getS2 X1 hx hZ hown (host := "") (Or.inl (tw hw 13 rfl)) Via.refl e1 (S4.ext P2.2) (g := (mkF m 8 #[rv w9] [(.ref w9)])) rfl (hb hby d2_8)
  obtain ⟨T3, X3, e3, st3⟩ := getS2 X2 hx hZ hown (host := "") (Or.inl (tw hw 15 rfl)) Via.refl e2 (S6.ext P2.2) (g := (mkF m 15 #[rv w9] [(.ref w9)])) rfl (hb hby d2_15)
  obtain ⟨T4, X4, e4, st4⟩ := getS2 X3 hx hZ hown (host := "") (Or.inl (tw hw 17 rfl)) Via.refl e3 (S8.ext P2.2) (g := (mkF m 22 #[rv w9] [(.ref w9)])) rfl (hb hby d2_22)
  obtain ⟨T5, X5, e5, st5⟩ := getS2 X4 hx hZ hown (host := "") (Or.inl (tw hw 19 rfl)) Via.refl e4 (S10.ext P2.2) (g := (mkF m 29 #[rv w9] [(.ref w9)])) rfl (hb hby d2_29)
  obtain ⟨T6, X6, e6, st6⟩ := getS2 X5 hx hZ hown (host := "") (Or.inl (tw hw 21 rfl)) Via.refl e5 (S12.ext P2.2) (g := (mkF m 36 #[rv w9] [(.ref w9)])) rfl (hb hby d2_36)
  obtain ⟨T7, X7, e7, st7⟩ := getS2 X6 hx hZ hown (host := "") (Or.inl (tw hw 23 rfl)) Via.refl e6 (S14.ext P2.2) (g := (mkF m 43 #[rv w9] [(.ref w9)])) rfl (hb hby d2_43)
  obtain ⟨T8, X8, e8, st8⟩ := getS2 X7 hx hZ hown (host := "") (Or.inl (tw hw 25 rfl)) Via.refl e7 (S16.ext P2.2) (g := (mkF m 50 #[rv w9] [(.ref w9)])) rfl (hb hby d2_50)
  obtain ⟨fs, hr, hrun, hended, hW, hsame⟩ := X8.leave (v := some (.int 1)) (fun h => by rw [Bd.returns] at h; cases h)
  refine ⟨_, _, pre0 _ ?_, hrun, hended, _, _, rfl, ?_, ⟨_, rfl⟩, hW, hsame.mono (by decide) (by decide)⟩
  · show SF p e below s₁ (mkF m 0 #[rv w9] []) _
    refine XS.aloadN X0.here hx rfl (hb hby d2_0) rfl rfl ?_
    show SF p e below s₁ (mkF m 1 #[rv w9] [(.ref w9)]) _
    refine st1 _ ?_
    show SF p e below T1 (mkF m 4 #[rv w9] [(.ref w2), (.ref w9)]) _
    refine Jvm.RoadKit.acmp (g := (mkF m 4 #[rv w9] [(.ref w2), (.ref w9)])) X1 hx rfl rfl rfl (pc0 := 4) (pc' := 7) (same := false) rfl (hb hby d2_4) rfl (decide_eq_false fun q => (Fld.ne F_w9_ordinal F_w2_ordinal (by decide)) (Value.ref.inj q)) (by decide) (by decide) ?_
    show SF p e below T1 (mkF m 7 #[rv w9] []) _
    refine XS.aloadN X1.here hx rfl (hb hby d2_7) rfl rfl ?_
    show SF p e below T1 (mkF m 8 #[rv w9] [(.ref w9)]) _
    refine st2 _ ?_
    show SF p e below T2 (mkF m 11 #[rv w9] [(.ref w3), (.ref w9)]) _
    refine Jvm.RoadKit.acmp (g := (mkF m 11 #[rv w9] [(.ref w3), (.ref w9)])) X2 hx rfl rfl rfl (pc0 := 11) (pc' := 14) (same := false) rfl (hb hby d2_11) rfl (decide_eq_false fun q => (Fld.ne F_w9_ordinal F_w3_ordinal (by decide)) (Value.ref.inj q)) (by decide) (by decide) ?_
    show SF p e below T2 (mkF m 14 #[rv w9] []) _
    refine XS.aloadN X2.here hx rfl (hb hby d2_14) rfl rfl ?_
    show SF p e below T2 (mkF m 15 #[rv w9] [(.ref w9)]) _
    refine st3 _ ?_
    show SF p e below T3 (mkF m 18 #[rv w9] [(.ref w4), (.ref w9)]) _
    refine Jvm.RoadKit.acmp (g := (mkF m 18 #[rv w9] [(.ref w4), (.ref w9)])) X3 hx rfl rfl rfl (pc0 := 18) (pc' := 21) (same := false) rfl (hb hby d2_18) rfl (decide_eq_false fun q => (Fld.ne F_w9_ordinal F_w4_ordinal (by decide)) (Value.ref.inj q)) (by decide) (by decide) ?_
    show SF p e below T3 (mkF m 21 #[rv w9] []) _
    refine XS.aloadN X3.here hx rfl (hb hby d2_21) rfl rfl ?_
    show SF p e below T3 (mkF m 22 #[rv w9] [(.ref w9)]) _
    refine st4 _ ?_
    show SF p e below T4 (mkF m 25 #[rv w9] [(.ref w5), (.ref w9)]) _
    refine Jvm.RoadKit.acmp (g := (mkF m 25 #[rv w9] [(.ref w5), (.ref w9)])) X4 hx rfl rfl rfl (pc0 := 25) (pc' := 28) (same := false) rfl (hb hby d2_25) rfl (decide_eq_false fun q => (Fld.ne F_w9_ordinal F_w5_ordinal (by decide)) (Value.ref.inj q)) (by decide) (by decide) ?_
    show SF p e below T4 (mkF m 28 #[rv w9] []) _
    refine XS.aloadN X4.here hx rfl (hb hby d2_28) rfl rfl ?_
    show SF p e below T4 (mkF m 29 #[rv w9] [(.ref w9)]) _
    refine st5 _ ?_
    show SF p e below T5 (mkF m 32 #[rv w9] [(.ref w6), (.ref w9)]) _
    refine Jvm.RoadKit.acmp (g := (mkF m 32 #[rv w9] [(.ref w6), (.ref w9)])) X5 hx rfl rfl rfl (pc0 := 32) (pc' := 35) (same := false) rfl (hb hby d2_32) rfl (decide_eq_false fun q => (Fld.ne F_w9_ordinal F_w6_ordinal (by decide)) (Value.ref.inj q)) (by decide) (by decide) ?_
    show SF p e below T5 (mkF m 35 #[rv w9] []) _
    refine XS.aloadN X5.here hx rfl (hb hby d2_35) rfl rfl ?_
    show SF p e below T5 (mkF m 36 #[rv w9] [(.ref w9)]) _
    refine st6 _ ?_
    show SF p e below T6 (mkF m 39 #[rv w9] [(.ref w7), (.ref w9)]) _
    refine Jvm.RoadKit.acmp (g := (mkF m 39 #[rv w9] [(.ref w7), (.ref w9)])) X6 hx rfl rfl rfl (pc0 := 39) (pc' := 42) (same := false) rfl (hb hby d2_39) rfl (decide_eq_false fun q => (Fld.ne F_w9_ordinal F_w7_ordinal (by decide)) (Value.ref.inj q)) (by decide) (by decide) ?_
    show SF p e below T6 (mkF m 42 #[rv w9] []) _
    refine XS.aloadN X6.here hx rfl (hb hby d2_42) rfl rfl ?_
    show SF p e below T6 (mkF m 43 #[rv w9] [(.ref w9)]) _
    refine st7 _ ?_
    show SF p e below T7 (mkF m 46 #[rv w9] [(.ref w8), (.ref w9)]) _
    refine Jvm.RoadKit.acmp (g := (mkF m 46 #[rv w9] [(.ref w8), (.ref w9)])) X7 hx rfl rfl rfl (pc0 := 46) (pc' := 49) (same := false) rfl (hb hby d2_46) rfl (decide_eq_false fun q => (Fld.ne F_w9_ordinal F_w8_ordinal (by decide)) (Value.ref.inj q)) (by decide) (by decide) ?_
    show SF p e below T7 (mkF m 49 #[rv w9] []) _
    refine XS.aloadN X7.here hx rfl (hb hby d2_49) rfl rfl ?_
    show SF p e below T7 (mkF m 50 #[rv w9] [(.ref w9)]) _
    refine st8 _ ?_
    show SF p e below T8 (mkF m 53 #[rv w9] [(.ref w9), (.ref w9)]) _
    refine Jvm.RoadKit.acmp (g := (mkF m 53 #[rv w9] [(.ref w9), (.ref w9)])) X8 hx rfl rfl rfl (pc0 := 53) (pc' := 70) (same := true) rfl (hb hby d2_53) rfl (decide_eq_true rfl) (by decide) (by decide) ?_
    show SF p e below T8 (mkF m 70 #[rv w9] []) _
    refine XS.iconst X8.here hx rfl (hb hby d2_70) ?_
    show SF p e below T8 (mkF m 71 #[rv w9] [(.int 1)]) _
    refine XS.goto X8.here hx rfl (pc0 := 71) (pc' := 75) rfl (hb hby d2_71) (by decide) (by decide) ?_
    show SF p e below T8 (mkF m 75 #[rv w9] [(.int 1)]) _
    exact retN X8 hx (t := .boolean) Bd.returns (by simp) (hb hby d2_75) hr
  · show Q2_47 Z w9 w2 w3 w4 w5 w6 w7 w8 h0 n0 _ T8.heap _
    rw [e8]
    exact ⟨rfl, N0, rfl⟩
-- XpathTokens$Kind.namesNext 
def Q3_48 (Z : State) (w9 : Addr) (w1 : Addr) (w13 : Addr) (w14 : Addr) (w12 : Addr) (w16 : Addr) (w15 : Addr) (w17 : Addr) (w18 : Addr) (h0 : Heap) (n0 : Nat) (v : Option Value) (h : Heap) (L : List Loc) : Prop := v = some (.int 0) ∧ Fr n0 L ∧ h = h0
set_option maxRecDepth 65536 in
set_option maxHeartbeats 40000000 in
theorem rm3_48 (l : Launch) (Z : State) (a0 : Array Value) (hw : HW Z a0) (ws : List Jvm.Cond) (w9 : Addr) (w1 : Addr) (w13 : Addr) (w14 : Addr) (w12 : Addr) (w16 : Addr) (w15 : Addr) (w17 : Addr) (w18 : Addr) (h0 : Heap) (n0 : Nat) (Z0 : n0 ≤ h0.size) (S0 : Sta Z Z.heap "com/example/edictum/edictum/io/XpathTokens$Kind" "AT" "Lcom/example/edictum/edictum/io/XpathTokens$Kind;" (.ref w1)) (P2 : Old Z n0 h0) (F_w9_ordinal : Fld Z Z.heap w9 "java/lang/Enum" "ordinal" "I" (.int 15)) (F_w1_ordinal : Fld Z Z.heap w1 "java/lang/Enum" "ordinal" "I" (.int 0)) (S24 : Sta Z Z.heap "com/example/edictum/edictum/io/XpathTokens$Kind" "AXIS_SEPARATOR" "Lcom/example/edictum/edictum/io/XpathTokens$Kind;" (.ref w13)) (F_w13_ordinal : Fld Z Z.heap w13 "java/lang/Enum" "ordinal" "I" (.int 1)) (S26 : Sta Z Z.heap "com/example/edictum/edictum/io/XpathTokens$Kind" "LEFT_PAREN" "Lcom/example/edictum/edictum/io/XpathTokens$Kind;" (.ref w14)) (F_w14_ordinal : Fld Z Z.heap w14 "java/lang/Enum" "ordinal" "I" (.int 2)) (S22 : Sta Z Z.heap "com/example/edictum/edictum/io/XpathTokens$Kind" "LEFT_BRACKET" "Lcom/example/edictum/edictum/io/XpathTokens$Kind;" (.ref w12)) (F_w12_ordinal : Fld Z Z.heap w12 "java/lang/Enum" "ordinal" "I" (.int 3)) (S30 : Sta Z Z.heap "com/example/edictum/edictum/io/XpathTokens$Kind" "COMMA" "Lcom/example/edictum/edictum/io/XpathTokens$Kind;" (.ref w16)) (F_w16_ordinal : Fld Z Z.heap w16 "java/lang/Enum" "ordinal" "I" (.int 4)) (S28 : Sta Z Z.heap "com/example/edictum/edictum/io/XpathTokens$Kind" "SLASH" "Lcom/example/edictum/edictum/io/XpathTokens$Kind;" (.ref w15)) (F_w15_ordinal : Fld Z Z.heap w15 "java/lang/Enum" "ordinal" "I" (.int 7)) (S32 : Sta Z Z.heap "com/example/edictum/edictum/io/XpathTokens$Kind" "DOUBLE_SLASH" "Lcom/example/edictum/edictum/io/XpathTokens$Kind;" (.ref w17)) (F_w17_ordinal : Fld Z Z.heap w17 "java/lang/Enum" "ordinal" "I" (.int 8)) (S34 : Sta Z Z.heap "com/example/edictum/edictum/io/XpathTokens$Kind" "OPERATOR" "Lcom/example/edictum/edictum/io/XpathTokens$Kind;" (.ref w18)) (F_w18_ordinal : Fld Z Z.heap w18 "java/lang/Enum" "ordinal" "I" (.int 9)) :
    MF l Z (⟨"com/example/edictum/edictum/io/XpathTokens$Kind", "namesNext", "()Z"⟩ : MethodName) (Jvm.Cond.code (⟨"com/example/edictum/edictum/io/XpathTokens$Kind", "namesNext", "()Z"⟩ : MethodName) prog_251_method_4_code 1 (some .boolean)) ws ({ frames := 0, cells := 0, slots := 0, locals := 0 } : Room) #[(.ref w9)] h0 (Q3_48 Z w9 w1 w13 w14 w12 w16 w15 w17 w18 h0 n0) := by
  refine MetFree.of_bodySF (plainFor_of_name pn_1) hisR ?_
  intro p e s m args below meth c s₁ Bd hml0 hP hK
  obtain ⟨rfl, hZ, hh⟩ := hP
  have hx := Bd.exec
  have hby := Bd.bytes
  have hml : c.maxLocals = 1 := hml0
  have hown : s.vm.findClass "com/example/edictum/edictum/io/XpathTokens$Kind" = some m.cls := findClass_of_methodNamed Bd.named
  have hnm := (name_of_methodNamed Bd.named Bd.method).1
  have X0 : Stand p l e ({ frames := 0, cells := 0, slots := 0, locals := 0 } : Room) s m #[(.ref w9)] below meth c s₁ [] 0 0 := Stand.of_body Bd
  have e0 : s₁.heap = h0 := by rw [← hh, Bd.state]; rfl
  have N0 := Fr.nil n0
  have pre0 : ∀ t, SF p e below s₁ (mkF m 0 #[rv w9] []) t → SF p e below s₁ (entryFrame m #[(.ref w9)] 1) t := fun t k => castTop (ef_2 m w9) k
  obtain ⟨T1, X1, e1, st1⟩ := getS2 X0 hx hZ hown (host := "") (Or.inl (tw hw 36 rfl)) Via.refl e0 (S0.ext P2.2) (g := (mkF m 1 #[rv w9] [(.ref w9)])) rfl (hb hby d3_1)
  obtain ⟨T2, X2, e2, st2⟩ := getS2 X1 hx hZ hown (host := "") (Or.inl (tw hw 39 rfl)) Via.refl e1 (S24.ext P2.2) (g := (mkF m 8 #[rv w9] [(.ref w9)])) rfl (hb hby d3_8)
  obtain ⟨T3, X3, e3, st3⟩ := getS2 X2 hx hZ hown (host := "") (Or.inl (tw hw 41 rfl)) Via.refl e2 (S26.ext P2.2) (g := (mkF m 15 #[rv w9] [(.ref w9)])) rfl (hb hby d3_15)
  obtain ⟨T4, X4, e4, st4⟩ := getS2 X3 hx hZ hown (host := "") (Or.inl (tw hw 43 rfl)) Via.refl e3 (S22.ext P2.2) (g := (mkF m 22 #[rv w9] [(.ref w9)])) rfl (hb hby d3_22)
  obtain ⟨T5, X5, e5, st5⟩ := getS2 X4 hx hZ hown (host := "") (Or.inl (tw hw 48 rfl)) Via.refl e4 (S30.ext P2.2) (g := (mkF m 29 #[rv w9] [(.ref w9)])) rfl (hb hby d3_29)
  obtain ⟨T6, X6, e6, st6⟩ := getS2 X5 hx hZ hown (host := "") (Or.inl (tw hw 50 rfl)) Via.refl e5 (S28.ext P2.2) (g := (mkF m 36 #[rv w9] [(.ref w9)])) rfl (hb hby d3_36)
  obtain ⟨T7, X7, e7, st7⟩ := getS2 X6 hx hZ hown (host := "") (Or.inl (tw hw 51 rfl)) Via.refl e6 (S32.ext P2.2) (g := (mkF m 43 #[rv w9] [(.ref w9)])) rfl (hb hby d3_43)
  obtain ⟨T8, X8, e8, st8⟩ := getS2 X7 hx hZ hown (host := "") (Or.inl (tw hw 53 rfl)) Via.refl e7 (S34.ext P2.2) (g := (mkF m 50 #[rv w9] [(.ref w9)])) rfl (hb hby d3_50)
  obtain ⟨fs, hr, hrun, hended, hW, hsame⟩ := X8.leave (v := some (.int 0)) (fun h => by rw [Bd.returns] at h; cases h)
  refine ⟨_, _, pre0 _ ?_, hrun, hended, _, _, rfl, ?_, ⟨_, rfl⟩, hW, hsame.mono (by decide) (by decide)⟩
  · show SF p e below s₁ (mkF m 0 #[rv w9] []) _
    refine XS.aloadN X0.here hx rfl (hb hby d3_0) rfl rfl ?_
    show SF p e below s₁ (mkF m 1 #[rv w9] [(.ref w9)]) _
    refine st1 _ ?_
    show SF p e below T1 (mkF m 4 #[rv w9] [(.ref w1), (.ref w9)]) _
    refine Jvm.RoadKit.acmp (g := (mkF m 4 #[rv w9] [(.ref w1), (.ref w9)])) X1 hx rfl rfl rfl (pc0 := 4) (pc' := 7) (same := false) rfl (hb hby d3_4) rfl (decide_eq_false fun q => (Fld.ne F_w9_ordinal F_w1_ordinal (by decide)) (Value.ref.inj q)) (by decide) (by decide) ?_
    show SF p e below T1 (mkF m 7 #[rv w9] []) _
    refine XS.aloadN X1.here hx rfl (hb hby d3_7) rfl rfl ?_
    show SF p e below T1 (mkF m 8 #[rv w9] [(.ref w9)]) _
    refine st2 _ ?_
    show SF p e below T2 (mkF m 11 #[rv w9] [(.ref w13), (.ref w9)]) _
    refine Jvm.RoadKit.acmp (g := (mkF m 11 #[rv w9] [(.ref w13), (.ref w9)])) X2 hx rfl rfl rfl (pc0 := 11) (pc' := 14) (same := false) rfl (hb hby d3_11) rfl (decide_eq_false fun q => (Fld.ne F_w9_ordinal F_w13_ordinal (by decide)) (Value.ref.inj q)) (by decide) (by decide) ?_
    show SF p e below T2 (mkF m 14 #[rv w9] []) _
    refine XS.aloadN X2.here hx rfl (hb hby d3_14) rfl rfl ?_
    show SF p e below T2 (mkF m 15 #[rv w9] [(.ref w9)]) _
    refine st3 _ ?_
    show SF p e below T3 (mkF m 18 #[rv w9] [(.ref w14), (.ref w9)]) _
    refine Jvm.RoadKit.acmp (g := (mkF m 18 #[rv w9] [(.ref w14), (.ref w9)])) X3 hx rfl rfl rfl (pc0 := 18) (pc' := 21) (same := false) rfl (hb hby d3_18) rfl (decide_eq_false fun q => (Fld.ne F_w9_ordinal F_w14_ordinal (by decide)) (Value.ref.inj q)) (by decide) (by decide) ?_
    show SF p e below T3 (mkF m 21 #[rv w9] []) _
    refine XS.aloadN X3.here hx rfl (hb hby d3_21) rfl rfl ?_
    show SF p e below T3 (mkF m 22 #[rv w9] [(.ref w9)]) _
    refine st4 _ ?_
    show SF p e below T4 (mkF m 25 #[rv w9] [(.ref w12), (.ref w9)]) _
    refine Jvm.RoadKit.acmp (g := (mkF m 25 #[rv w9] [(.ref w12), (.ref w9)])) X4 hx rfl rfl rfl (pc0 := 25) (pc' := 28) (same := false) rfl (hb hby d3_25) rfl (decide_eq_false fun q => (Fld.ne F_w9_ordinal F_w12_ordinal (by decide)) (Value.ref.inj q)) (by decide) (by decide) ?_
    show SF p e below T4 (mkF m 28 #[rv w9] []) _
    refine XS.aloadN X4.here hx rfl (hb hby d3_28) rfl rfl ?_
    show SF p e below T4 (mkF m 29 #[rv w9] [(.ref w9)]) _
    refine st5 _ ?_
    show SF p e below T5 (mkF m 32 #[rv w9] [(.ref w16), (.ref w9)]) _
    refine Jvm.RoadKit.acmp (g := (mkF m 32 #[rv w9] [(.ref w16), (.ref w9)])) X5 hx rfl rfl rfl (pc0 := 32) (pc' := 35) (same := false) rfl (hb hby d3_32) rfl (decide_eq_false fun q => (Fld.ne F_w9_ordinal F_w16_ordinal (by decide)) (Value.ref.inj q)) (by decide) (by decide) ?_
    show SF p e below T5 (mkF m 35 #[rv w9] []) _
    refine XS.aloadN X5.here hx rfl (hb hby d3_35) rfl rfl ?_
    show SF p e below T5 (mkF m 36 #[rv w9] [(.ref w9)]) _
    refine st6 _ ?_
    show SF p e below T6 (mkF m 39 #[rv w9] [(.ref w15), (.ref w9)]) _
    refine Jvm.RoadKit.acmp (g := (mkF m 39 #[rv w9] [(.ref w15), (.ref w9)])) X6 hx rfl rfl rfl (pc0 := 39) (pc' := 42) (same := false) rfl (hb hby d3_39) rfl (decide_eq_false fun q => (Fld.ne F_w9_ordinal F_w15_ordinal (by decide)) (Value.ref.inj q)) (by decide) (by decide) ?_
    show SF p e below T6 (mkF m 42 #[rv w9] []) _
    refine XS.aloadN X6.here hx rfl (hb hby d3_42) rfl rfl ?_
    show SF p e below T6 (mkF m 43 #[rv w9] [(.ref w9)]) _
    refine st7 _ ?_
    show SF p e below T7 (mkF m 46 #[rv w9] [(.ref w17), (.ref w9)]) _
    refine Jvm.RoadKit.acmp (g := (mkF m 46 #[rv w9] [(.ref w17), (.ref w9)])) X7 hx rfl rfl rfl (pc0 := 46) (pc' := 49) (same := false) rfl (hb hby d3_46) rfl (decide_eq_false fun q => (Fld.ne F_w9_ordinal F_w17_ordinal (by decide)) (Value.ref.inj q)) (by decide) (by decide) ?_
    show SF p e below T7 (mkF m 49 #[rv w9] []) _
    refine XS.aloadN X7.here hx rfl (hb hby d3_49) rfl rfl ?_
    show SF p e below T7 (mkF m 50 #[rv w9] [(.ref w9)]) _
    refine st8 _ ?_
    show SF p e below T8 (mkF m 53 #[rv w9] [(.ref w18), (.ref w9)]) _
    refine Jvm.RoadKit.acmp (g := (mkF m 53 #[rv w9] [(.ref w18), (.ref w9)])) X8 hx rfl rfl rfl (pc0 := 53) (pc' := 60) (same := false) rfl (hb hby d3_53) rfl (decide_eq_false fun q => (Fld.ne F_w9_ordinal F_w18_ordinal (by decide)) (Value.ref.inj q)) (by decide) (by decide) ?_
    show SF p e below T8 (mkF m 60 #[rv w9] []) _
    refine XS.iconst X8.here hx rfl (hb hby d3_60) ?_
    show SF p e below T8 (mkF m 61 #[rv w9] [(.int 0)]) _
    exact retN X8 hx (t := .boolean) Bd.returns (by simp) (hb hby d3_61) hr
  · show Q3_48 Z w9 w1 w13 w14 w12 w16 w15 w17 w18 h0 n0 _ T8.heap _
    rw [e8]
    exact ⟨rfl, N0, rfl⟩
theorem d1_153 : decode method_2_code 153 = .ok (.iload_n 0, 1) := by decide +kernel
theorem d1_154 : decode method_2_code 154 = .ok (.bipush 16, 2) := by decide +kernel
theorem d1_156 : decode method_2_code 156 = .ok (.if_icmp .ne 7, 3) := by decide +kernel
theorem d1_159 : decode method_2_code 159 = .ok (.getstatic 58, 3) := by decide +kernel
theorem d1_162 : decode method_2_code 162 = .ok (.areturn, 1) := by decide +kernel
-- XpathTokensNamesNextPinLaw.kindOf 
def Q1_49 (Z : State) (w10 : Addr) (h0 : Heap) (n0 : Nat) (v : Option Value) (h : Heap) (L : List Loc) : Prop := v = some (.ref w10) ∧ Fr n0 L ∧ h = h0
set_option maxRecDepth 65536 in
set_option maxHeartbeats 40000000 in
theorem rm1_49 (l : Launch) (Z : State) (a0 : Array Value) (hw : HW Z a0) (ws : List Jvm.Cond) (w10 : Addr) (h0 : Heap) (n0 : Nat) (Z0 : n0 ≤ h0.size) (S18 : Sta Z Z.heap "com/example/edictum/edictum/io/XpathTokens$Kind" "LITERAL" "Lcom/example/edictum/edictum/io/XpathTokens$Kind;" (.ref w10)) (P2 : Old Z n0 h0) :
    MF l Z (⟨"com/example/edictum/edictum/io/XpathTokensNamesNextPinLaw", "kindOf", "(I)Lcom/example/edictum/edictum/io/XpathTokens$Kind;"⟩ : MethodName) (Jvm.Cond.code (⟨"com/example/edictum/edictum/io/XpathTokensNamesNextPinLaw", "kindOf", "(I)Lcom/example/edictum/edictum/io/XpathTokens$Kind;"⟩ : MethodName) method_2_code 1 (some (.object "com/example/edictum/edictum/io/XpathTokens$Kind"))) ws ({ frames := 0, cells := 0, slots := 0, locals := 0 } : Room) #[(.int 16)] h0 (Q1_49 Z w10 h0 n0) := by
  refine MetFree.of_bodySF (plainFor_of_name pn_0) hisR ?_
  intro p e s m args below meth c s₁ Bd hml0 hP hK
  obtain ⟨rfl, hZ, hh⟩ := hP
  have hx := Bd.exec
  have hby := Bd.bytes
  have hml : c.maxLocals = 1 := hml0
  have hown : s.vm.findClass "com/example/edictum/edictum/io/XpathTokensNamesNextPinLaw" = some m.cls := findClass_of_methodNamed Bd.named
  have hnm := (name_of_methodNamed Bd.named Bd.method).1
  have X0 : Stand p l e ({ frames := 0, cells := 0, slots := 0, locals := 0 } : Room) s m #[(.int 16)] below meth c s₁ [] 0 0 := Stand.of_body Bd
  have e0 : s₁.heap = h0 := by rw [← hh, Bd.state]; rfl
  have N0 := Fr.nil n0
  have pre0 : ∀ t, SF p e below s₁ (mkF m 0 #[iv 16] []) t → SF p e below s₁ (entryFrame m #[(.int 16)] 1) t := fun t k => castTop (ef_0 m (16 : Int32)) k
  obtain ⟨T1, X1, e1, st1⟩ := getS2 X0 hx hZ hown (host := "") (Or.inl (tw hw 27 rfl)) Via.refl e0 (S18.ext P2.2) (g := (mkF m 159 #[iv 16] [])) rfl (hb hby d1_159)
  obtain ⟨fs, hr, hrun, hended, hW, hsame⟩ := X1.leave (v := some (.ref w10)) (fun h => by rw [Bd.returns] at h; cases h)
  refine ⟨_, _, pre0 _ ?_, hrun, hended, _, _, rfl, ?_, ⟨_, rfl⟩, hW, hsame.mono (by decide) (by decide)⟩
  · show SF p e below s₁ (mkF m 0 #[iv 16] []) _
    refine XS.iloadN X0.here hx rfl (hb hby d1_0) rfl ?_
    show SF p e below s₁ (mkF m 1 #[iv 16] [(.int 16)]) _
    refine XS.ifYes X0.here hx rfl (pc0 := 1) (pc' := 8) rfl (hb hby d1_1) rfl ((if0 _ _).trans (feq (by decide : ¬ ((16 : Int32) = (0 : Int32)))).2) (by decide) (by decide) ?_
    show SF p e below s₁ (mkF m 8 #[iv 16] []) _
    refine XS.iloadN X0.here hx rfl (hb hby d1_8) rfl ?_
    show SF p e below s₁ (mkF m 9 #[iv 16] [(.int 16)]) _
    refine XS.iconst X0.here hx rfl (hb hby d1_9) ?_
    show SF p e below s₁ (mkF m 10 #[iv 16] [(.int 1), (.int 16)]) _
    refine XS.icmpYes X0.here hx rfl (pc0 := 10) (pc' := 17) rfl (hb hby d1_10) rfl (feq (by decide : ¬ ((16 : Int32) = (1 : Int32)))).2 (by decide) (by decide) ?_
    show SF p e below s₁ (mkF m 17 #[iv 16] []) _
    refine XS.iloadN X0.here hx rfl (hb hby d1_17) rfl ?_
    show SF p e below s₁ (mkF m 18 #[iv 16] [(.int 16)]) _
    refine XS.iconst X0.here hx rfl (hb hby d1_18) ?_
    show SF p e below s₁ (mkF m 19 #[iv 16] [(.int 2), (.int 16)]) _
    refine XS.icmpYes X0.here hx rfl (pc0 := 19) (pc' := 26) rfl (hb hby d1_19) rfl (feq (by decide : ¬ ((16 : Int32) = (2 : Int32)))).2 (by decide) (by decide) ?_
    show SF p e below s₁ (mkF m 26 #[iv 16] []) _
    refine XS.iloadN X0.here hx rfl (hb hby d1_26) rfl ?_
    show SF p e below s₁ (mkF m 27 #[iv 16] [(.int 16)]) _
    refine XS.iconst X0.here hx rfl (hb hby d1_27) ?_
    show SF p e below s₁ (mkF m 28 #[iv 16] [(.int 3), (.int 16)]) _
    refine XS.icmpYes X0.here hx rfl (pc0 := 28) (pc' := 35) rfl (hb hby d1_28) rfl (feq (by decide : ¬ ((16 : Int32) = (3 : Int32)))).2 (by decide) (by decide) ?_
    show SF p e below s₁ (mkF m 35 #[iv 16] []) _
    refine XS.iloadN X0.here hx rfl (hb hby d1_35) rfl ?_
    show SF p e below s₁ (mkF m 36 #[iv 16] [(.int 16)]) _
    refine XS.iconst X0.here hx rfl (hb hby d1_36) ?_
    show SF p e below s₁ (mkF m 37 #[iv 16] [(.int 4), (.int 16)]) _
    refine XS.icmpYes X0.here hx rfl (pc0 := 37) (pc' := 44) rfl (hb hby d1_37) rfl (feq (by decide : ¬ ((16 : Int32) = (4 : Int32)))).2 (by decide) (by decide) ?_
    show SF p e below s₁ (mkF m 44 #[iv 16] []) _
    refine XS.iloadN X0.here hx rfl (hb hby d1_44) rfl ?_
    show SF p e below s₁ (mkF m 45 #[iv 16] [(.int 16)]) _
    refine XS.iconst X0.here hx rfl (hb hby d1_45) ?_
    show SF p e below s₁ (mkF m 46 #[iv 16] [(.int 5), (.int 16)]) _
    refine XS.icmpYes X0.here hx rfl (pc0 := 46) (pc' := 53) rfl (hb hby d1_46) rfl (feq (by decide : ¬ ((16 : Int32) = (5 : Int32)))).2 (by decide) (by decide) ?_
    show SF p e below s₁ (mkF m 53 #[iv 16] []) _
    refine XS.iloadN X0.here hx rfl (hb hby d1_53) rfl ?_
    show SF p e below s₁ (mkF m 54 #[iv 16] [(.int 16)]) _
    refine XS.bipush X0.here hx rfl (hb hby d1_54) ?_
    show SF p e below s₁ (mkF m 56 #[iv 16] [(.int 6), (.int 16)]) _
    refine XS.icmpYes X0.here hx rfl (pc0 := 56) (pc' := 63) rfl (hb hby d1_56) rfl (feq (by decide : ¬ ((16 : Int32) = (6 : Int32)))).2 (by decide) (by decide) ?_
    show SF p e below s₁ (mkF m 63 #[iv 16] []) _
    refine XS.iloadN X0.here hx rfl (hb hby d1_63) rfl ?_
    show SF p e below s₁ (mkF m 64 #[iv 16] [(.int 16)]) _
    refine XS.bipush X0.here hx rfl (hb hby d1_64) ?_
    show SF p e below s₁ (mkF m 66 #[iv 16] [(.int 7), (.int 16)]) _
    refine XS.icmpYes X0.here hx rfl (pc0 := 66) (pc' := 73) rfl (hb hby d1_66) rfl (feq (by decide : ¬ ((16 : Int32) = (7 : Int32)))).2 (by decide) (by decide) ?_
    show SF p e below s₁ (mkF m 73 #[iv 16] []) _
    refine XS.iloadN X0.here hx rfl (hb hby d1_73) rfl ?_
    show SF p e below s₁ (mkF m 74 #[iv 16] [(.int 16)]) _
    refine XS.bipush X0.here hx rfl (hb hby d1_74) ?_
    show SF p e below s₁ (mkF m 76 #[iv 16] [(.int 8), (.int 16)]) _
    refine XS.icmpYes X0.here hx rfl (pc0 := 76) (pc' := 83) rfl (hb hby d1_76) rfl (feq (by decide : ¬ ((16 : Int32) = (8 : Int32)))).2 (by decide) (by decide) ?_
    show SF p e below s₁ (mkF m 83 #[iv 16] []) _
    refine XS.iloadN X0.here hx rfl (hb hby d1_83) rfl ?_
    show SF p e below s₁ (mkF m 84 #[iv 16] [(.int 16)]) _
    refine XS.bipush X0.here hx rfl (hb hby d1_84) ?_
    show SF p e below s₁ (mkF m 86 #[iv 16] [(.int 9), (.int 16)]) _
    refine XS.icmpYes X0.here hx rfl (pc0 := 86) (pc' := 93) rfl (hb hby d1_86) rfl (feq (by decide : ¬ ((16 : Int32) = (9 : Int32)))).2 (by decide) (by decide) ?_
    show SF p e below s₁ (mkF m 93 #[iv 16] []) _
    refine XS.iloadN X0.here hx rfl (hb hby d1_93) rfl ?_
    show SF p e below s₁ (mkF m 94 #[iv 16] [(.int 16)]) _
    refine XS.bipush X0.here hx rfl (hb hby d1_94) ?_
    show SF p e below s₁ (mkF m 96 #[iv 16] [(.int 10), (.int 16)]) _
    refine XS.icmpYes X0.here hx rfl (pc0 := 96) (pc' := 103) rfl (hb hby d1_96) rfl (feq (by decide : ¬ ((16 : Int32) = (10 : Int32)))).2 (by decide) (by decide) ?_
    show SF p e below s₁ (mkF m 103 #[iv 16] []) _
    refine XS.iloadN X0.here hx rfl (hb hby d1_103) rfl ?_
    show SF p e below s₁ (mkF m 104 #[iv 16] [(.int 16)]) _
    refine XS.bipush X0.here hx rfl (hb hby d1_104) ?_
    show SF p e below s₁ (mkF m 106 #[iv 16] [(.int 11), (.int 16)]) _
    refine XS.icmpYes X0.here hx rfl (pc0 := 106) (pc' := 113) rfl (hb hby d1_106) rfl (feq (by decide : ¬ ((16 : Int32) = (11 : Int32)))).2 (by decide) (by decide) ?_
    show SF p e below s₁ (mkF m 113 #[iv 16] []) _
    refine XS.iloadN X0.here hx rfl (hb hby d1_113) rfl ?_
    show SF p e below s₁ (mkF m 114 #[iv 16] [(.int 16)]) _
    refine XS.bipush X0.here hx rfl (hb hby d1_114) ?_
    show SF p e below s₁ (mkF m 116 #[iv 16] [(.int 12), (.int 16)]) _
    refine XS.icmpYes X0.here hx rfl (pc0 := 116) (pc' := 123) rfl (hb hby d1_116) rfl (feq (by decide : ¬ ((16 : Int32) = (12 : Int32)))).2 (by decide) (by decide) ?_
    show SF p e below s₁ (mkF m 123 #[iv 16] []) _
    refine XS.iloadN X0.here hx rfl (hb hby d1_123) rfl ?_
    show SF p e below s₁ (mkF m 124 #[iv 16] [(.int 16)]) _
    refine XS.bipush X0.here hx rfl (hb hby d1_124) ?_
    show SF p e below s₁ (mkF m 126 #[iv 16] [(.int 13), (.int 16)]) _
    refine XS.icmpYes X0.here hx rfl (pc0 := 126) (pc' := 133) rfl (hb hby d1_126) rfl (feq (by decide : ¬ ((16 : Int32) = (13 : Int32)))).2 (by decide) (by decide) ?_
    show SF p e below s₁ (mkF m 133 #[iv 16] []) _
    refine XS.iloadN X0.here hx rfl (hb hby d1_133) rfl ?_
    show SF p e below s₁ (mkF m 134 #[iv 16] [(.int 16)]) _
    refine XS.bipush X0.here hx rfl (hb hby d1_134) ?_
    show SF p e below s₁ (mkF m 136 #[iv 16] [(.int 14), (.int 16)]) _
    refine XS.icmpYes X0.here hx rfl (pc0 := 136) (pc' := 143) rfl (hb hby d1_136) rfl (feq (by decide : ¬ ((16 : Int32) = (14 : Int32)))).2 (by decide) (by decide) ?_
    show SF p e below s₁ (mkF m 143 #[iv 16] []) _
    refine XS.iloadN X0.here hx rfl (hb hby d1_143) rfl ?_
    show SF p e below s₁ (mkF m 144 #[iv 16] [(.int 16)]) _
    refine XS.bipush X0.here hx rfl (hb hby d1_144) ?_
    show SF p e below s₁ (mkF m 146 #[iv 16] [(.int 15), (.int 16)]) _
    refine XS.icmpYes X0.here hx rfl (pc0 := 146) (pc' := 153) rfl (hb hby d1_146) rfl (feq (by decide : ¬ ((16 : Int32) = (15 : Int32)))).2 (by decide) (by decide) ?_
    show SF p e below s₁ (mkF m 153 #[iv 16] []) _
    refine XS.iloadN X0.here hx rfl (hb hby d1_153) rfl ?_
    show SF p e below s₁ (mkF m 154 #[iv 16] [(.int 16)]) _
    refine XS.bipush X0.here hx rfl (hb hby d1_154) ?_
    show SF p e below s₁ (mkF m 156 #[iv 16] [(.int 16), (.int 16)]) _
    refine XS.icmpNo X0.here hx rfl (hb hby d1_156) rfl (teq (by decide : (16 : Int32) = (16 : Int32))).2 ?_
    show SF p e below s₁ (mkF m 159 #[iv 16] []) _
    refine st1 _ ?_
    show SF p e below T1 (mkF m 162 #[iv 16] [(.ref w10)]) _
    exact own_retR X1 hx Bd.returns rfl rfl (hb hby d1_162) hr
  · show Q1_49 Z w10 h0 n0 _ T1.heap _
    rw [e1]
    exact ⟨rfl, N0, rfl⟩
-- XpathTokensNamesNextPinLaw.endsOperand 
def Q2_50 (Z : State) (w10 : Addr) (w2 : Addr) (w3 : Addr) (w4 : Addr) (w5 : Addr) (w6 : Addr) (w7 : Addr) (w8 : Addr) (w9 : Addr) (h0 : Heap) (n0 : Nat) (v : Option Value) (h : Heap) (L : List Loc) : Prop := v = some (.int 1) ∧ Fr n0 L ∧ h = h0
set_option maxRecDepth 65536 in
set_option maxHeartbeats 40000000 in
theorem rm2_50 (l : Launch) (Z : State) (a0 : Array Value) (hw : HW Z a0) (ws : List Jvm.Cond) (w10 : Addr) (w2 : Addr) (w3 : Addr) (w4 : Addr) (w5 : Addr) (w6 : Addr) (w7 : Addr) (w8 : Addr) (w9 : Addr) (h0 : Heap) (n0 : Nat) (Z0 : n0 ≤ h0.size) (S2 : Sta Z Z.heap "com/example/edictum/edictum/io/XpathTokens$Kind" "RIGHT_PAREN" "Lcom/example/edictum/edictum/io/XpathTokens$Kind;" (.ref w2)) (P2 : Old Z n0 h0) (F_w10_ordinal : Fld Z Z.heap w10 "java/lang/Enum" "ordinal" "I" (.int 16)) (F_w2_ordinal : Fld Z Z.heap w2 "java/lang/Enum" "ordinal" "I" (.int 5)) (S4 : Sta Z Z.heap "com/example/edictum/edictum/io/XpathTokens$Kind" "RIGHT_BRACKET" "Lcom/example/edictum/edictum/io/XpathTokens$Kind;" (.ref w3)) (F_w3_ordinal : Fld Z Z.heap w3 "java/lang/Enum" "ordinal" "I" (.int 6)) (S6 : Sta Z Z.heap "com/example/edictum/edictum/io/XpathTokens$Kind" "AXIS" "Lcom/example/edictum/edictum/io/XpathTokens$Kind;" (.ref w4)) (F_w4_ordinal : Fld Z Z.heap w4 "java/lang/Enum" "ordinal" "I" (.int 10)) (S8 : Sta Z Z.heap "com/example/edictum/edictum/io/XpathTokens$Kind" "FUNCTION" "Lcom/example/edictum/edictum/io/XpathTokens$Kind;" (.ref w5)) (F_w5_ordinal : Fld Z Z.heap w5 "java/lang/Enum" "ordinal" "I" (.int 11)) (S10 : Sta Z Z.heap "com/example/edictum/edictum/io/XpathTokens$Kind" "NODE_TYPE" "Lcom/example/edictum/edictum/io/XpathTokens$Kind;" (.ref w6)) (F_w6_ordinal : Fld Z Z.heap w6 "java/lang/Enum" "ordinal" "I" (.int 12)) (S12 : Sta Z Z.heap "com/example/edictum/edictum/io/XpathTokens$Kind" "NAME_TEST" "Lcom/example/edictum/edictum/io/XpathTokens$Kind;" (.ref w7)) (F_w7_ordinal : Fld Z Z.heap w7 "java/lang/Enum" "ordinal" "I" (.int 13)) (S14 : Sta Z Z.heap "com/example/edictum/edictum/io/XpathTokens$Kind" "DOT" "Lcom/example/edictum/edictum/io/XpathTokens$Kind;" (.ref w8)) (F_w8_ordinal : Fld Z Z.heap w8 "java/lang/Enum" "ordinal" "I" (.int 14)) (S16 : Sta Z Z.heap "com/example/edictum/edictum/io/XpathTokens$Kind" "DOT_DOT" "Lcom/example/edictum/edictum/io/XpathTokens$Kind;" (.ref w9)) (F_w9_ordinal : Fld Z Z.heap w9 "java/lang/Enum" "ordinal" "I" (.int 15)) (S18 : Sta Z Z.heap "com/example/edictum/edictum/io/XpathTokens$Kind" "LITERAL" "Lcom/example/edictum/edictum/io/XpathTokens$Kind;" (.ref w10)) :
    MF l Z (⟨"com/example/edictum/edictum/io/XpathTokensNamesNextPinLaw", "endsOperand", "(Lcom/example/edictum/edictum/io/XpathTokens$Kind;)Z"⟩ : MethodName) (Jvm.Cond.code (⟨"com/example/edictum/edictum/io/XpathTokensNamesNextPinLaw", "endsOperand", "(Lcom/example/edictum/edictum/io/XpathTokens$Kind;)Z"⟩ : MethodName) method_3_code 1 (some .boolean)) ws ({ frames := 0, cells := 0, slots := 0, locals := 0 } : Room) #[(.ref w10)] h0 (Q2_50 Z w10 w2 w3 w4 w5 w6 w7 w8 w9 h0 n0) := by
  refine MetFree.of_bodySF (plainFor_of_name pn_0) hisR ?_
  intro p e s m args below meth c s₁ Bd hml0 hP hK
  obtain ⟨rfl, hZ, hh⟩ := hP
  have hx := Bd.exec
  have hby := Bd.bytes
  have hml : c.maxLocals = 1 := hml0
  have hown : s.vm.findClass "com/example/edictum/edictum/io/XpathTokensNamesNextPinLaw" = some m.cls := findClass_of_methodNamed Bd.named
  have hnm := (name_of_methodNamed Bd.named Bd.method).1
  have X0 : Stand p l e ({ frames := 0, cells := 0, slots := 0, locals := 0 } : Room) s m #[(.ref w10)] below meth c s₁ [] 0 0 := Stand.of_body Bd
  have e0 : s₁.heap = h0 := by rw [← hh, Bd.state]; rfl
  have N0 := Fr.nil n0
  have pre0 : ∀ t, SF p e below s₁ (mkF m 0 #[rv w10] []) t → SF p e below s₁ (entryFrame m #[(.ref w10)] 1) t := fun t k => castTop (ef_1 m w10) k
  obtain ⟨T1, X1, e1, st1⟩ := getS2 X0 hx hZ hown (host := "") (Or.inl (tw hw 11 rfl)) Via.refl e0 (S2.ext P2.2) (g := (mkF m 1 #[rv w10] [(.ref w10)])) rfl (hb hby d2_1)
  obtain ⟨T2, X2, e2, st2⟩ := getS2 X1 hx hZ hown (host := "") (Or.inl (tw hw 13 rfl)) Via.refl e1 (S4.ext P2.2) (g := (mkF m 8 #[rv w10] [(.ref w10)])) rfl (hb hby d2_8)
  obtain ⟨T3, X3, e3, st3⟩ := getS2 X2 hx hZ hown (host := "") (Or.inl (tw hw 15 rfl)) Via.refl e2 (S6.ext P2.2) (g := (mkF m 15 #[rv w10] [(.ref w10)])) rfl (hb hby d2_15)
  obtain ⟨T4, X4, e4, st4⟩ := getS2 X3 hx hZ hown (host := "") (Or.inl (tw hw 17 rfl)) Via.refl e3 (S8.ext P2.2) (g := (mkF m 22 #[rv w10] [(.ref w10)])) rfl (hb hby d2_22)
  obtain ⟨T5, X5, e5, st5⟩ := getS2 X4 hx hZ hown (host := "") (Or.inl (tw hw 19 rfl)) Via.refl e4 (S10.ext P2.2) (g := (mkF m 29 #[rv w10] [(.ref w10)])) rfl (hb hby d2_29)
  obtain ⟨T6, X6, e6, st6⟩ := getS2 X5 hx hZ hown (host := "") (Or.inl (tw hw 21 rfl)) Via.refl e5 (S12.ext P2.2) (g := (mkF m 36 #[rv w10] [(.ref w10)])) rfl (hb hby d2_36)
  obtain ⟨T7, X7, e7, st7⟩ := getS2 X6 hx hZ hown (host := "") (Or.inl (tw hw 23 rfl)) Via.refl e6 (S14.ext P2.2) (g := (mkF m 43 #[rv w10] [(.ref w10)])) rfl (hb hby d2_43)
  obtain ⟨T8, X8, e8, st8⟩ := getS2 X7 hx hZ hown (host := "") (Or.inl (tw hw 25 rfl)) Via.refl e7 (S16.ext P2.2) (g := (mkF m 50 #[rv w10] [(.ref w10)])) rfl (hb hby d2_50)
  obtain ⟨T9, X9, e9, st9⟩ := getS2 X8 hx hZ hown (host := "") (Or.inl (tw hw 27 rfl)) Via.refl e8 (S18.ext P2.2) (g := (mkF m 57 #[rv w10] [(.ref w10)])) rfl (hb hby d2_57)
  obtain ⟨fs, hr, hrun, hended, hW, hsame⟩ := X9.leave (v := some (.int 1)) (fun h => by rw [Bd.returns] at h; cases h)
  refine ⟨_, _, pre0 _ ?_, hrun, hended, _, _, rfl, ?_, ⟨_, rfl⟩, hW, hsame.mono (by decide) (by decide)⟩
  · show SF p e below s₁ (mkF m 0 #[rv w10] []) _
    refine XS.aloadN X0.here hx rfl (hb hby d2_0) rfl rfl ?_
    show SF p e below s₁ (mkF m 1 #[rv w10] [(.ref w10)]) _
    refine st1 _ ?_
    show SF p e below T1 (mkF m 4 #[rv w10] [(.ref w2), (.ref w10)]) _
    refine Jvm.RoadKit.acmp (g := (mkF m 4 #[rv w10] [(.ref w2), (.ref w10)])) X1 hx rfl rfl rfl (pc0 := 4) (pc' := 7) (same := false) rfl (hb hby d2_4) rfl (decide_eq_false fun q => (Fld.ne F_w10_ordinal F_w2_ordinal (by decide)) (Value.ref.inj q)) (by decide) (by decide) ?_
    show SF p e below T1 (mkF m 7 #[rv w10] []) _
    refine XS.aloadN X1.here hx rfl (hb hby d2_7) rfl rfl ?_
    show SF p e below T1 (mkF m 8 #[rv w10] [(.ref w10)]) _
    refine st2 _ ?_
    show SF p e below T2 (mkF m 11 #[rv w10] [(.ref w3), (.ref w10)]) _
    refine Jvm.RoadKit.acmp (g := (mkF m 11 #[rv w10] [(.ref w3), (.ref w10)])) X2 hx rfl rfl rfl (pc0 := 11) (pc' := 14) (same := false) rfl (hb hby d2_11) rfl (decide_eq_false fun q => (Fld.ne F_w10_ordinal F_w3_ordinal (by decide)) (Value.ref.inj q)) (by decide) (by decide) ?_
    show SF p e below T2 (mkF m 14 #[rv w10] []) _
    refine XS.aloadN X2.here hx rfl (hb hby d2_14) rfl rfl ?_
    show SF p e below T2 (mkF m 15 #[rv w10] [(.ref w10)]) _
    refine st3 _ ?_
    show SF p e below T3 (mkF m 18 #[rv w10] [(.ref w4), (.ref w10)]) _
    refine Jvm.RoadKit.acmp (g := (mkF m 18 #[rv w10] [(.ref w4), (.ref w10)])) X3 hx rfl rfl rfl (pc0 := 18) (pc' := 21) (same := false) rfl (hb hby d2_18) rfl (decide_eq_false fun q => (Fld.ne F_w10_ordinal F_w4_ordinal (by decide)) (Value.ref.inj q)) (by decide) (by decide) ?_
    show SF p e below T3 (mkF m 21 #[rv w10] []) _
    refine XS.aloadN X3.here hx rfl (hb hby d2_21) rfl rfl ?_
    show SF p e below T3 (mkF m 22 #[rv w10] [(.ref w10)]) _
    refine st4 _ ?_
    show SF p e below T4 (mkF m 25 #[rv w10] [(.ref w5), (.ref w10)]) _
    refine Jvm.RoadKit.acmp (g := (mkF m 25 #[rv w10] [(.ref w5), (.ref w10)])) X4 hx rfl rfl rfl (pc0 := 25) (pc' := 28) (same := false) rfl (hb hby d2_25) rfl (decide_eq_false fun q => (Fld.ne F_w10_ordinal F_w5_ordinal (by decide)) (Value.ref.inj q)) (by decide) (by decide) ?_
    show SF p e below T4 (mkF m 28 #[rv w10] []) _
    refine XS.aloadN X4.here hx rfl (hb hby d2_28) rfl rfl ?_
    show SF p e below T4 (mkF m 29 #[rv w10] [(.ref w10)]) _
    refine st5 _ ?_
    show SF p e below T5 (mkF m 32 #[rv w10] [(.ref w6), (.ref w10)]) _
    refine Jvm.RoadKit.acmp (g := (mkF m 32 #[rv w10] [(.ref w6), (.ref w10)])) X5 hx rfl rfl rfl (pc0 := 32) (pc' := 35) (same := false) rfl (hb hby d2_32) rfl (decide_eq_false fun q => (Fld.ne F_w10_ordinal F_w6_ordinal (by decide)) (Value.ref.inj q)) (by decide) (by decide) ?_
    show SF p e below T5 (mkF m 35 #[rv w10] []) _
    refine XS.aloadN X5.here hx rfl (hb hby d2_35) rfl rfl ?_
    show SF p e below T5 (mkF m 36 #[rv w10] [(.ref w10)]) _
    refine st6 _ ?_
    show SF p e below T6 (mkF m 39 #[rv w10] [(.ref w7), (.ref w10)]) _
    refine Jvm.RoadKit.acmp (g := (mkF m 39 #[rv w10] [(.ref w7), (.ref w10)])) X6 hx rfl rfl rfl (pc0 := 39) (pc' := 42) (same := false) rfl (hb hby d2_39) rfl (decide_eq_false fun q => (Fld.ne F_w10_ordinal F_w7_ordinal (by decide)) (Value.ref.inj q)) (by decide) (by decide) ?_
    show SF p e below T6 (mkF m 42 #[rv w10] []) _
    refine XS.aloadN X6.here hx rfl (hb hby d2_42) rfl rfl ?_
    show SF p e below T6 (mkF m 43 #[rv w10] [(.ref w10)]) _
    refine st7 _ ?_
    show SF p e below T7 (mkF m 46 #[rv w10] [(.ref w8), (.ref w10)]) _
    refine Jvm.RoadKit.acmp (g := (mkF m 46 #[rv w10] [(.ref w8), (.ref w10)])) X7 hx rfl rfl rfl (pc0 := 46) (pc' := 49) (same := false) rfl (hb hby d2_46) rfl (decide_eq_false fun q => (Fld.ne F_w10_ordinal F_w8_ordinal (by decide)) (Value.ref.inj q)) (by decide) (by decide) ?_
    show SF p e below T7 (mkF m 49 #[rv w10] []) _
    refine XS.aloadN X7.here hx rfl (hb hby d2_49) rfl rfl ?_
    show SF p e below T7 (mkF m 50 #[rv w10] [(.ref w10)]) _
    refine st8 _ ?_
    show SF p e below T8 (mkF m 53 #[rv w10] [(.ref w9), (.ref w10)]) _
    refine Jvm.RoadKit.acmp (g := (mkF m 53 #[rv w10] [(.ref w9), (.ref w10)])) X8 hx rfl rfl rfl (pc0 := 53) (pc' := 56) (same := false) rfl (hb hby d2_53) rfl (decide_eq_false fun q => (Fld.ne F_w10_ordinal F_w9_ordinal (by decide)) (Value.ref.inj q)) (by decide) (by decide) ?_
    show SF p e below T8 (mkF m 56 #[rv w10] []) _
    refine XS.aloadN X8.here hx rfl (hb hby d2_56) rfl rfl ?_
    show SF p e below T8 (mkF m 57 #[rv w10] [(.ref w10)]) _
    refine st9 _ ?_
    show SF p e below T9 (mkF m 60 #[rv w10] [(.ref w10), (.ref w10)]) _
    refine Jvm.RoadKit.acmp (g := (mkF m 60 #[rv w10] [(.ref w10), (.ref w10)])) X9 hx rfl rfl rfl (pc0 := 60) (pc' := 70) (same := true) rfl (hb hby d2_60) rfl (decide_eq_true rfl) (by decide) (by decide) ?_
    show SF p e below T9 (mkF m 70 #[rv w10] []) _
    refine XS.iconst X9.here hx rfl (hb hby d2_70) ?_
    show SF p e below T9 (mkF m 71 #[rv w10] [(.int 1)]) _
    refine XS.goto X9.here hx rfl (pc0 := 71) (pc' := 75) rfl (hb hby d2_71) (by decide) (by decide) ?_
    show SF p e below T9 (mkF m 75 #[rv w10] [(.int 1)]) _
    exact retN X9 hx (t := .boolean) Bd.returns (by simp) (hb hby d2_75) hr
  · show Q2_50 Z w10 w2 w3 w4 w5 w6 w7 w8 w9 h0 n0 _ T9.heap _
    rw [e9]
    exact ⟨rfl, N0, rfl⟩
-- XpathTokens$Kind.namesNext 
def Q3_51 (Z : State) (w10 : Addr) (w1 : Addr) (w13 : Addr) (w14 : Addr) (w12 : Addr) (w16 : Addr) (w15 : Addr) (w17 : Addr) (w18 : Addr) (h0 : Heap) (n0 : Nat) (v : Option Value) (h : Heap) (L : List Loc) : Prop := v = some (.int 0) ∧ Fr n0 L ∧ h = h0
set_option maxRecDepth 65536 in
set_option maxHeartbeats 40000000 in
theorem rm3_51 (l : Launch) (Z : State) (a0 : Array Value) (hw : HW Z a0) (ws : List Jvm.Cond) (w10 : Addr) (w1 : Addr) (w13 : Addr) (w14 : Addr) (w12 : Addr) (w16 : Addr) (w15 : Addr) (w17 : Addr) (w18 : Addr) (h0 : Heap) (n0 : Nat) (Z0 : n0 ≤ h0.size) (S0 : Sta Z Z.heap "com/example/edictum/edictum/io/XpathTokens$Kind" "AT" "Lcom/example/edictum/edictum/io/XpathTokens$Kind;" (.ref w1)) (P2 : Old Z n0 h0) (F_w10_ordinal : Fld Z Z.heap w10 "java/lang/Enum" "ordinal" "I" (.int 16)) (F_w1_ordinal : Fld Z Z.heap w1 "java/lang/Enum" "ordinal" "I" (.int 0)) (S24 : Sta Z Z.heap "com/example/edictum/edictum/io/XpathTokens$Kind" "AXIS_SEPARATOR" "Lcom/example/edictum/edictum/io/XpathTokens$Kind;" (.ref w13)) (F_w13_ordinal : Fld Z Z.heap w13 "java/lang/Enum" "ordinal" "I" (.int 1)) (S26 : Sta Z Z.heap "com/example/edictum/edictum/io/XpathTokens$Kind" "LEFT_PAREN" "Lcom/example/edictum/edictum/io/XpathTokens$Kind;" (.ref w14)) (F_w14_ordinal : Fld Z Z.heap w14 "java/lang/Enum" "ordinal" "I" (.int 2)) (S22 : Sta Z Z.heap "com/example/edictum/edictum/io/XpathTokens$Kind" "LEFT_BRACKET" "Lcom/example/edictum/edictum/io/XpathTokens$Kind;" (.ref w12)) (F_w12_ordinal : Fld Z Z.heap w12 "java/lang/Enum" "ordinal" "I" (.int 3)) (S30 : Sta Z Z.heap "com/example/edictum/edictum/io/XpathTokens$Kind" "COMMA" "Lcom/example/edictum/edictum/io/XpathTokens$Kind;" (.ref w16)) (F_w16_ordinal : Fld Z Z.heap w16 "java/lang/Enum" "ordinal" "I" (.int 4)) (S28 : Sta Z Z.heap "com/example/edictum/edictum/io/XpathTokens$Kind" "SLASH" "Lcom/example/edictum/edictum/io/XpathTokens$Kind;" (.ref w15)) (F_w15_ordinal : Fld Z Z.heap w15 "java/lang/Enum" "ordinal" "I" (.int 7)) (S32 : Sta Z Z.heap "com/example/edictum/edictum/io/XpathTokens$Kind" "DOUBLE_SLASH" "Lcom/example/edictum/edictum/io/XpathTokens$Kind;" (.ref w17)) (F_w17_ordinal : Fld Z Z.heap w17 "java/lang/Enum" "ordinal" "I" (.int 8)) (S34 : Sta Z Z.heap "com/example/edictum/edictum/io/XpathTokens$Kind" "OPERATOR" "Lcom/example/edictum/edictum/io/XpathTokens$Kind;" (.ref w18)) (F_w18_ordinal : Fld Z Z.heap w18 "java/lang/Enum" "ordinal" "I" (.int 9)) :
    MF l Z (⟨"com/example/edictum/edictum/io/XpathTokens$Kind", "namesNext", "()Z"⟩ : MethodName) (Jvm.Cond.code (⟨"com/example/edictum/edictum/io/XpathTokens$Kind", "namesNext", "()Z"⟩ : MethodName) prog_251_method_4_code 1 (some .boolean)) ws ({ frames := 0, cells := 0, slots := 0, locals := 0 } : Room) #[(.ref w10)] h0 (Q3_51 Z w10 w1 w13 w14 w12 w16 w15 w17 w18 h0 n0) := by
  refine MetFree.of_bodySF (plainFor_of_name pn_1) hisR ?_
  intro p e s m args below meth c s₁ Bd hml0 hP hK
  obtain ⟨rfl, hZ, hh⟩ := hP
  have hx := Bd.exec
  have hby := Bd.bytes
  have hml : c.maxLocals = 1 := hml0
  have hown : s.vm.findClass "com/example/edictum/edictum/io/XpathTokens$Kind" = some m.cls := findClass_of_methodNamed Bd.named
  have hnm := (name_of_methodNamed Bd.named Bd.method).1
  have X0 : Stand p l e ({ frames := 0, cells := 0, slots := 0, locals := 0 } : Room) s m #[(.ref w10)] below meth c s₁ [] 0 0 := Stand.of_body Bd
  have e0 : s₁.heap = h0 := by rw [← hh, Bd.state]; rfl
  have N0 := Fr.nil n0
  have pre0 : ∀ t, SF p e below s₁ (mkF m 0 #[rv w10] []) t → SF p e below s₁ (entryFrame m #[(.ref w10)] 1) t := fun t k => castTop (ef_2 m w10) k
  obtain ⟨T1, X1, e1, st1⟩ := getS2 X0 hx hZ hown (host := "") (Or.inl (tw hw 36 rfl)) Via.refl e0 (S0.ext P2.2) (g := (mkF m 1 #[rv w10] [(.ref w10)])) rfl (hb hby d3_1)
  obtain ⟨T2, X2, e2, st2⟩ := getS2 X1 hx hZ hown (host := "") (Or.inl (tw hw 39 rfl)) Via.refl e1 (S24.ext P2.2) (g := (mkF m 8 #[rv w10] [(.ref w10)])) rfl (hb hby d3_8)
  obtain ⟨T3, X3, e3, st3⟩ := getS2 X2 hx hZ hown (host := "") (Or.inl (tw hw 41 rfl)) Via.refl e2 (S26.ext P2.2) (g := (mkF m 15 #[rv w10] [(.ref w10)])) rfl (hb hby d3_15)
  obtain ⟨T4, X4, e4, st4⟩ := getS2 X3 hx hZ hown (host := "") (Or.inl (tw hw 43 rfl)) Via.refl e3 (S22.ext P2.2) (g := (mkF m 22 #[rv w10] [(.ref w10)])) rfl (hb hby d3_22)
  obtain ⟨T5, X5, e5, st5⟩ := getS2 X4 hx hZ hown (host := "") (Or.inl (tw hw 48 rfl)) Via.refl e4 (S30.ext P2.2) (g := (mkF m 29 #[rv w10] [(.ref w10)])) rfl (hb hby d3_29)
  obtain ⟨T6, X6, e6, st6⟩ := getS2 X5 hx hZ hown (host := "") (Or.inl (tw hw 50 rfl)) Via.refl e5 (S28.ext P2.2) (g := (mkF m 36 #[rv w10] [(.ref w10)])) rfl (hb hby d3_36)
  obtain ⟨T7, X7, e7, st7⟩ := getS2 X6 hx hZ hown (host := "") (Or.inl (tw hw 51 rfl)) Via.refl e6 (S32.ext P2.2) (g := (mkF m 43 #[rv w10] [(.ref w10)])) rfl (hb hby d3_43)
  obtain ⟨T8, X8, e8, st8⟩ := getS2 X7 hx hZ hown (host := "") (Or.inl (tw hw 53 rfl)) Via.refl e7 (S34.ext P2.2) (g := (mkF m 50 #[rv w10] [(.ref w10)])) rfl (hb hby d3_50)
  obtain ⟨fs, hr, hrun, hended, hW, hsame⟩ := X8.leave (v := some (.int 0)) (fun h => by rw [Bd.returns] at h; cases h)
  refine ⟨_, _, pre0 _ ?_, hrun, hended, _, _, rfl, ?_, ⟨_, rfl⟩, hW, hsame.mono (by decide) (by decide)⟩
  · show SF p e below s₁ (mkF m 0 #[rv w10] []) _
    refine XS.aloadN X0.here hx rfl (hb hby d3_0) rfl rfl ?_
    show SF p e below s₁ (mkF m 1 #[rv w10] [(.ref w10)]) _
    refine st1 _ ?_
    show SF p e below T1 (mkF m 4 #[rv w10] [(.ref w1), (.ref w10)]) _
    refine Jvm.RoadKit.acmp (g := (mkF m 4 #[rv w10] [(.ref w1), (.ref w10)])) X1 hx rfl rfl rfl (pc0 := 4) (pc' := 7) (same := false) rfl (hb hby d3_4) rfl (decide_eq_false fun q => (Fld.ne F_w10_ordinal F_w1_ordinal (by decide)) (Value.ref.inj q)) (by decide) (by decide) ?_
    show SF p e below T1 (mkF m 7 #[rv w10] []) _
    refine XS.aloadN X1.here hx rfl (hb hby d3_7) rfl rfl ?_
    show SF p e below T1 (mkF m 8 #[rv w10] [(.ref w10)]) _
    refine st2 _ ?_
    show SF p e below T2 (mkF m 11 #[rv w10] [(.ref w13), (.ref w10)]) _
    refine Jvm.RoadKit.acmp (g := (mkF m 11 #[rv w10] [(.ref w13), (.ref w10)])) X2 hx rfl rfl rfl (pc0 := 11) (pc' := 14) (same := false) rfl (hb hby d3_11) rfl (decide_eq_false fun q => (Fld.ne F_w10_ordinal F_w13_ordinal (by decide)) (Value.ref.inj q)) (by decide) (by decide) ?_
    show SF p e below T2 (mkF m 14 #[rv w10] []) _
    refine XS.aloadN X2.here hx rfl (hb hby d3_14) rfl rfl ?_
    show SF p e below T2 (mkF m 15 #[rv w10] [(.ref w10)]) _
    refine st3 _ ?_
    show SF p e below T3 (mkF m 18 #[rv w10] [(.ref w14), (.ref w10)]) _
    refine Jvm.RoadKit.acmp (g := (mkF m 18 #[rv w10] [(.ref w14), (.ref w10)])) X3 hx rfl rfl rfl (pc0 := 18) (pc' := 21) (same := false) rfl (hb hby d3_18) rfl (decide_eq_false fun q => (Fld.ne F_w10_ordinal F_w14_ordinal (by decide)) (Value.ref.inj q)) (by decide) (by decide) ?_
    show SF p e below T3 (mkF m 21 #[rv w10] []) _
    refine XS.aloadN X3.here hx rfl (hb hby d3_21) rfl rfl ?_
    show SF p e below T3 (mkF m 22 #[rv w10] [(.ref w10)]) _
    refine st4 _ ?_
    show SF p e below T4 (mkF m 25 #[rv w10] [(.ref w12), (.ref w10)]) _
    refine Jvm.RoadKit.acmp (g := (mkF m 25 #[rv w10] [(.ref w12), (.ref w10)])) X4 hx rfl rfl rfl (pc0 := 25) (pc' := 28) (same := false) rfl (hb hby d3_25) rfl (decide_eq_false fun q => (Fld.ne F_w10_ordinal F_w12_ordinal (by decide)) (Value.ref.inj q)) (by decide) (by decide) ?_
    show SF p e below T4 (mkF m 28 #[rv w10] []) _
    refine XS.aloadN X4.here hx rfl (hb hby d3_28) rfl rfl ?_
    show SF p e below T4 (mkF m 29 #[rv w10] [(.ref w10)]) _
    refine st5 _ ?_
    show SF p e below T5 (mkF m 32 #[rv w10] [(.ref w16), (.ref w10)]) _
    refine Jvm.RoadKit.acmp (g := (mkF m 32 #[rv w10] [(.ref w16), (.ref w10)])) X5 hx rfl rfl rfl (pc0 := 32) (pc' := 35) (same := false) rfl (hb hby d3_32) rfl (decide_eq_false fun q => (Fld.ne F_w10_ordinal F_w16_ordinal (by decide)) (Value.ref.inj q)) (by decide) (by decide) ?_
    show SF p e below T5 (mkF m 35 #[rv w10] []) _
    refine XS.aloadN X5.here hx rfl (hb hby d3_35) rfl rfl ?_
    show SF p e below T5 (mkF m 36 #[rv w10] [(.ref w10)]) _
    refine st6 _ ?_
    show SF p e below T6 (mkF m 39 #[rv w10] [(.ref w15), (.ref w10)]) _
    refine Jvm.RoadKit.acmp (g := (mkF m 39 #[rv w10] [(.ref w15), (.ref w10)])) X6 hx rfl rfl rfl (pc0 := 39) (pc' := 42) (same := false) rfl (hb hby d3_39) rfl (decide_eq_false fun q => (Fld.ne F_w10_ordinal F_w15_ordinal (by decide)) (Value.ref.inj q)) (by decide) (by decide) ?_
    show SF p e below T6 (mkF m 42 #[rv w10] []) _
    refine XS.aloadN X6.here hx rfl (hb hby d3_42) rfl rfl ?_
    show SF p e below T6 (mkF m 43 #[rv w10] [(.ref w10)]) _
    refine st7 _ ?_
    show SF p e below T7 (mkF m 46 #[rv w10] [(.ref w17), (.ref w10)]) _
    refine Jvm.RoadKit.acmp (g := (mkF m 46 #[rv w10] [(.ref w17), (.ref w10)])) X7 hx rfl rfl rfl (pc0 := 46) (pc' := 49) (same := false) rfl (hb hby d3_46) rfl (decide_eq_false fun q => (Fld.ne F_w10_ordinal F_w17_ordinal (by decide)) (Value.ref.inj q)) (by decide) (by decide) ?_
    show SF p e below T7 (mkF m 49 #[rv w10] []) _
    refine XS.aloadN X7.here hx rfl (hb hby d3_49) rfl rfl ?_
    show SF p e below T7 (mkF m 50 #[rv w10] [(.ref w10)]) _
    refine st8 _ ?_
    show SF p e below T8 (mkF m 53 #[rv w10] [(.ref w18), (.ref w10)]) _
    refine Jvm.RoadKit.acmp (g := (mkF m 53 #[rv w10] [(.ref w18), (.ref w10)])) X8 hx rfl rfl rfl (pc0 := 53) (pc' := 60) (same := false) rfl (hb hby d3_53) rfl (decide_eq_false fun q => (Fld.ne F_w10_ordinal F_w18_ordinal (by decide)) (Value.ref.inj q)) (by decide) (by decide) ?_
    show SF p e below T8 (mkF m 60 #[rv w10] []) _
    refine XS.iconst X8.here hx rfl (hb hby d3_60) ?_
    show SF p e below T8 (mkF m 61 #[rv w10] [(.int 0)]) _
    exact retN X8 hx (t := .boolean) Bd.returns (by simp) (hb hby d3_61) hr
  · show Q3_51 Z w10 w1 w13 w14 w12 w16 w15 w17 w18 h0 n0 _ T8.heap _
    rw [e8]
    exact ⟨rfl, N0, rfl⟩
theorem d1_163 : decode method_2_code 163 = .ok (.getstatic 61, 3) := by decide +kernel
theorem d1_166 : decode method_2_code 166 = .ok (.areturn, 1) := by decide +kernel
-- XpathTokensNamesNextPinLaw.kindOf 
def Q1_52 (Z : State) (w11 : Addr) (h0 : Heap) (n0 : Nat) (v : Option Value) (h : Heap) (L : List Loc) : Prop := v = some (.ref w11) ∧ Fr n0 L ∧ h = h0
set_option maxRecDepth 65536 in
set_option maxHeartbeats 40000000 in
theorem rm1_52 (l : Launch) (Z : State) (a0 : Array Value) (hw : HW Z a0) (ws : List Jvm.Cond) (w11 : Addr) (h0 : Heap) (n0 : Nat) (Z0 : n0 ≤ h0.size) (S20 : Sta Z Z.heap "com/example/edictum/edictum/io/XpathTokens$Kind" "NUMBER" "Lcom/example/edictum/edictum/io/XpathTokens$Kind;" (.ref w11)) (P2 : Old Z n0 h0) :
    MF l Z (⟨"com/example/edictum/edictum/io/XpathTokensNamesNextPinLaw", "kindOf", "(I)Lcom/example/edictum/edictum/io/XpathTokens$Kind;"⟩ : MethodName) (Jvm.Cond.code (⟨"com/example/edictum/edictum/io/XpathTokensNamesNextPinLaw", "kindOf", "(I)Lcom/example/edictum/edictum/io/XpathTokens$Kind;"⟩ : MethodName) method_2_code 1 (some (.object "com/example/edictum/edictum/io/XpathTokens$Kind"))) ws ({ frames := 0, cells := 0, slots := 0, locals := 0 } : Room) #[(.int 17)] h0 (Q1_52 Z w11 h0 n0) := by
  refine MetFree.of_bodySF (plainFor_of_name pn_0) hisR ?_
  intro p e s m args below meth c s₁ Bd hml0 hP hK
  obtain ⟨rfl, hZ, hh⟩ := hP
  have hx := Bd.exec
  have hby := Bd.bytes
  have hml : c.maxLocals = 1 := hml0
  have hown : s.vm.findClass "com/example/edictum/edictum/io/XpathTokensNamesNextPinLaw" = some m.cls := findClass_of_methodNamed Bd.named
  have hnm := (name_of_methodNamed Bd.named Bd.method).1
  have X0 : Stand p l e ({ frames := 0, cells := 0, slots := 0, locals := 0 } : Room) s m #[(.int 17)] below meth c s₁ [] 0 0 := Stand.of_body Bd
  have e0 : s₁.heap = h0 := by rw [← hh, Bd.state]; rfl
  have N0 := Fr.nil n0
  have pre0 : ∀ t, SF p e below s₁ (mkF m 0 #[iv 17] []) t → SF p e below s₁ (entryFrame m #[(.int 17)] 1) t := fun t k => castTop (ef_0 m (17 : Int32)) k
  obtain ⟨T1, X1, e1, st1⟩ := getS2 X0 hx hZ hown (host := "") (Or.inl (tw hw 29 rfl)) Via.refl e0 (S20.ext P2.2) (g := (mkF m 163 #[iv 17] [])) rfl (hb hby d1_163)
  obtain ⟨fs, hr, hrun, hended, hW, hsame⟩ := X1.leave (v := some (.ref w11)) (fun h => by rw [Bd.returns] at h; cases h)
  refine ⟨_, _, pre0 _ ?_, hrun, hended, _, _, rfl, ?_, ⟨_, rfl⟩, hW, hsame.mono (by decide) (by decide)⟩
  · show SF p e below s₁ (mkF m 0 #[iv 17] []) _
    refine XS.iloadN X0.here hx rfl (hb hby d1_0) rfl ?_
    show SF p e below s₁ (mkF m 1 #[iv 17] [(.int 17)]) _
    refine XS.ifYes X0.here hx rfl (pc0 := 1) (pc' := 8) rfl (hb hby d1_1) rfl ((if0 _ _).trans (feq (by decide : ¬ ((17 : Int32) = (0 : Int32)))).2) (by decide) (by decide) ?_
    show SF p e below s₁ (mkF m 8 #[iv 17] []) _
    refine XS.iloadN X0.here hx rfl (hb hby d1_8) rfl ?_
    show SF p e below s₁ (mkF m 9 #[iv 17] [(.int 17)]) _
    refine XS.iconst X0.here hx rfl (hb hby d1_9) ?_
    show SF p e below s₁ (mkF m 10 #[iv 17] [(.int 1), (.int 17)]) _
    refine XS.icmpYes X0.here hx rfl (pc0 := 10) (pc' := 17) rfl (hb hby d1_10) rfl (feq (by decide : ¬ ((17 : Int32) = (1 : Int32)))).2 (by decide) (by decide) ?_
    show SF p e below s₁ (mkF m 17 #[iv 17] []) _
    refine XS.iloadN X0.here hx rfl (hb hby d1_17) rfl ?_
    show SF p e below s₁ (mkF m 18 #[iv 17] [(.int 17)]) _
    refine XS.iconst X0.here hx rfl (hb hby d1_18) ?_
    show SF p e below s₁ (mkF m 19 #[iv 17] [(.int 2), (.int 17)]) _
    refine XS.icmpYes X0.here hx rfl (pc0 := 19) (pc' := 26) rfl (hb hby d1_19) rfl (feq (by decide : ¬ ((17 : Int32) = (2 : Int32)))).2 (by decide) (by decide) ?_
    show SF p e below s₁ (mkF m 26 #[iv 17] []) _
    refine XS.iloadN X0.here hx rfl (hb hby d1_26) rfl ?_
    show SF p e below s₁ (mkF m 27 #[iv 17] [(.int 17)]) _
    refine XS.iconst X0.here hx rfl (hb hby d1_27) ?_
    show SF p e below s₁ (mkF m 28 #[iv 17] [(.int 3), (.int 17)]) _
    refine XS.icmpYes X0.here hx rfl (pc0 := 28) (pc' := 35) rfl (hb hby d1_28) rfl (feq (by decide : ¬ ((17 : Int32) = (3 : Int32)))).2 (by decide) (by decide) ?_
    show SF p e below s₁ (mkF m 35 #[iv 17] []) _
    refine XS.iloadN X0.here hx rfl (hb hby d1_35) rfl ?_
    show SF p e below s₁ (mkF m 36 #[iv 17] [(.int 17)]) _
    refine XS.iconst X0.here hx rfl (hb hby d1_36) ?_
    show SF p e below s₁ (mkF m 37 #[iv 17] [(.int 4), (.int 17)]) _
    refine XS.icmpYes X0.here hx rfl (pc0 := 37) (pc' := 44) rfl (hb hby d1_37) rfl (feq (by decide : ¬ ((17 : Int32) = (4 : Int32)))).2 (by decide) (by decide) ?_
    show SF p e below s₁ (mkF m 44 #[iv 17] []) _
    refine XS.iloadN X0.here hx rfl (hb hby d1_44) rfl ?_
    show SF p e below s₁ (mkF m 45 #[iv 17] [(.int 17)]) _
    refine XS.iconst X0.here hx rfl (hb hby d1_45) ?_
    show SF p e below s₁ (mkF m 46 #[iv 17] [(.int 5), (.int 17)]) _
    refine XS.icmpYes X0.here hx rfl (pc0 := 46) (pc' := 53) rfl (hb hby d1_46) rfl (feq (by decide : ¬ ((17 : Int32) = (5 : Int32)))).2 (by decide) (by decide) ?_
    show SF p e below s₁ (mkF m 53 #[iv 17] []) _
    refine XS.iloadN X0.here hx rfl (hb hby d1_53) rfl ?_
    show SF p e below s₁ (mkF m 54 #[iv 17] [(.int 17)]) _
    refine XS.bipush X0.here hx rfl (hb hby d1_54) ?_
    show SF p e below s₁ (mkF m 56 #[iv 17] [(.int 6), (.int 17)]) _
    refine XS.icmpYes X0.here hx rfl (pc0 := 56) (pc' := 63) rfl (hb hby d1_56) rfl (feq (by decide : ¬ ((17 : Int32) = (6 : Int32)))).2 (by decide) (by decide) ?_
    show SF p e below s₁ (mkF m 63 #[iv 17] []) _
    refine XS.iloadN X0.here hx rfl (hb hby d1_63) rfl ?_
    show SF p e below s₁ (mkF m 64 #[iv 17] [(.int 17)]) _
    refine XS.bipush X0.here hx rfl (hb hby d1_64) ?_
    show SF p e below s₁ (mkF m 66 #[iv 17] [(.int 7), (.int 17)]) _
    refine XS.icmpYes X0.here hx rfl (pc0 := 66) (pc' := 73) rfl (hb hby d1_66) rfl (feq (by decide : ¬ ((17 : Int32) = (7 : Int32)))).2 (by decide) (by decide) ?_
    show SF p e below s₁ (mkF m 73 #[iv 17] []) _
    refine XS.iloadN X0.here hx rfl (hb hby d1_73) rfl ?_
    show SF p e below s₁ (mkF m 74 #[iv 17] [(.int 17)]) _
    refine XS.bipush X0.here hx rfl (hb hby d1_74) ?_
    show SF p e below s₁ (mkF m 76 #[iv 17] [(.int 8), (.int 17)]) _
    refine XS.icmpYes X0.here hx rfl (pc0 := 76) (pc' := 83) rfl (hb hby d1_76) rfl (feq (by decide : ¬ ((17 : Int32) = (8 : Int32)))).2 (by decide) (by decide) ?_
    show SF p e below s₁ (mkF m 83 #[iv 17] []) _
    refine XS.iloadN X0.here hx rfl (hb hby d1_83) rfl ?_
    show SF p e below s₁ (mkF m 84 #[iv 17] [(.int 17)]) _
    refine XS.bipush X0.here hx rfl (hb hby d1_84) ?_
    show SF p e below s₁ (mkF m 86 #[iv 17] [(.int 9), (.int 17)]) _
    refine XS.icmpYes X0.here hx rfl (pc0 := 86) (pc' := 93) rfl (hb hby d1_86) rfl (feq (by decide : ¬ ((17 : Int32) = (9 : Int32)))).2 (by decide) (by decide) ?_
    show SF p e below s₁ (mkF m 93 #[iv 17] []) _
    refine XS.iloadN X0.here hx rfl (hb hby d1_93) rfl ?_
    show SF p e below s₁ (mkF m 94 #[iv 17] [(.int 17)]) _
    refine XS.bipush X0.here hx rfl (hb hby d1_94) ?_
    show SF p e below s₁ (mkF m 96 #[iv 17] [(.int 10), (.int 17)]) _
    refine XS.icmpYes X0.here hx rfl (pc0 := 96) (pc' := 103) rfl (hb hby d1_96) rfl (feq (by decide : ¬ ((17 : Int32) = (10 : Int32)))).2 (by decide) (by decide) ?_
    show SF p e below s₁ (mkF m 103 #[iv 17] []) _
    refine XS.iloadN X0.here hx rfl (hb hby d1_103) rfl ?_
    show SF p e below s₁ (mkF m 104 #[iv 17] [(.int 17)]) _
    refine XS.bipush X0.here hx rfl (hb hby d1_104) ?_
    show SF p e below s₁ (mkF m 106 #[iv 17] [(.int 11), (.int 17)]) _
    refine XS.icmpYes X0.here hx rfl (pc0 := 106) (pc' := 113) rfl (hb hby d1_106) rfl (feq (by decide : ¬ ((17 : Int32) = (11 : Int32)))).2 (by decide) (by decide) ?_
    show SF p e below s₁ (mkF m 113 #[iv 17] []) _
    refine XS.iloadN X0.here hx rfl (hb hby d1_113) rfl ?_
    show SF p e below s₁ (mkF m 114 #[iv 17] [(.int 17)]) _
    refine XS.bipush X0.here hx rfl (hb hby d1_114) ?_
    show SF p e below s₁ (mkF m 116 #[iv 17] [(.int 12), (.int 17)]) _
    refine XS.icmpYes X0.here hx rfl (pc0 := 116) (pc' := 123) rfl (hb hby d1_116) rfl (feq (by decide : ¬ ((17 : Int32) = (12 : Int32)))).2 (by decide) (by decide) ?_
    show SF p e below s₁ (mkF m 123 #[iv 17] []) _
    refine XS.iloadN X0.here hx rfl (hb hby d1_123) rfl ?_
    show SF p e below s₁ (mkF m 124 #[iv 17] [(.int 17)]) _
    refine XS.bipush X0.here hx rfl (hb hby d1_124) ?_
    show SF p e below s₁ (mkF m 126 #[iv 17] [(.int 13), (.int 17)]) _
    refine XS.icmpYes X0.here hx rfl (pc0 := 126) (pc' := 133) rfl (hb hby d1_126) rfl (feq (by decide : ¬ ((17 : Int32) = (13 : Int32)))).2 (by decide) (by decide) ?_
    show SF p e below s₁ (mkF m 133 #[iv 17] []) _
    refine XS.iloadN X0.here hx rfl (hb hby d1_133) rfl ?_
    show SF p e below s₁ (mkF m 134 #[iv 17] [(.int 17)]) _
    refine XS.bipush X0.here hx rfl (hb hby d1_134) ?_
    show SF p e below s₁ (mkF m 136 #[iv 17] [(.int 14), (.int 17)]) _
    refine XS.icmpYes X0.here hx rfl (pc0 := 136) (pc' := 143) rfl (hb hby d1_136) rfl (feq (by decide : ¬ ((17 : Int32) = (14 : Int32)))).2 (by decide) (by decide) ?_
    show SF p e below s₁ (mkF m 143 #[iv 17] []) _
    refine XS.iloadN X0.here hx rfl (hb hby d1_143) rfl ?_
    show SF p e below s₁ (mkF m 144 #[iv 17] [(.int 17)]) _
    refine XS.bipush X0.here hx rfl (hb hby d1_144) ?_
    show SF p e below s₁ (mkF m 146 #[iv 17] [(.int 15), (.int 17)]) _
    refine XS.icmpYes X0.here hx rfl (pc0 := 146) (pc' := 153) rfl (hb hby d1_146) rfl (feq (by decide : ¬ ((17 : Int32) = (15 : Int32)))).2 (by decide) (by decide) ?_
    show SF p e below s₁ (mkF m 153 #[iv 17] []) _
    refine XS.iloadN X0.here hx rfl (hb hby d1_153) rfl ?_
    show SF p e below s₁ (mkF m 154 #[iv 17] [(.int 17)]) _
    refine XS.bipush X0.here hx rfl (hb hby d1_154) ?_
    show SF p e below s₁ (mkF m 156 #[iv 17] [(.int 16), (.int 17)]) _
    refine XS.icmpYes X0.here hx rfl (pc0 := 156) (pc' := 163) rfl (hb hby d1_156) rfl (feq (by decide : ¬ ((17 : Int32) = (16 : Int32)))).2 (by decide) (by decide) ?_
    show SF p e below s₁ (mkF m 163 #[iv 17] []) _
    refine st1 _ ?_
    show SF p e below T1 (mkF m 166 #[iv 17] [(.ref w11)]) _
    exact own_retR X1 hx Bd.returns rfl rfl (hb hby d1_166) hr
  · show Q1_52 Z w11 h0 n0 _ T1.heap _
    rw [e1]
    exact ⟨rfl, N0, rfl⟩
-- XpathTokensNamesNextPinLaw.endsOperand 
def Q2_53 (Z : State) (w11 : Addr) (w2 : Addr) (w3 : Addr) (w4 : Addr) (w5 : Addr) (w6 : Addr) (w7 : Addr) (w8 : Addr) (w9 : Addr) (w10 : Addr) (h0 : Heap) (n0 : Nat) (v : Option Value) (h : Heap) (L : List Loc) : Prop := v = some (.int 1) ∧ Fr n0 L ∧ h = h0
set_option maxRecDepth 65536 in
set_option maxHeartbeats 40000000 in
theorem rm2_53 (l : Launch) (Z : State) (a0 : Array Value) (hw : HW Z a0) (ws : List Jvm.Cond) (w11 : Addr) (w2 : Addr) (w3 : Addr) (w4 : Addr) (w5 : Addr) (w6 : Addr) (w7 : Addr) (w8 : Addr) (w9 : Addr) (w10 : Addr) (h0 : Heap) (n0 : Nat) (Z0 : n0 ≤ h0.size) (S2 : Sta Z Z.heap "com/example/edictum/edictum/io/XpathTokens$Kind" "RIGHT_PAREN" "Lcom/example/edictum/edictum/io/XpathTokens$Kind;" (.ref w2)) (P2 : Old Z n0 h0) (F_w11_ordinal : Fld Z Z.heap w11 "java/lang/Enum" "ordinal" "I" (.int 17)) (F_w2_ordinal : Fld Z Z.heap w2 "java/lang/Enum" "ordinal" "I" (.int 5)) (S4 : Sta Z Z.heap "com/example/edictum/edictum/io/XpathTokens$Kind" "RIGHT_BRACKET" "Lcom/example/edictum/edictum/io/XpathTokens$Kind;" (.ref w3)) (F_w3_ordinal : Fld Z Z.heap w3 "java/lang/Enum" "ordinal" "I" (.int 6)) (S6 : Sta Z Z.heap "com/example/edictum/edictum/io/XpathTokens$Kind" "AXIS" "Lcom/example/edictum/edictum/io/XpathTokens$Kind;" (.ref w4)) (F_w4_ordinal : Fld Z Z.heap w4 "java/lang/Enum" "ordinal" "I" (.int 10)) (S8 : Sta Z Z.heap "com/example/edictum/edictum/io/XpathTokens$Kind" "FUNCTION" "Lcom/example/edictum/edictum/io/XpathTokens$Kind;" (.ref w5)) (F_w5_ordinal : Fld Z Z.heap w5 "java/lang/Enum" "ordinal" "I" (.int 11)) (S10 : Sta Z Z.heap "com/example/edictum/edictum/io/XpathTokens$Kind" "NODE_TYPE" "Lcom/example/edictum/edictum/io/XpathTokens$Kind;" (.ref w6)) (F_w6_ordinal : Fld Z Z.heap w6 "java/lang/Enum" "ordinal" "I" (.int 12)) (S12 : Sta Z Z.heap "com/example/edictum/edictum/io/XpathTokens$Kind" "NAME_TEST" "Lcom/example/edictum/edictum/io/XpathTokens$Kind;" (.ref w7)) (F_w7_ordinal : Fld Z Z.heap w7 "java/lang/Enum" "ordinal" "I" (.int 13)) (S14 : Sta Z Z.heap "com/example/edictum/edictum/io/XpathTokens$Kind" "DOT" "Lcom/example/edictum/edictum/io/XpathTokens$Kind;" (.ref w8)) (F_w8_ordinal : Fld Z Z.heap w8 "java/lang/Enum" "ordinal" "I" (.int 14)) (S16 : Sta Z Z.heap "com/example/edictum/edictum/io/XpathTokens$Kind" "DOT_DOT" "Lcom/example/edictum/edictum/io/XpathTokens$Kind;" (.ref w9)) (F_w9_ordinal : Fld Z Z.heap w9 "java/lang/Enum" "ordinal" "I" (.int 15)) (S18 : Sta Z Z.heap "com/example/edictum/edictum/io/XpathTokens$Kind" "LITERAL" "Lcom/example/edictum/edictum/io/XpathTokens$Kind;" (.ref w10)) (F_w10_ordinal : Fld Z Z.heap w10 "java/lang/Enum" "ordinal" "I" (.int 16)) (S20 : Sta Z Z.heap "com/example/edictum/edictum/io/XpathTokens$Kind" "NUMBER" "Lcom/example/edictum/edictum/io/XpathTokens$Kind;" (.ref w11)) :
    MF l Z (⟨"com/example/edictum/edictum/io/XpathTokensNamesNextPinLaw", "endsOperand", "(Lcom/example/edictum/edictum/io/XpathTokens$Kind;)Z"⟩ : MethodName) (Jvm.Cond.code (⟨"com/example/edictum/edictum/io/XpathTokensNamesNextPinLaw", "endsOperand", "(Lcom/example/edictum/edictum/io/XpathTokens$Kind;)Z"⟩ : MethodName) method_3_code 1 (some .boolean)) ws ({ frames := 0, cells := 0, slots := 0, locals := 0 } : Room) #[(.ref w11)] h0 (Q2_53 Z w11 w2 w3 w4 w5 w6 w7 w8 w9 w10 h0 n0) := by
  refine MetFree.of_bodySF (plainFor_of_name pn_0) hisR ?_
  intro p e s m args below meth c s₁ Bd hml0 hP hK
  obtain ⟨rfl, hZ, hh⟩ := hP
  have hx := Bd.exec
  have hby := Bd.bytes
  have hml : c.maxLocals = 1 := hml0
  have hown : s.vm.findClass "com/example/edictum/edictum/io/XpathTokensNamesNextPinLaw" = some m.cls := findClass_of_methodNamed Bd.named
  have hnm := (name_of_methodNamed Bd.named Bd.method).1
  have X0 : Stand p l e ({ frames := 0, cells := 0, slots := 0, locals := 0 } : Room) s m #[(.ref w11)] below meth c s₁ [] 0 0 := Stand.of_body Bd
  have e0 : s₁.heap = h0 := by rw [← hh, Bd.state]; rfl
  have N0 := Fr.nil n0
  have pre0 : ∀ t, SF p e below s₁ (mkF m 0 #[rv w11] []) t → SF p e below s₁ (entryFrame m #[(.ref w11)] 1) t := fun t k => castTop (ef_1 m w11) k
  obtain ⟨T1, X1, e1, st1⟩ := getS2 X0 hx hZ hown (host := "") (Or.inl (tw hw 11 rfl)) Via.refl e0 (S2.ext P2.2) (g := (mkF m 1 #[rv w11] [(.ref w11)])) rfl (hb hby d2_1)
  obtain ⟨T2, X2, e2, st2⟩ := getS2 X1 hx hZ hown (host := "") (Or.inl (tw hw 13 rfl)) Via.refl e1 (S4.ext P2.2) (g := (mkF m 8 #[rv w11] [(.ref w11)])) rfl (hb hby d2_8)
  obtain ⟨T3, X3, e3, st3⟩ := getS2 X2 hx hZ hown (host := "") (Or.inl (tw hw 15 rfl)) Via.refl e2 (S6.ext P2.2) (g := (mkF m 15 #[rv w11] [(.ref w11)])) rfl (hb hby d2_15)
  obtain ⟨T4, X4, e4, st4⟩ := getS2 X3 hx hZ hown (host := "") (Or.inl (tw hw 17 rfl)) Via.refl e3 (S8.ext P2.2) (g := (mkF m 22 #[rv w11] [(.ref w11)])) rfl (hb hby d2_22)
  obtain ⟨T5, X5, e5, st5⟩ := getS2 X4 hx hZ hown (host := "") (Or.inl (tw hw 19 rfl)) Via.refl e4 (S10.ext P2.2) (g := (mkF m 29 #[rv w11] [(.ref w11)])) rfl (hb hby d2_29)
  obtain ⟨T6, X6, e6, st6⟩ := getS2 X5 hx hZ hown (host := "") (Or.inl (tw hw 21 rfl)) Via.refl e5 (S12.ext P2.2) (g := (mkF m 36 #[rv w11] [(.ref w11)])) rfl (hb hby d2_36)
  obtain ⟨T7, X7, e7, st7⟩ := getS2 X6 hx hZ hown (host := "") (Or.inl (tw hw 23 rfl)) Via.refl e6 (S14.ext P2.2) (g := (mkF m 43 #[rv w11] [(.ref w11)])) rfl (hb hby d2_43)
  obtain ⟨T8, X8, e8, st8⟩ := getS2 X7 hx hZ hown (host := "") (Or.inl (tw hw 25 rfl)) Via.refl e7 (S16.ext P2.2) (g := (mkF m 50 #[rv w11] [(.ref w11)])) rfl (hb hby d2_50)
  obtain ⟨T9, X9, e9, st9⟩ := getS2 X8 hx hZ hown (host := "") (Or.inl (tw hw 27 rfl)) Via.refl e8 (S18.ext P2.2) (g := (mkF m 57 #[rv w11] [(.ref w11)])) rfl (hb hby d2_57)
  obtain ⟨T10, X10, e10, st10⟩ := getS2 X9 hx hZ hown (host := "") (Or.inl (tw hw 29 rfl)) Via.refl e9 (S20.ext P2.2) (g := (mkF m 64 #[rv w11] [(.ref w11)])) rfl (hb hby d2_64)
  obtain ⟨fs, hr, hrun, hended, hW, hsame⟩ := X10.leave (v := some (.int 1)) (fun h => by rw [Bd.returns] at h; cases h)
  refine ⟨_, _, pre0 _ ?_, hrun, hended, _, _, rfl, ?_, ⟨_, rfl⟩, hW, hsame.mono (by decide) (by decide)⟩
  · show SF p e below s₁ (mkF m 0 #[rv w11] []) _
    refine XS.aloadN X0.here hx rfl (hb hby d2_0) rfl rfl ?_
    show SF p e below s₁ (mkF m 1 #[rv w11] [(.ref w11)]) _
    refine st1 _ ?_
    show SF p e below T1 (mkF m 4 #[rv w11] [(.ref w2), (.ref w11)]) _
    refine Jvm.RoadKit.acmp (g := (mkF m 4 #[rv w11] [(.ref w2), (.ref w11)])) X1 hx rfl rfl rfl (pc0 := 4) (pc' := 7) (same := false) rfl (hb hby d2_4) rfl (decide_eq_false fun q => (Fld.ne F_w11_ordinal F_w2_ordinal (by decide)) (Value.ref.inj q)) (by decide) (by decide) ?_
    show SF p e below T1 (mkF m 7 #[rv w11] []) _
    refine XS.aloadN X1.here hx rfl (hb hby d2_7) rfl rfl ?_
    show SF p e below T1 (mkF m 8 #[rv w11] [(.ref w11)]) _
    refine st2 _ ?_
    show SF p e below T2 (mkF m 11 #[rv w11] [(.ref w3), (.ref w11)]) _
    refine Jvm.RoadKit.acmp (g := (mkF m 11 #[rv w11] [(.ref w3), (.ref w11)])) X2 hx rfl rfl rfl (pc0 := 11) (pc' := 14) (same := false) rfl (hb hby d2_11) rfl (decide_eq_false fun q => (Fld.ne F_w11_ordinal F_w3_ordinal (by decide)) (Value.ref.inj q)) (by decide) (by decide) ?_
    show SF p e below T2 (mkF m 14 #[rv w11] []) _
    refine XS.aloadN X2.here hx rfl (hb hby d2_14) rfl rfl ?_
    show SF p e below T2 (mkF m 15 #[rv w11] [(.ref w11)]) _
    refine st3 _ ?_
    show SF p e below T3 (mkF m 18 #[rv w11] [(.ref w4), (.ref w11)]) _
    refine Jvm.RoadKit.acmp (g := (mkF m 18 #[rv w11] [(.ref w4), (.ref w11)])) X3 hx rfl rfl rfl (pc0 := 18) (pc' := 21) (same := false) rfl (hb hby d2_18) rfl (decide_eq_false fun q => (Fld.ne F_w11_ordinal F_w4_ordinal (by decide)) (Value.ref.inj q)) (by decide) (by decide) ?_
    show SF p e below T3 (mkF m 21 #[rv w11] []) _
    refine XS.aloadN X3.here hx rfl (hb hby d2_21) rfl rfl ?_
    show SF p e below T3 (mkF m 22 #[rv w11] [(.ref w11)]) _
    refine st4 _ ?_
    show SF p e below T4 (mkF m 25 #[rv w11] [(.ref w5), (.ref w11)]) _
    refine Jvm.RoadKit.acmp (g := (mkF m 25 #[rv w11] [(.ref w5), (.ref w11)])) X4 hx rfl rfl rfl (pc0 := 25) (pc' := 28) (same := false) rfl (hb hby d2_25) rfl (decide_eq_false fun q => (Fld.ne F_w11_ordinal F_w5_ordinal (by decide)) (Value.ref.inj q)) (by decide) (by decide) ?_
    show SF p e below T4 (mkF m 28 #[rv w11] []) _
    refine XS.aloadN X4.here hx rfl (hb hby d2_28) rfl rfl ?_
    show SF p e below T4 (mkF m 29 #[rv w11] [(.ref w11)]) _
    refine st5 _ ?_
    show SF p e below T5 (mkF m 32 #[rv w11] [(.ref w6), (.ref w11)]) _
    refine Jvm.RoadKit.acmp (g := (mkF m 32 #[rv w11] [(.ref w6), (.ref w11)])) X5 hx rfl rfl rfl (pc0 := 32) (pc' := 35) (same := false) rfl (hb hby d2_32) rfl (decide_eq_false fun q => (Fld.ne F_w11_ordinal F_w6_ordinal (by decide)) (Value.ref.inj q)) (by decide) (by decide) ?_
    show SF p e below T5 (mkF m 35 #[rv w11] []) _
    refine XS.aloadN X5.here hx rfl (hb hby d2_35) rfl rfl ?_
    show SF p e below T5 (mkF m 36 #[rv w11] [(.ref w11)]) _
    refine st6 _ ?_
    show SF p e below T6 (mkF m 39 #[rv w11] [(.ref w7), (.ref w11)]) _
    refine Jvm.RoadKit.acmp (g := (mkF m 39 #[rv w11] [(.ref w7), (.ref w11)])) X6 hx rfl rfl rfl (pc0 := 39) (pc' := 42) (same := false) rfl (hb hby d2_39) rfl (decide_eq_false fun q => (Fld.ne F_w11_ordinal F_w7_ordinal (by decide)) (Value.ref.inj q)) (by decide) (by decide) ?_
    show SF p e below T6 (mkF m 42 #[rv w11] []) _
    refine XS.aloadN X6.here hx rfl (hb hby d2_42) rfl rfl ?_
    show SF p e below T6 (mkF m 43 #[rv w11] [(.ref w11)]) _
    refine st7 _ ?_
    show SF p e below T7 (mkF m 46 #[rv w11] [(.ref w8), (.ref w11)]) _
    refine Jvm.RoadKit.acmp (g := (mkF m 46 #[rv w11] [(.ref w8), (.ref w11)])) X7 hx rfl rfl rfl (pc0 := 46) (pc' := 49) (same := false) rfl (hb hby d2_46) rfl (decide_eq_false fun q => (Fld.ne F_w11_ordinal F_w8_ordinal (by decide)) (Value.ref.inj q)) (by decide) (by decide) ?_
    show SF p e below T7 (mkF m 49 #[rv w11] []) _
    refine XS.aloadN X7.here hx rfl (hb hby d2_49) rfl rfl ?_
    show SF p e below T7 (mkF m 50 #[rv w11] [(.ref w11)]) _
    refine st8 _ ?_
    show SF p e below T8 (mkF m 53 #[rv w11] [(.ref w9), (.ref w11)]) _
    refine Jvm.RoadKit.acmp (g := (mkF m 53 #[rv w11] [(.ref w9), (.ref w11)])) X8 hx rfl rfl rfl (pc0 := 53) (pc' := 56) (same := false) rfl (hb hby d2_53) rfl (decide_eq_false fun q => (Fld.ne F_w11_ordinal F_w9_ordinal (by decide)) (Value.ref.inj q)) (by decide) (by decide) ?_
    show SF p e below T8 (mkF m 56 #[rv w11] []) _
    refine XS.aloadN X8.here hx rfl (hb hby d2_56) rfl rfl ?_
    show SF p e below T8 (mkF m 57 #[rv w11] [(.ref w11)]) _
    refine st9 _ ?_
    show SF p e below T9 (mkF m 60 #[rv w11] [(.ref w10), (.ref w11)]) _
    refine Jvm.RoadKit.acmp (g := (mkF m 60 #[rv w11] [(.ref w10), (.ref w11)])) X9 hx rfl rfl rfl (pc0 := 60) (pc' := 63) (same := false) rfl (hb hby d2_60) rfl (decide_eq_false fun q => (Fld.ne F_w11_ordinal F_w10_ordinal (by decide)) (Value.ref.inj q)) (by decide) (by decide) ?_
    show SF p e below T9 (mkF m 63 #[rv w11] []) _
    refine XS.aloadN X9.here hx rfl (hb hby d2_63) rfl rfl ?_
    show SF p e below T9 (mkF m 64 #[rv w11] [(.ref w11)]) _
    refine st10 _ ?_
    show SF p e below T10 (mkF m 67 #[rv w11] [(.ref w11), (.ref w11)]) _
    refine Jvm.RoadKit.acmp (g := (mkF m 67 #[rv w11] [(.ref w11), (.ref w11)])) X10 hx rfl rfl rfl (pc0 := 67) (pc' := 70) (same := true) rfl (hb hby d2_67) rfl (decide_eq_true rfl) (by decide) (by decide) ?_
    show SF p e below T10 (mkF m 70 #[rv w11] []) _
    refine XS.iconst X10.here hx rfl (hb hby d2_70) ?_
    show SF p e below T10 (mkF m 71 #[rv w11] [(.int 1)]) _
    refine XS.goto X10.here hx rfl (pc0 := 71) (pc' := 75) rfl (hb hby d2_71) (by decide) (by decide) ?_
    show SF p e below T10 (mkF m 75 #[rv w11] [(.int 1)]) _
    exact retN X10 hx (t := .boolean) Bd.returns (by simp) (hb hby d2_75) hr
  · show Q2_53 Z w11 w2 w3 w4 w5 w6 w7 w8 w9 w10 h0 n0 _ T10.heap _
    rw [e10]
    exact ⟨rfl, N0, rfl⟩
-- XpathTokens$Kind.namesNext 
def Q3_54 (Z : State) (w11 : Addr) (w1 : Addr) (w13 : Addr) (w14 : Addr) (w12 : Addr) (w16 : Addr) (w15 : Addr) (w17 : Addr) (w18 : Addr) (h0 : Heap) (n0 : Nat) (v : Option Value) (h : Heap) (L : List Loc) : Prop := v = some (.int 0) ∧ Fr n0 L ∧ h = h0
set_option maxRecDepth 65536 in
set_option maxHeartbeats 40000000 in
theorem rm3_54 (l : Launch) (Z : State) (a0 : Array Value) (hw : HW Z a0) (ws : List Jvm.Cond) (w11 : Addr) (w1 : Addr) (w13 : Addr) (w14 : Addr) (w12 : Addr) (w16 : Addr) (w15 : Addr) (w17 : Addr) (w18 : Addr) (h0 : Heap) (n0 : Nat) (Z0 : n0 ≤ h0.size) (S0 : Sta Z Z.heap "com/example/edictum/edictum/io/XpathTokens$Kind" "AT" "Lcom/example/edictum/edictum/io/XpathTokens$Kind;" (.ref w1)) (P2 : Old Z n0 h0) (F_w11_ordinal : Fld Z Z.heap w11 "java/lang/Enum" "ordinal" "I" (.int 17)) (F_w1_ordinal : Fld Z Z.heap w1 "java/lang/Enum" "ordinal" "I" (.int 0)) (S24 : Sta Z Z.heap "com/example/edictum/edictum/io/XpathTokens$Kind" "AXIS_SEPARATOR" "Lcom/example/edictum/edictum/io/XpathTokens$Kind;" (.ref w13)) (F_w13_ordinal : Fld Z Z.heap w13 "java/lang/Enum" "ordinal" "I" (.int 1)) (S26 : Sta Z Z.heap "com/example/edictum/edictum/io/XpathTokens$Kind" "LEFT_PAREN" "Lcom/example/edictum/edictum/io/XpathTokens$Kind;" (.ref w14)) (F_w14_ordinal : Fld Z Z.heap w14 "java/lang/Enum" "ordinal" "I" (.int 2)) (S22 : Sta Z Z.heap "com/example/edictum/edictum/io/XpathTokens$Kind" "LEFT_BRACKET" "Lcom/example/edictum/edictum/io/XpathTokens$Kind;" (.ref w12)) (F_w12_ordinal : Fld Z Z.heap w12 "java/lang/Enum" "ordinal" "I" (.int 3)) (S30 : Sta Z Z.heap "com/example/edictum/edictum/io/XpathTokens$Kind" "COMMA" "Lcom/example/edictum/edictum/io/XpathTokens$Kind;" (.ref w16)) (F_w16_ordinal : Fld Z Z.heap w16 "java/lang/Enum" "ordinal" "I" (.int 4)) (S28 : Sta Z Z.heap "com/example/edictum/edictum/io/XpathTokens$Kind" "SLASH" "Lcom/example/edictum/edictum/io/XpathTokens$Kind;" (.ref w15)) (F_w15_ordinal : Fld Z Z.heap w15 "java/lang/Enum" "ordinal" "I" (.int 7)) (S32 : Sta Z Z.heap "com/example/edictum/edictum/io/XpathTokens$Kind" "DOUBLE_SLASH" "Lcom/example/edictum/edictum/io/XpathTokens$Kind;" (.ref w17)) (F_w17_ordinal : Fld Z Z.heap w17 "java/lang/Enum" "ordinal" "I" (.int 8)) (S34 : Sta Z Z.heap "com/example/edictum/edictum/io/XpathTokens$Kind" "OPERATOR" "Lcom/example/edictum/edictum/io/XpathTokens$Kind;" (.ref w18)) (F_w18_ordinal : Fld Z Z.heap w18 "java/lang/Enum" "ordinal" "I" (.int 9)) :
    MF l Z (⟨"com/example/edictum/edictum/io/XpathTokens$Kind", "namesNext", "()Z"⟩ : MethodName) (Jvm.Cond.code (⟨"com/example/edictum/edictum/io/XpathTokens$Kind", "namesNext", "()Z"⟩ : MethodName) prog_251_method_4_code 1 (some .boolean)) ws ({ frames := 0, cells := 0, slots := 0, locals := 0 } : Room) #[(.ref w11)] h0 (Q3_54 Z w11 w1 w13 w14 w12 w16 w15 w17 w18 h0 n0) := by
  refine MetFree.of_bodySF (plainFor_of_name pn_1) hisR ?_
  intro p e s m args below meth c s₁ Bd hml0 hP hK
  obtain ⟨rfl, hZ, hh⟩ := hP
  have hx := Bd.exec
  have hby := Bd.bytes
  have hml : c.maxLocals = 1 := hml0
  have hown : s.vm.findClass "com/example/edictum/edictum/io/XpathTokens$Kind" = some m.cls := findClass_of_methodNamed Bd.named
  have hnm := (name_of_methodNamed Bd.named Bd.method).1
  have X0 : Stand p l e ({ frames := 0, cells := 0, slots := 0, locals := 0 } : Room) s m #[(.ref w11)] below meth c s₁ [] 0 0 := Stand.of_body Bd
  have e0 : s₁.heap = h0 := by rw [← hh, Bd.state]; rfl
  have N0 := Fr.nil n0
  have pre0 : ∀ t, SF p e below s₁ (mkF m 0 #[rv w11] []) t → SF p e below s₁ (entryFrame m #[(.ref w11)] 1) t := fun t k => castTop (ef_2 m w11) k
  obtain ⟨T1, X1, e1, st1⟩ := getS2 X0 hx hZ hown (host := "") (Or.inl (tw hw 36 rfl)) Via.refl e0 (S0.ext P2.2) (g := (mkF m 1 #[rv w11] [(.ref w11)])) rfl (hb hby d3_1)
  obtain ⟨T2, X2, e2, st2⟩ := getS2 X1 hx hZ hown (host := "") (Or.inl (tw hw 39 rfl)) Via.refl e1 (S24.ext P2.2) (g := (mkF m 8 #[rv w11] [(.ref w11)])) rfl (hb hby d3_8)
  obtain ⟨T3, X3, e3, st3⟩ := getS2 X2 hx hZ hown (host := "") (Or.inl (tw hw 41 rfl)) Via.refl e2 (S26.ext P2.2) (g := (mkF m 15 #[rv w11] [(.ref w11)])) rfl (hb hby d3_15)
  obtain ⟨T4, X4, e4, st4⟩ := getS2 X3 hx hZ hown (host := "") (Or.inl (tw hw 43 rfl)) Via.refl e3 (S22.ext P2.2) (g := (mkF m 22 #[rv w11] [(.ref w11)])) rfl (hb hby d3_22)
  obtain ⟨T5, X5, e5, st5⟩ := getS2 X4 hx hZ hown (host := "") (Or.inl (tw hw 48 rfl)) Via.refl e4 (S30.ext P2.2) (g := (mkF m 29 #[rv w11] [(.ref w11)])) rfl (hb hby d3_29)
  obtain ⟨T6, X6, e6, st6⟩ := getS2 X5 hx hZ hown (host := "") (Or.inl (tw hw 50 rfl)) Via.refl e5 (S28.ext P2.2) (g := (mkF m 36 #[rv w11] [(.ref w11)])) rfl (hb hby d3_36)
  obtain ⟨T7, X7, e7, st7⟩ := getS2 X6 hx hZ hown (host := "") (Or.inl (tw hw 51 rfl)) Via.refl e6 (S32.ext P2.2) (g := (mkF m 43 #[rv w11] [(.ref w11)])) rfl (hb hby d3_43)
  obtain ⟨T8, X8, e8, st8⟩ := getS2 X7 hx hZ hown (host := "") (Or.inl (tw hw 53 rfl)) Via.refl e7 (S34.ext P2.2) (g := (mkF m 50 #[rv w11] [(.ref w11)])) rfl (hb hby d3_50)
  obtain ⟨fs, hr, hrun, hended, hW, hsame⟩ := X8.leave (v := some (.int 0)) (fun h => by rw [Bd.returns] at h; cases h)
  refine ⟨_, _, pre0 _ ?_, hrun, hended, _, _, rfl, ?_, ⟨_, rfl⟩, hW, hsame.mono (by decide) (by decide)⟩
  · show SF p e below s₁ (mkF m 0 #[rv w11] []) _
    refine XS.aloadN X0.here hx rfl (hb hby d3_0) rfl rfl ?_
    show SF p e below s₁ (mkF m 1 #[rv w11] [(.ref w11)]) _
    refine st1 _ ?_
    show SF p e below T1 (mkF m 4 #[rv w11] [(.ref w1), (.ref w11)]) _
    refine Jvm.RoadKit.acmp (g := (mkF m 4 #[rv w11] [(.ref w1), (.ref w11)])) X1 hx rfl rfl rfl (pc0 := 4) (pc' := 7) (same := false) rfl (hb hby d3_4) rfl (decide_eq_false fun q => (Fld.ne F_w11_ordinal F_w1_ordinal (by decide)) (Value.ref.inj q)) (by decide) (by decide) ?_
    show SF p e below T1 (mkF m 7 #[rv w11] []) _
    refine XS.aloadN X1.here hx rfl (hb hby d3_7) rfl rfl ?_
    show SF p e below T1 (mkF m 8 #[rv w11] [(.ref w11)]) _
    refine st2 _ ?_
    show SF p e below T2 (mkF m 11 #[rv w11] [(.ref w13), (.ref w11)]) _
    refine Jvm.RoadKit.acmp (g := (mkF m 11 #[rv w11] [(.ref w13), (.ref w11)])) X2 hx rfl rfl rfl (pc0 := 11) (pc' := 14) (same := false) rfl (hb hby d3_11) rfl (decide_eq_false fun q => (Fld.ne F_w11_ordinal F_w13_ordinal (by decide)) (Value.ref.inj q)) (by decide) (by decide) ?_
    show SF p e below T2 (mkF m 14 #[rv w11] []) _
    refine XS.aloadN X2.here hx rfl (hb hby d3_14) rfl rfl ?_
    show SF p e below T2 (mkF m 15 #[rv w11] [(.ref w11)]) _
    refine st3 _ ?_
    show SF p e below T3 (mkF m 18 #[rv w11] [(.ref w14), (.ref w11)]) _
    refine Jvm.RoadKit.acmp (g := (mkF m 18 #[rv w11] [(.ref w14), (.ref w11)])) X3 hx rfl rfl rfl (pc0 := 18) (pc' := 21) (same := false) rfl (hb hby d3_18) rfl (decide_eq_false fun q => (Fld.ne F_w11_ordinal F_w14_ordinal (by decide)) (Value.ref.inj q)) (by decide) (by decide) ?_
    show SF p e below T3 (mkF m 21 #[rv w11] []) _
    refine XS.aloadN X3.here hx rfl (hb hby d3_21) rfl rfl ?_
    show SF p e below T3 (mkF m 22 #[rv w11] [(.ref w11)]) _
    refine st4 _ ?_
    show SF p e below T4 (mkF m 25 #[rv w11] [(.ref w12), (.ref w11)]) _
    refine Jvm.RoadKit.acmp (g := (mkF m 25 #[rv w11] [(.ref w12), (.ref w11)])) X4 hx rfl rfl rfl (pc0 := 25) (pc' := 28) (same := false) rfl (hb hby d3_25) rfl (decide_eq_false fun q => (Fld.ne F_w11_ordinal F_w12_ordinal (by decide)) (Value.ref.inj q)) (by decide) (by decide) ?_
    show SF p e below T4 (mkF m 28 #[rv w11] []) _
    refine XS.aloadN X4.here hx rfl (hb hby d3_28) rfl rfl ?_
    show SF p e below T4 (mkF m 29 #[rv w11] [(.ref w11)]) _
    refine st5 _ ?_
    show SF p e below T5 (mkF m 32 #[rv w11] [(.ref w16), (.ref w11)]) _
    refine Jvm.RoadKit.acmp (g := (mkF m 32 #[rv w11] [(.ref w16), (.ref w11)])) X5 hx rfl rfl rfl (pc0 := 32) (pc' := 35) (same := false) rfl (hb hby d3_32) rfl (decide_eq_false fun q => (Fld.ne F_w11_ordinal F_w16_ordinal (by decide)) (Value.ref.inj q)) (by decide) (by decide) ?_
    show SF p e below T5 (mkF m 35 #[rv w11] []) _
    refine XS.aloadN X5.here hx rfl (hb hby d3_35) rfl rfl ?_
    show SF p e below T5 (mkF m 36 #[rv w11] [(.ref w11)]) _
    refine st6 _ ?_
    show SF p e below T6 (mkF m 39 #[rv w11] [(.ref w15), (.ref w11)]) _
    refine Jvm.RoadKit.acmp (g := (mkF m 39 #[rv w11] [(.ref w15), (.ref w11)])) X6 hx rfl rfl rfl (pc0 := 39) (pc' := 42) (same := false) rfl (hb hby d3_39) rfl (decide_eq_false fun q => (Fld.ne F_w11_ordinal F_w15_ordinal (by decide)) (Value.ref.inj q)) (by decide) (by decide) ?_
    show SF p e below T6 (mkF m 42 #[rv w11] []) _
    refine XS.aloadN X6.here hx rfl (hb hby d3_42) rfl rfl ?_
    show SF p e below T6 (mkF m 43 #[rv w11] [(.ref w11)]) _
    refine st7 _ ?_
    show SF p e below T7 (mkF m 46 #[rv w11] [(.ref w17), (.ref w11)]) _
    refine Jvm.RoadKit.acmp (g := (mkF m 46 #[rv w11] [(.ref w17), (.ref w11)])) X7 hx rfl rfl rfl (pc0 := 46) (pc' := 49) (same := false) rfl (hb hby d3_46) rfl (decide_eq_false fun q => (Fld.ne F_w11_ordinal F_w17_ordinal (by decide)) (Value.ref.inj q)) (by decide) (by decide) ?_
    show SF p e below T7 (mkF m 49 #[rv w11] []) _
    refine XS.aloadN X7.here hx rfl (hb hby d3_49) rfl rfl ?_
    show SF p e below T7 (mkF m 50 #[rv w11] [(.ref w11)]) _
    refine st8 _ ?_
    show SF p e below T8 (mkF m 53 #[rv w11] [(.ref w18), (.ref w11)]) _
    refine Jvm.RoadKit.acmp (g := (mkF m 53 #[rv w11] [(.ref w18), (.ref w11)])) X8 hx rfl rfl rfl (pc0 := 53) (pc' := 60) (same := false) rfl (hb hby d3_53) rfl (decide_eq_false fun q => (Fld.ne F_w11_ordinal F_w18_ordinal (by decide)) (Value.ref.inj q)) (by decide) (by decide) ?_
    show SF p e below T8 (mkF m 60 #[rv w11] []) _
    refine XS.iconst X8.here hx rfl (hb hby d3_60) ?_
    show SF p e below T8 (mkF m 61 #[rv w11] [(.int 0)]) _
    exact retN X8 hx (t := .boolean) Bd.returns (by simp) (hb hby d3_61) hr
  · show Q3_54 Z w11 w1 w13 w14 w12 w16 w15 w17 w18 h0 n0 _ T8.heap _
    rw [e8]
    exact ⟨rfl, N0, rfl⟩
theorem ef_3 (m : MethodId) (x0 : Int32) : entryFrame m #[(.int x0)] maxLocals = mkF m 0 #[.val (.int x0), .unset, .unset, .unset] [] := by first | (simp [entryFrame, mkF, argsToLocals, Value.category, maxLocals]; done) | rfl
set_option maxRecDepth 65536 in
set_option maxHeartbeats 400000000 in
theorem rm0 (l : Launch) (Z : State) (a0 : Array Value) (hw : HW Z a0) (ws : List Jvm.Cond) (p0s : Int32) (w1 : Addr) (w2 : Addr) (w3 : Addr) (w4 : Addr) (w5 : Addr) (w6 : Addr) (w7 : Addr) (w8 : Addr) (w9 : Addr) (w10 : Addr) (w11 : Addr) (w12 : Addr) (w13 : Addr) (w14 : Addr) (w15 : Addr) (w16 : Addr) (w17 : Addr) (w18 : Addr) (h0 : Heap) (n0 : Nat) (Z0 : n0 ≤ h0.size) (O0 : Old Z n0 h0) (S0 : Sta Z Z.heap "com/example/edictum/edictum/io/XpathTokens$Kind" "AT" "Lcom/example/edictum/edictum/io/XpathTokens$Kind;" (.ref w1)) (E_w1 : Exa Z Z.heap w1 "com/example/edictum/edictum/io/XpathTokens$Kind") (S2 : Sta Z Z.heap "com/example/edictum/edictum/io/XpathTokens$Kind" "RIGHT_PAREN" "Lcom/example/edictum/edictum/io/XpathTokens$Kind;" (.ref w2)) (E_w2 : Exa Z Z.heap w2 "com/example/edictum/edictum/io/XpathTokens$Kind") (S4 : Sta Z Z.heap "com/example/edictum/edictum/io/XpathTokens$Kind" "RIGHT_BRACKET" "Lcom/example/edictum/edictum/io/XpathTokens$Kind;" (.ref w3)) (E_w3 : Exa Z Z.heap w3 "com/example/edictum/edictum/io/XpathTokens$Kind") (S6 : Sta Z Z.heap "com/example/edictum/edictum/io/XpathTokens$Kind" "AXIS" "Lcom/example/edictum/edictum/io/XpathTokens$Kind;" (.ref w4)) (E_w4 : Exa Z Z.heap w4 "com/example/edictum/edictum/io/XpathTokens$Kind") (S8 : Sta Z Z.heap "com/example/edictum/edictum/io/XpathTokens$Kind" "FUNCTION" "Lcom/example/edictum/edictum/io/XpathTokens$Kind;" (.ref w5)) (E_w5 : Exa Z Z.heap w5 "com/example/edictum/edictum/io/XpathTokens$Kind") (S10 : Sta Z Z.heap "com/example/edictum/edictum/io/XpathTokens$Kind" "NODE_TYPE" "Lcom/example/edictum/edictum/io/XpathTokens$Kind;" (.ref w6)) (E_w6 : Exa Z Z.heap w6 "com/example/edictum/edictum/io/XpathTokens$Kind") (S12 : Sta Z Z.heap "com/example/edictum/edictum/io/XpathTokens$Kind" "NAME_TEST" "Lcom/example/edictum/edictum/io/XpathTokens$Kind;" (.ref w7)) (E_w7 : Exa Z Z.heap w7 "com/example/edictum/edictum/io/XpathTokens$Kind") (S14 : Sta Z Z.heap "com/example/edictum/edictum/io/XpathTokens$Kind" "DOT" "Lcom/example/edictum/edictum/io/XpathTokens$Kind;" (.ref w8)) (E_w8 : Exa Z Z.heap w8 "com/example/edictum/edictum/io/XpathTokens$Kind") (S16 : Sta Z Z.heap "com/example/edictum/edictum/io/XpathTokens$Kind" "DOT_DOT" "Lcom/example/edictum/edictum/io/XpathTokens$Kind;" (.ref w9)) (E_w9 : Exa Z Z.heap w9 "com/example/edictum/edictum/io/XpathTokens$Kind") (S18 : Sta Z Z.heap "com/example/edictum/edictum/io/XpathTokens$Kind" "LITERAL" "Lcom/example/edictum/edictum/io/XpathTokens$Kind;" (.ref w10)) (E_w10 : Exa Z Z.heap w10 "com/example/edictum/edictum/io/XpathTokens$Kind") (S20 : Sta Z Z.heap "com/example/edictum/edictum/io/XpathTokens$Kind" "NUMBER" "Lcom/example/edictum/edictum/io/XpathTokens$Kind;" (.ref w11)) (E_w11 : Exa Z Z.heap w11 "com/example/edictum/edictum/io/XpathTokens$Kind") (S22 : Sta Z Z.heap "com/example/edictum/edictum/io/XpathTokens$Kind" "LEFT_BRACKET" "Lcom/example/edictum/edictum/io/XpathTokens$Kind;" (.ref w12)) (E_w12 : Exa Z Z.heap w12 "com/example/edictum/edictum/io/XpathTokens$Kind") (S24 : Sta Z Z.heap "com/example/edictum/edictum/io/XpathTokens$Kind" "AXIS_SEPARATOR" "Lcom/example/edictum/edictum/io/XpathTokens$Kind;" (.ref w13)) (E_w13 : Exa Z Z.heap w13 "com/example/edictum/edictum/io/XpathTokens$Kind") (S26 : Sta Z Z.heap "com/example/edictum/edictum/io/XpathTokens$Kind" "LEFT_PAREN" "Lcom/example/edictum/edictum/io/XpathTokens$Kind;" (.ref w14)) (E_w14 : Exa Z Z.heap w14 "com/example/edictum/edictum/io/XpathTokens$Kind") (S28 : Sta Z Z.heap "com/example/edictum/edictum/io/XpathTokens$Kind" "SLASH" "Lcom/example/edictum/edictum/io/XpathTokens$Kind;" (.ref w15)) (E_w15 : Exa Z Z.heap w15 "com/example/edictum/edictum/io/XpathTokens$Kind") (S30 : Sta Z Z.heap "com/example/edictum/edictum/io/XpathTokens$Kind" "COMMA" "Lcom/example/edictum/edictum/io/XpathTokens$Kind;" (.ref w16)) (E_w16 : Exa Z Z.heap w16 "com/example/edictum/edictum/io/XpathTokens$Kind") (S32 : Sta Z Z.heap "com/example/edictum/edictum/io/XpathTokens$Kind" "DOUBLE_SLASH" "Lcom/example/edictum/edictum/io/XpathTokens$Kind;" (.ref w17)) (E_w17 : Exa Z Z.heap w17 "com/example/edictum/edictum/io/XpathTokens$Kind") (S34 : Sta Z Z.heap "com/example/edictum/edictum/io/XpathTokens$Kind" "OPERATOR" "Lcom/example/edictum/edictum/io/XpathTokens$Kind;" (.ref w18)) (E_w18 : Exa Z Z.heap w18 "com/example/edictum/edictum/io/XpathTokens$Kind") (F_w1_ordinal : Fld Z Z.heap w1 "java/lang/Enum" "ordinal" "I" (.int 0)) (F_w2_ordinal : Fld Z Z.heap w2 "java/lang/Enum" "ordinal" "I" (.int 5)) (F_w3_ordinal : Fld Z Z.heap w3 "java/lang/Enum" "ordinal" "I" (.int 6)) (F_w4_ordinal : Fld Z Z.heap w4 "java/lang/Enum" "ordinal" "I" (.int 10)) (F_w5_ordinal : Fld Z Z.heap w5 "java/lang/Enum" "ordinal" "I" (.int 11)) (F_w6_ordinal : Fld Z Z.heap w6 "java/lang/Enum" "ordinal" "I" (.int 12)) (F_w7_ordinal : Fld Z Z.heap w7 "java/lang/Enum" "ordinal" "I" (.int 13)) (F_w8_ordinal : Fld Z Z.heap w8 "java/lang/Enum" "ordinal" "I" (.int 14)) (F_w9_ordinal : Fld Z Z.heap w9 "java/lang/Enum" "ordinal" "I" (.int 15)) (F_w10_ordinal : Fld Z Z.heap w10 "java/lang/Enum" "ordinal" "I" (.int 16)) (F_w11_ordinal : Fld Z Z.heap w11 "java/lang/Enum" "ordinal" "I" (.int 17)) (F_w12_ordinal : Fld Z Z.heap w12 "java/lang/Enum" "ordinal" "I" (.int 3)) (F_w13_ordinal : Fld Z Z.heap w13 "java/lang/Enum" "ordinal" "I" (.int 1)) (F_w14_ordinal : Fld Z Z.heap w14 "java/lang/Enum" "ordinal" "I" (.int 2)) (F_w15_ordinal : Fld Z Z.heap w15 "java/lang/Enum" "ordinal" "I" (.int 7)) (F_w16_ordinal : Fld Z Z.heap w16 "java/lang/Enum" "ordinal" "I" (.int 4)) (F_w17_ordinal : Fld Z Z.heap w17 "java/lang/Enum" "ordinal" "I" (.int 8)) (F_w18_ordinal : Fld Z Z.heap w18 "java/lang/Enum" "ordinal" "I" (.int 9)) :
    MF l Z x (Jvm.Cond.code x code maxLocals ret) ws room_1 #[(.int p0s)] h0 (fun v _ L => v = some (.int (1 : Int32)) ∧ Fr n0 L) := by
  refine MetFree.of_bodySF (plainFor_of_name pn_0) hisR ?_
  intro p e s m args below meth c s₁ Bd hml0 hP hK
  obtain ⟨rfl, hZ, hh⟩ := hP
  have hx := Bd.exec
  have hby := Bd.bytes
  have hml : c.maxLocals = 4 := hml0
  have hown : s.vm.findClass "com/example/edictum/edictum/io/XpathTokensNamesNextPinLaw" = some m.cls := findClass_of_methodNamed Bd.named
  have hnm := (name_of_methodNamed Bd.named Bd.method).1
  have X0 : Stand p l e room_1 s m #[(.int p0s)] below meth c s₁ [] 0 0 := Stand.of_body Bd
  have e0 : s₁.heap = h0 := by rw [← hh, Bd.state]; rfl
  have N0 := Fr.nil n0
  have pre0 : ∀ t, SF p e below s₁ (mkF m 0 #[iv p0s, .unset, .unset, .unset] []) t → SF p e below s₁ (entryFrame m #[(.int p0s)] maxLocals) t := fun t k => castTop (ef_3 m p0s) k
  have hre := Bd.returns
  have hlk : meth.locks = false := by first | assumption | exact BodyLoose.notSynchronized Bd | exact Body.notSynchronized Bd
  show Fin p e below s n0 _
  have pre1 : ∀ t, SF p e below s₁ (mkF m 7 #[iv p0s, .unset, .unset, .unset] [(.int ((p0s &&& (2147483647 : Int32)) % (18 : Int32)))]) t → SF p e below s₁ (mkF m 0 #[iv p0s, .unset, .unset, .unset] []) t := fun t k => by
    show SF p e below s₁ (mkF m 0 #[iv p0s, .unset, .unset, .unset] []) _
    refine XS.iloadN X0.here hx rfl (hb hby at_0) rfl ?_
    show SF p e below s₁ (mkF m 1 #[iv p0s, .unset, .unset, .unset] [(.int p0s)]) _
    refine X0.ldcInt hx hown (mvT hZ (tw hw 0 rfl)) (g := (mkF m 1 #[iv p0s, .unset, .unset, .unset] [(.int p0s)])) rfl (hb hby at_1) _ ?_
    show SF p e below s₁ (mkF m 3 #[iv p0s, .unset, .unset, .unset] [(.int 2147483647), (.int p0s)]) _
    refine XS.iand X0.here hx rfl (hb hby at_3) rfl ?_
    show SF p e below s₁ (mkF m 4 #[iv p0s, .unset, .unset, .unset] [(.int (p0s &&& (2147483647 : Int32)))]) _
    refine XS.bipush X0.here hx rfl (hb hby at_4) ?_
    show SF p e below s₁ (mkF m 6 #[iv p0s, .unset, .unset, .unset] [(.int 18), (.int (p0s &&& (2147483647 : Int32)))]) _
    refine iremM X0 hx rfl (hb hby at_6) rfl (by decide) ?_
    exact k
  rcases own_mod18 p0s with hc1 | hc1 | hc1 | hc1 | hc1 | hc1 | hc1 | hc1 | hc1 | hc1 | hc1 | hc1 | hc1 | hc1 | hc1 | hc1 | hc1 | hc1
  · obtain ⟨_, _, ⟨T1, L1, k1x, n1⟩, -, X1, ⟨Lc1, hQ1, l1, y1, z1⟩, st1⟩ := Jvm.LawKit.callS X0 hx (y := (⟨"com/example/edictum/edictum/io/XpathTokensNamesNextPinLaw", "kindOf", "(I)Lcom/example/edictum/edictum/io/XpathTokens$Kind;"⟩ : MethodName)) hown (mvT hZ (tw hw 1 rfl)) (mvT hZ (tw hw 2 rfl)) (mvT hZ (tw hw 3 rfl)) (mvT hZ (tw hw 4 rfl)) (by decide) (backOf (W := 0) (rm1_1 l Z a0 hw [] w1 h0 n0 Z0 S0 O0) hZ (tw hw 4 rfl) (tw hw 3 rfl) (by decide) (by decide)) (g := (mkF m 9 #[iv p0s, iv 0, .unset, .unset] [(.int 0)])) rfl (by rw [hml]; rfl) (argsL := [(.int 0)]) (rest := []) (lenOf pd_0 rfl) rfl (by show 2 * 0 + _ ≤ _; exact Nat.le_of_eq rfl) (hb hby at_9) (fun _ _ => ⟨rfl, e0, (by decide : 0 + 0 ≤ _), (by decide : 0 + 0 ≤ _)⟩)
    dsimp only [Pt.U, Pt.locs, Pt.cells, Pt.slots] at X1 l1 y1 z1 st1 hQ1
    subst l1 y1 z1
    obtain ⟨rfl, N1q, e1⟩ := hQ1
    have N1 := Fr.app N0 N1q
    obtain ⟨_, _, ⟨T2, L2, k2x, n2⟩, -, X2, ⟨Lc2, hQ2, l2, y2, z2⟩, st2⟩ := Jvm.LawKit.callS X1 hx (y := (⟨"com/example/edictum/edictum/io/XpathTokensNamesNextPinLaw", "endsOperand", "(Lcom/example/edictum/edictum/io/XpathTokens$Kind;)Z"⟩ : MethodName)) hown (mvT hZ (tw hw 8 rfl)) (mvT hZ (tw hw 9 rfl)) (mvT hZ (tw hw 3 rfl)) (mvT hZ (tw hw 10 rfl)) (by decide) (backOf (W := 0) (rm2_2 l Z a0 hw [] w1 w2 w3 w4 w5 w6 w7 w8 w9 w10 w11 h0 n0 Z0 S2 O0 F_w1_ordinal F_w2_ordinal S4 F_w3_ordinal S6 F_w4_ordinal S8 F_w5_ordinal S10 F_w6_ordinal S12 F_w7_ordinal S14 F_w8_ordinal S16 F_w9_ordinal S18 F_w10_ordinal S20 F_w11_ordinal) hZ (tw hw 10 rfl) (tw hw 3 rfl) (by decide) (by decide)) (g := (mkF m 14 #[iv p0s, iv 0, rv w1, .unset] [(.ref w1)])) rfl (by rw [hml]; rfl) (argsL := [(.ref w1)]) (rest := []) (lenOf pd_1 rfl) rfl (by show 2 * 0 + _ ≤ _; exact Nat.le_of_eq rfl) (hb hby at_14) (fun _ _ => ⟨rfl, e1, (by decide : 0 + 0 ≤ _), (by decide : 0 + 0 ≤ _)⟩)
    dsimp only [Pt.U, Pt.locs, Pt.cells, Pt.slots] at X2 l2 y2 z2 st2 hQ2
    subst l2 y2 z2
    obtain ⟨rfl, N2q, e2⟩ := hQ2
    have N2 := Fr.app N1 N2q
    obtain ⟨cq3, kq3, q3a, q3b, q3c⟩ := isOf hZ e2 (E_w1.ext O0.2)
    obtain ⟨_, _, ⟨T3, L3, k3x, n3⟩, -, X3, ⟨Lc3, hQ3, l3, y3, z3⟩, st3⟩ := X2.virtualBack hx (y := (⟨"com/example/edictum/edictum/io/XpathTokens$Kind", "namesNext", "()Z"⟩ : MethodName)) (z := (⟨"com/example/edictum/edictum/io/XpathTokens$Kind", "namesNext", "()Z"⟩ : MethodName)) hown (mvT hZ (tw hw 31 rfl)) (mvT hZ (tw hw 32 rfl)) (notFace_of_selects (args := #[]) (mvT hZ (tw hw 34 rfl))) (mvT hZ (tw hw 34 rfl)) (mvT hZ (tw hw 33 rfl)) (by decide) (backOf (W := 0) (rm3_3 l Z a0 hw [] w1 h0 n0 Z0 S0 O0) hZ (tw hw 35 rfl) (tw hw 6 rfl) (by decide) (by decide)) q3a q3c (g := (mkF m 27 #[iv p0s, iv 0, rv w1, iv 1] [(.ref w1)])) rfl (by rw [hml]; rfl) (Steps.refl _) (argsL := []) (rest := []) (lenOf pd_2 rfl) rfl (by show 2 * 0 + _ ≤ _; exact Nat.le_of_eq rfl) (hb hby at_27) (fun _ _ => ⟨rfl, e2, (by decide : 0 + 0 ≤ _), (by decide : 0 + 0 ≤ _)⟩)
    dsimp only [Pt.U, Pt.locs, Pt.cells, Pt.slots] at X3 l3 y3 z3 st3 hQ3
    subst l3 y3 z3
    obtain ⟨rfl, N3q, e3⟩ := hQ3
    have N3 := Fr.app N2 N3q
    obtain ⟨fs, hr, hrun, hended, hW, hsame⟩ := X3.leave (v := some (.int (1 : Int32))) (fun h => by rw [hre] at h; cases h)
    refine ⟨_, _, pre0 _ (pre1 _ (?_)), hrun, hended, _, _, rfl, ?_, ⟨_, rfl⟩, hW, hsame.mono (by decide) (by decide)⟩
    · show SF p e below s₁ (mkF m 7 #[iv p0s, .unset, .unset, .unset] [(.int ((p0s &&& (2147483647 : Int32)) % (18 : Int32)))]) _
      rw [hc1]
      show SF p e below s₁ (mkF m 7 #[iv p0s, .unset, .unset, .unset] [(.int 0)]) _
      refine XS.istoreN X0.here hx rfl (hb hby at_7) rfl (l' := #[iv p0s, iv 0, .unset, .unset]) rfl ?_
      show SF p e below s₁ (mkF m 8 #[iv p0s, iv 0, .unset, .unset] []) _
      refine XS.iloadN X0.here hx rfl (hb hby at_8) rfl ?_
      show SF p e below s₁ (mkF m 9 #[iv p0s, iv 0, .unset, .unset] [(.int 0)]) _
      refine st1 _ ?_
      show SF p e below T1 (mkF m 12 #[iv p0s, iv 0, .unset, .unset] [(.ref w1)]) _
      refine XS.astoreN X1.here hx rfl (hb hby at_12) rfl rfl (l' := #[iv p0s, iv 0, rv w1, .unset]) rfl ?_
      show SF p e below T1 (mkF m 13 #[iv p0s, iv 0, rv w1, .unset] []) _
      refine XS.aloadN X1.here hx rfl (hb hby at_13) rfl rfl ?_
      show SF p e below T1 (mkF m 14 #[iv p0s, iv 0, rv w1, .unset] [(.ref w1)]) _
      refine st2 _ ?_
      show SF p e below T2 (mkF m 17 #[iv p0s, iv 0, rv w1, .unset] [(.int 0)]) _
      refine XS.ifNo X2.here hx rfl (hb hby at_17) rfl ((if0 _ _).trans (teq (by decide : (0 : Int32) = (0 : Int32))).2) ?_
      show SF p e below T2 (mkF m 20 #[iv p0s, iv 0, rv w1, .unset] []) _
      refine XS.iconst X2.here hx rfl (hb hby at_20) ?_
      show SF p e below T2 (mkF m 21 #[iv p0s, iv 0, rv w1, .unset] [(.int 1)]) _
      refine XS.goto X2.here hx rfl (pc0 := 21) (pc' := 25) rfl (hb hby at_21) (by decide) (by decide) ?_
      show SF p e below T2 (mkF m 25 #[iv p0s, iv 0, rv w1, .unset] [(.int 1)]) _
      refine XS.istoreN X2.here hx rfl (hb hby at_25) rfl (l' := #[iv p0s, iv 0, rv w1, iv 1]) rfl ?_
      show SF p e below T2 (mkF m 26 #[iv p0s, iv 0, rv w1, iv 1] []) _
      refine XS.aloadN X2.here hx rfl (hb hby at_26) rfl rfl ?_
      show SF p e below T2 (mkF m 27 #[iv p0s, iv 0, rv w1, iv 1] [(.ref w1)]) _
      refine st3.trans ?_
      show SF p e below T3 (mkF m 30 #[iv p0s, iv 0, rv w1, iv 1] [(.int 1)]) _
      refine XS.iloadN X3.here hx rfl (hb hby at_30) rfl ?_
      show SF p e below T3 (mkF m 31 #[iv p0s, iv 0, rv w1, iv 1] [(.int 1), (.int 1)]) _
      refine XS.icmpNo X3.here hx rfl (hb hby at_31) rfl (teq (by decide : (1 : Int32) = (1 : Int32))).2 ?_
      show SF p e below T3 (mkF m 34 #[iv p0s, iv 0, rv w1, iv 1] []) _
      refine XS.iconst X3.here hx rfl (hb hby at_34) ?_
      show SF p e below T3 (mkF m 35 #[iv p0s, iv 0, rv w1, iv 1] [(.int 1)]) _
      refine XS.goto X3.here hx rfl (pc0 := 35) (pc' := 39) rfl (hb hby at_35) (by decide) (by decide) ?_
      show SF p e below T3 (mkF m 39 #[iv p0s, iv 0, rv w1, iv 1] [(.int 1)]) _
      exact retN X3 hx (t := .boolean) hre (by simp) (hb hby at_39) hr
    · exact ⟨rfl, N3⟩
  · obtain ⟨_, _, ⟨T1, L1, k1x, n1⟩, -, X1, ⟨Lc1, hQ1, l1, y1, z1⟩, st1⟩ := Jvm.LawKit.callS X0 hx (y := (⟨"com/example/edictum/edictum/io/XpathTokensNamesNextPinLaw", "kindOf", "(I)Lcom/example/edictum/edictum/io/XpathTokens$Kind;"⟩ : MethodName)) hown (mvT hZ (tw hw 1 rfl)) (mvT hZ (tw hw 2 rfl)) (mvT hZ (tw hw 3 rfl)) (mvT hZ (tw hw 4 rfl)) (by decide) (backOf (W := 0) (rm1_4 l Z a0 hw [] w13 h0 n0 Z0 S24 O0) hZ (tw hw 4 rfl) (tw hw 3 rfl) (by decide) (by decide)) (g := (mkF m 9 #[iv p0s, iv 1, .unset, .unset] [(.int 1)])) rfl (by rw [hml]; rfl) (argsL := [(.int 1)]) (rest := []) (lenOf pd_0 rfl) rfl (by show 2 * 0 + _ ≤ _; exact Nat.le_of_eq rfl) (hb hby at_9) (fun _ _ => ⟨rfl, e0, (by decide : 0 + 0 ≤ _), (by decide : 0 + 0 ≤ _)⟩)
    dsimp only [Pt.U, Pt.locs, Pt.cells, Pt.slots] at X1 l1 y1 z1 st1 hQ1
    subst l1 y1 z1
    obtain ⟨rfl, N1q, e1⟩ := hQ1
    have N1 := Fr.app N0 N1q
    obtain ⟨_, _, ⟨T2, L2, k2x, n2⟩, -, X2, ⟨Lc2, hQ2, l2, y2, z2⟩, st2⟩ := Jvm.LawKit.callS X1 hx (y := (⟨"com/example/edictum/edictum/io/XpathTokensNamesNextPinLaw", "endsOperand", "(Lcom/example/edictum/edictum/io/XpathTokens$Kind;)Z"⟩ : MethodName)) hown (mvT hZ (tw hw 8 rfl)) (mvT hZ (tw hw 9 rfl)) (mvT hZ (tw hw 3 rfl)) (mvT hZ (tw hw 10 rfl)) (by decide) (backOf (W := 0) (rm2_5 l Z a0 hw [] w13 w2 w3 w4 w5 w6 w7 w8 w9 w10 w11 h0 n0 Z0 S2 O0 F_w13_ordinal F_w2_ordinal S4 F_w3_ordinal S6 F_w4_ordinal S8 F_w5_ordinal S10 F_w6_ordinal S12 F_w7_ordinal S14 F_w8_ordinal S16 F_w9_ordinal S18 F_w10_ordinal S20 F_w11_ordinal) hZ (tw hw 10 rfl) (tw hw 3 rfl) (by decide) (by decide)) (g := (mkF m 14 #[iv p0s, iv 1, rv w13, .unset] [(.ref w13)])) rfl (by rw [hml]; rfl) (argsL := [(.ref w13)]) (rest := []) (lenOf pd_1 rfl) rfl (by show 2 * 0 + _ ≤ _; exact Nat.le_of_eq rfl) (hb hby at_14) (fun _ _ => ⟨rfl, e1, (by decide : 0 + 0 ≤ _), (by decide : 0 + 0 ≤ _)⟩)
    dsimp only [Pt.U, Pt.locs, Pt.cells, Pt.slots] at X2 l2 y2 z2 st2 hQ2
    subst l2 y2 z2
    obtain ⟨rfl, N2q, e2⟩ := hQ2
    have N2 := Fr.app N1 N2q
    obtain ⟨cq3, kq3, q3a, q3b, q3c⟩ := isOf hZ e2 (E_w13.ext O0.2)
    obtain ⟨_, _, ⟨T3, L3, k3x, n3⟩, -, X3, ⟨Lc3, hQ3, l3, y3, z3⟩, st3⟩ := X2.virtualBack hx (y := (⟨"com/example/edictum/edictum/io/XpathTokens$Kind", "namesNext", "()Z"⟩ : MethodName)) (z := (⟨"com/example/edictum/edictum/io/XpathTokens$Kind", "namesNext", "()Z"⟩ : MethodName)) hown (mvT hZ (tw hw 31 rfl)) (mvT hZ (tw hw 32 rfl)) (notFace_of_selects (args := #[]) (mvT hZ (tw hw 34 rfl))) (mvT hZ (tw hw 34 rfl)) (mvT hZ (tw hw 33 rfl)) (by decide) (backOf (W := 0) (rm3_6 l Z a0 hw [] w13 w1 h0 n0 Z0 S0 O0 F_w13_ordinal F_w1_ordinal S24) hZ (tw hw 35 rfl) (tw hw 6 rfl) (by decide) (by decide)) q3a q3c (g := (mkF m 27 #[iv p0s, iv 1, rv w13, iv 1] [(.ref w13)])) rfl (by rw [hml]; rfl) (Steps.refl _) (argsL := []) (rest := []) (lenOf pd_2 rfl) rfl (by show 2 * 0 + _ ≤ _; exact Nat.le_of_eq rfl) (hb hby at_27) (fun _ _ => ⟨rfl, e2, (by decide : 0 + 0 ≤ _), (by decide : 0 + 0 ≤ _)⟩)
    dsimp only [Pt.U, Pt.locs, Pt.cells, Pt.slots] at X3 l3 y3 z3 st3 hQ3
    subst l3 y3 z3
    obtain ⟨rfl, N3q, e3⟩ := hQ3
    have N3 := Fr.app N2 N3q
    obtain ⟨fs, hr, hrun, hended, hW, hsame⟩ := X3.leave (v := some (.int (1 : Int32))) (fun h => by rw [hre] at h; cases h)
    refine ⟨_, _, pre0 _ (pre1 _ (?_)), hrun, hended, _, _, rfl, ?_, ⟨_, rfl⟩, hW, hsame.mono (by decide) (by decide)⟩
    · show SF p e below s₁ (mkF m 7 #[iv p0s, .unset, .unset, .unset] [(.int ((p0s &&& (2147483647 : Int32)) % (18 : Int32)))]) _
      rw [hc1]
      show SF p e below s₁ (mkF m 7 #[iv p0s, .unset, .unset, .unset] [(.int 1)]) _
      refine XS.istoreN X0.here hx rfl (hb hby at_7) rfl (l' := #[iv p0s, iv 1, .unset, .unset]) rfl ?_
      show SF p e below s₁ (mkF m 8 #[iv p0s, iv 1, .unset, .unset] []) _
      refine XS.iloadN X0.here hx rfl (hb hby at_8) rfl ?_
      show SF p e below s₁ (mkF m 9 #[iv p0s, iv 1, .unset, .unset] [(.int 1)]) _
      refine st1 _ ?_
      show SF p e below T1 (mkF m 12 #[iv p0s, iv 1, .unset, .unset] [(.ref w13)]) _
      refine XS.astoreN X1.here hx rfl (hb hby at_12) rfl rfl (l' := #[iv p0s, iv 1, rv w13, .unset]) rfl ?_
      show SF p e below T1 (mkF m 13 #[iv p0s, iv 1, rv w13, .unset] []) _
      refine XS.aloadN X1.here hx rfl (hb hby at_13) rfl rfl ?_
      show SF p e below T1 (mkF m 14 #[iv p0s, iv 1, rv w13, .unset] [(.ref w13)]) _
      refine st2 _ ?_
      show SF p e below T2 (mkF m 17 #[iv p0s, iv 1, rv w13, .unset] [(.int 0)]) _
      refine XS.ifNo X2.here hx rfl (hb hby at_17) rfl ((if0 _ _).trans (teq (by decide : (0 : Int32) = (0 : Int32))).2) ?_
      show SF p e below T2 (mkF m 20 #[iv p0s, iv 1, rv w13, .unset] []) _
      refine XS.iconst X2.here hx rfl (hb hby at_20) ?_
      show SF p e below T2 (mkF m 21 #[iv p0s, iv 1, rv w13, .unset] [(.int 1)]) _
      refine XS.goto X2.here hx rfl (pc0 := 21) (pc' := 25) rfl (hb hby at_21) (by decide) (by decide) ?_
      show SF p e below T2 (mkF m 25 #[iv p0s, iv 1, rv w13, .unset] [(.int 1)]) _
      refine XS.istoreN X2.here hx rfl (hb hby at_25) rfl (l' := #[iv p0s, iv 1, rv w13, iv 1]) rfl ?_
      show SF p e below T2 (mkF m 26 #[iv p0s, iv 1, rv w13, iv 1] []) _
      refine XS.aloadN X2.here hx rfl (hb hby at_26) rfl rfl ?_
      show SF p e below T2 (mkF m 27 #[iv p0s, iv 1, rv w13, iv 1] [(.ref w13)]) _
      refine st3.trans ?_
      show SF p e below T3 (mkF m 30 #[iv p0s, iv 1, rv w13, iv 1] [(.int 1)]) _
      refine XS.iloadN X3.here hx rfl (hb hby at_30) rfl ?_
      show SF p e below T3 (mkF m 31 #[iv p0s, iv 1, rv w13, iv 1] [(.int 1), (.int 1)]) _
      refine XS.icmpNo X3.here hx rfl (hb hby at_31) rfl (teq (by decide : (1 : Int32) = (1 : Int32))).2 ?_
      show SF p e below T3 (mkF m 34 #[iv p0s, iv 1, rv w13, iv 1] []) _
      refine XS.iconst X3.here hx rfl (hb hby at_34) ?_
      show SF p e below T3 (mkF m 35 #[iv p0s, iv 1, rv w13, iv 1] [(.int 1)]) _
      refine XS.goto X3.here hx rfl (pc0 := 35) (pc' := 39) rfl (hb hby at_35) (by decide) (by decide) ?_
      show SF p e below T3 (mkF m 39 #[iv p0s, iv 1, rv w13, iv 1] [(.int 1)]) _
      exact retN X3 hx (t := .boolean) hre (by simp) (hb hby at_39) hr
    · exact ⟨rfl, N3⟩
  · obtain ⟨_, _, ⟨T1, L1, k1x, n1⟩, -, X1, ⟨Lc1, hQ1, l1, y1, z1⟩, st1⟩ := Jvm.LawKit.callS X0 hx (y := (⟨"com/example/edictum/edictum/io/XpathTokensNamesNextPinLaw", "kindOf", "(I)Lcom/example/edictum/edictum/io/XpathTokens$Kind;"⟩ : MethodName)) hown (mvT hZ (tw hw 1 rfl)) (mvT hZ (tw hw 2 rfl)) (mvT hZ (tw hw 3 rfl)) (mvT hZ (tw hw 4 rfl)) (by decide) (backOf (W := 0) (rm1_7 l Z a0 hw [] w14 h0 n0 Z0 S26 O0) hZ (tw hw 4 rfl) (tw hw 3 rfl) (by decide) (by decide)) (g := (mkF m 9 #[iv p0s, iv 2, .unset, .unset] [(.int 2)])) rfl (by rw [hml]; rfl) (argsL := [(.int 2)]) (rest := []) (lenOf pd_0 rfl) rfl (by show 2 * 0 + _ ≤ _; exact Nat.le_of_eq rfl) (hb hby at_9) (fun _ _ => ⟨rfl, e0, (by decide : 0 + 0 ≤ _), (by decide : 0 + 0 ≤ _)⟩)
    dsimp only [Pt.U, Pt.locs, Pt.cells, Pt.slots] at X1 l1 y1 z1 st1 hQ1
    subst l1 y1 z1
    obtain ⟨rfl, N1q, e1⟩ := hQ1
    have N1 := Fr.app N0 N1q
    obtain ⟨_, _, ⟨T2, L2, k2x, n2⟩, -, X2, ⟨Lc2, hQ2, l2, y2, z2⟩, st2⟩ := Jvm.LawKit.callS X1 hx (y := (⟨"com/example/edictum/edictum/io/XpathTokensNamesNextPinLaw", "endsOperand", "(Lcom/example/edictum/edictum/io/XpathTokens$Kind;)Z"⟩ : MethodName)) hown (mvT hZ (tw hw 8 rfl)) (mvT hZ (tw hw 9 rfl)) (mvT hZ (tw hw 3 rfl)) (mvT hZ (tw hw 10 rfl)) (by decide) (backOf (W := 0) (rm2_8 l Z a0 hw [] w14 w2 w3 w4 w5 w6 w7 w8 w9 w10 w11 h0 n0 Z0 S2 O0 F_w14_ordinal F_w2_ordinal S4 F_w3_ordinal S6 F_w4_ordinal S8 F_w5_ordinal S10 F_w6_ordinal S12 F_w7_ordinal S14 F_w8_ordinal S16 F_w9_ordinal S18 F_w10_ordinal S20 F_w11_ordinal) hZ (tw hw 10 rfl) (tw hw 3 rfl) (by decide) (by decide)) (g := (mkF m 14 #[iv p0s, iv 2, rv w14, .unset] [(.ref w14)])) rfl (by rw [hml]; rfl) (argsL := [(.ref w14)]) (rest := []) (lenOf pd_1 rfl) rfl (by show 2 * 0 + _ ≤ _; exact Nat.le_of_eq rfl) (hb hby at_14) (fun _ _ => ⟨rfl, e1, (by decide : 0 + 0 ≤ _), (by decide : 0 + 0 ≤ _)⟩)
    dsimp only [Pt.U, Pt.locs, Pt.cells, Pt.slots] at X2 l2 y2 z2 st2 hQ2
    subst l2 y2 z2
    obtain ⟨rfl, N2q, e2⟩ := hQ2
    have N2 := Fr.app N1 N2q
    obtain ⟨cq3, kq3, q3a, q3b, q3c⟩ := isOf hZ e2 (E_w14.ext O0.2)
    obtain ⟨_, _, ⟨T3, L3, k3x, n3⟩, -, X3, ⟨Lc3, hQ3, l3, y3, z3⟩, st3⟩ := X2.virtualBack hx (y := (⟨"com/example/edictum/edictum/io/XpathTokens$Kind", "namesNext", "()Z"⟩ : MethodName)) (z := (⟨"com/example/edictum/edictum/io/XpathTokens$Kind", "namesNext", "()Z"⟩ : MethodName)) hown (mvT hZ (tw hw 31 rfl)) (mvT hZ (tw hw 32 rfl)) (notFace_of_selects (args := #[]) (mvT hZ (tw hw 34 rfl))) (mvT hZ (tw hw 34 rfl)) (mvT hZ (tw hw 33 rfl)) (by decide) (backOf (W := 0) (rm3_9 l Z a0 hw [] w14 w1 w13 h0 n0 Z0 S0 O0 F_w14_ordinal F_w1_ordinal S24 F_w13_ordinal S26) hZ (tw hw 35 rfl) (tw hw 6 rfl) (by decide) (by decide)) q3a q3c (g := (mkF m 27 #[iv p0s, iv 2, rv w14, iv 1] [(.ref w14)])) rfl (by rw [hml]; rfl) (Steps.refl _) (argsL := []) (rest := []) (lenOf pd_2 rfl) rfl (by show 2 * 0 + _ ≤ _; exact Nat.le_of_eq rfl) (hb hby at_27) (fun _ _ => ⟨rfl, e2, (by decide : 0 + 0 ≤ _), (by decide : 0 + 0 ≤ _)⟩)
    dsimp only [Pt.U, Pt.locs, Pt.cells, Pt.slots] at X3 l3 y3 z3 st3 hQ3
    subst l3 y3 z3
    obtain ⟨rfl, N3q, e3⟩ := hQ3
    have N3 := Fr.app N2 N3q
    obtain ⟨fs, hr, hrun, hended, hW, hsame⟩ := X3.leave (v := some (.int (1 : Int32))) (fun h => by rw [hre] at h; cases h)
    refine ⟨_, _, pre0 _ (pre1 _ (?_)), hrun, hended, _, _, rfl, ?_, ⟨_, rfl⟩, hW, hsame.mono (by decide) (by decide)⟩
    · show SF p e below s₁ (mkF m 7 #[iv p0s, .unset, .unset, .unset] [(.int ((p0s &&& (2147483647 : Int32)) % (18 : Int32)))]) _
      rw [hc1]
      show SF p e below s₁ (mkF m 7 #[iv p0s, .unset, .unset, .unset] [(.int 2)]) _
      refine XS.istoreN X0.here hx rfl (hb hby at_7) rfl (l' := #[iv p0s, iv 2, .unset, .unset]) rfl ?_
      show SF p e below s₁ (mkF m 8 #[iv p0s, iv 2, .unset, .unset] []) _
      refine XS.iloadN X0.here hx rfl (hb hby at_8) rfl ?_
      show SF p e below s₁ (mkF m 9 #[iv p0s, iv 2, .unset, .unset] [(.int 2)]) _
      refine st1 _ ?_
      show SF p e below T1 (mkF m 12 #[iv p0s, iv 2, .unset, .unset] [(.ref w14)]) _
      refine XS.astoreN X1.here hx rfl (hb hby at_12) rfl rfl (l' := #[iv p0s, iv 2, rv w14, .unset]) rfl ?_
      show SF p e below T1 (mkF m 13 #[iv p0s, iv 2, rv w14, .unset] []) _
      refine XS.aloadN X1.here hx rfl (hb hby at_13) rfl rfl ?_
      show SF p e below T1 (mkF m 14 #[iv p0s, iv 2, rv w14, .unset] [(.ref w14)]) _
      refine st2 _ ?_
      show SF p e below T2 (mkF m 17 #[iv p0s, iv 2, rv w14, .unset] [(.int 0)]) _
      refine XS.ifNo X2.here hx rfl (hb hby at_17) rfl ((if0 _ _).trans (teq (by decide : (0 : Int32) = (0 : Int32))).2) ?_
      show SF p e below T2 (mkF m 20 #[iv p0s, iv 2, rv w14, .unset] []) _
      refine XS.iconst X2.here hx rfl (hb hby at_20) ?_
      show SF p e below T2 (mkF m 21 #[iv p0s, iv 2, rv w14, .unset] [(.int 1)]) _
      refine XS.goto X2.here hx rfl (pc0 := 21) (pc' := 25) rfl (hb hby at_21) (by decide) (by decide) ?_
      show SF p e below T2 (mkF m 25 #[iv p0s, iv 2, rv w14, .unset] [(.int 1)]) _
      refine XS.istoreN X2.here hx rfl (hb hby at_25) rfl (l' := #[iv p0s, iv 2, rv w14, iv 1]) rfl ?_
      show SF p e below T2 (mkF m 26 #[iv p0s, iv 2, rv w14, iv 1] []) _
      refine XS.aloadN X2.here hx rfl (hb hby at_26) rfl rfl ?_
      show SF p e below T2 (mkF m 27 #[iv p0s, iv 2, rv w14, iv 1] [(.ref w14)]) _
      refine st3.trans ?_
      show SF p e below T3 (mkF m 30 #[iv p0s, iv 2, rv w14, iv 1] [(.int 1)]) _
      refine XS.iloadN X3.here hx rfl (hb hby at_30) rfl ?_
      show SF p e below T3 (mkF m 31 #[iv p0s, iv 2, rv w14, iv 1] [(.int 1), (.int 1)]) _
      refine XS.icmpNo X3.here hx rfl (hb hby at_31) rfl (teq (by decide : (1 : Int32) = (1 : Int32))).2 ?_
      show SF p e below T3 (mkF m 34 #[iv p0s, iv 2, rv w14, iv 1] []) _
      refine XS.iconst X3.here hx rfl (hb hby at_34) ?_
      show SF p e below T3 (mkF m 35 #[iv p0s, iv 2, rv w14, iv 1] [(.int 1)]) _
      refine XS.goto X3.here hx rfl (pc0 := 35) (pc' := 39) rfl (hb hby at_35) (by decide) (by decide) ?_
      show SF p e below T3 (mkF m 39 #[iv p0s, iv 2, rv w14, iv 1] [(.int 1)]) _
      exact retN X3 hx (t := .boolean) hre (by simp) (hb hby at_39) hr
    · exact ⟨rfl, N3⟩
  · obtain ⟨_, _, ⟨T1, L1, k1x, n1⟩, -, X1, ⟨Lc1, hQ1, l1, y1, z1⟩, st1⟩ := Jvm.LawKit.callS X0 hx (y := (⟨"com/example/edictum/edictum/io/XpathTokensNamesNextPinLaw", "kindOf", "(I)Lcom/example/edictum/edictum/io/XpathTokens$Kind;"⟩ : MethodName)) hown (mvT hZ (tw hw 1 rfl)) (mvT hZ (tw hw 2 rfl)) (mvT hZ (tw hw 3 rfl)) (mvT hZ (tw hw 4 rfl)) (by decide) (backOf (W := 0) (rm1_10 l Z a0 hw [] w12 h0 n0 Z0 S22 O0) hZ (tw hw 4 rfl) (tw hw 3 rfl) (by decide) (by decide)) (g := (mkF m 9 #[iv p0s, iv 3, .unset, .unset] [(.int 3)])) rfl (by rw [hml]; rfl) (argsL := [(.int 3)]) (rest := []) (lenOf pd_0 rfl) rfl (by show 2 * 0 + _ ≤ _; exact Nat.le_of_eq rfl) (hb hby at_9) (fun _ _ => ⟨rfl, e0, (by decide : 0 + 0 ≤ _), (by decide : 0 + 0 ≤ _)⟩)
    dsimp only [Pt.U, Pt.locs, Pt.cells, Pt.slots] at X1 l1 y1 z1 st1 hQ1
    subst l1 y1 z1
    obtain ⟨rfl, N1q, e1⟩ := hQ1
    have N1 := Fr.app N0 N1q
    obtain ⟨_, _, ⟨T2, L2, k2x, n2⟩, -, X2, ⟨Lc2, hQ2, l2, y2, z2⟩, st2⟩ := Jvm.LawKit.callS X1 hx (y := (⟨"com/example/edictum/edictum/io/XpathTokensNamesNextPinLaw", "endsOperand", "(Lcom/example/edictum/edictum/io/XpathTokens$Kind;)Z"⟩ : MethodName)) hown (mvT hZ (tw hw 8 rfl)) (mvT hZ (tw hw 9 rfl)) (mvT hZ (tw hw 3 rfl)) (mvT hZ (tw hw 10 rfl)) (by decide) (backOf (W := 0) (rm2_11 l Z a0 hw [] w12 w2 w3 w4 w5 w6 w7 w8 w9 w10 w11 h0 n0 Z0 S2 O0 F_w12_ordinal F_w2_ordinal S4 F_w3_ordinal S6 F_w4_ordinal S8 F_w5_ordinal S10 F_w6_ordinal S12 F_w7_ordinal S14 F_w8_ordinal S16 F_w9_ordinal S18 F_w10_ordinal S20 F_w11_ordinal) hZ (tw hw 10 rfl) (tw hw 3 rfl) (by decide) (by decide)) (g := (mkF m 14 #[iv p0s, iv 3, rv w12, .unset] [(.ref w12)])) rfl (by rw [hml]; rfl) (argsL := [(.ref w12)]) (rest := []) (lenOf pd_1 rfl) rfl (by show 2 * 0 + _ ≤ _; exact Nat.le_of_eq rfl) (hb hby at_14) (fun _ _ => ⟨rfl, e1, (by decide : 0 + 0 ≤ _), (by decide : 0 + 0 ≤ _)⟩)
    dsimp only [Pt.U, Pt.locs, Pt.cells, Pt.slots] at X2 l2 y2 z2 st2 hQ2
    subst l2 y2 z2
    obtain ⟨rfl, N2q, e2⟩ := hQ2
    have N2 := Fr.app N1 N2q
    obtain ⟨cq3, kq3, q3a, q3b, q3c⟩ := isOf hZ e2 (E_w12.ext O0.2)
    obtain ⟨_, _, ⟨T3, L3, k3x, n3⟩, -, X3, ⟨Lc3, hQ3, l3, y3, z3⟩, st3⟩ := X2.virtualBack hx (y := (⟨"com/example/edictum/edictum/io/XpathTokens$Kind", "namesNext", "()Z"⟩ : MethodName)) (z := (⟨"com/example/edictum/edictum/io/XpathTokens$Kind", "namesNext", "()Z"⟩ : MethodName)) hown (mvT hZ (tw hw 31 rfl)) (mvT hZ (tw hw 32 rfl)) (notFace_of_selects (args := #[]) (mvT hZ (tw hw 34 rfl))) (mvT hZ (tw hw 34 rfl)) (mvT hZ (tw hw 33 rfl)) (by decide) (backOf (W := 0) (rm3_12 l Z a0 hw [] w12 w1 w13 w14 h0 n0 Z0 S0 O0 F_w12_ordinal F_w1_ordinal S24 F_w13_ordinal S26 F_w14_ordinal S22) hZ (tw hw 35 rfl) (tw hw 6 rfl) (by decide) (by decide)) q3a q3c (g := (mkF m 27 #[iv p0s, iv 3, rv w12, iv 1] [(.ref w12)])) rfl (by rw [hml]; rfl) (Steps.refl _) (argsL := []) (rest := []) (lenOf pd_2 rfl) rfl (by show 2 * 0 + _ ≤ _; exact Nat.le_of_eq rfl) (hb hby at_27) (fun _ _ => ⟨rfl, e2, (by decide : 0 + 0 ≤ _), (by decide : 0 + 0 ≤ _)⟩)
    dsimp only [Pt.U, Pt.locs, Pt.cells, Pt.slots] at X3 l3 y3 z3 st3 hQ3
    subst l3 y3 z3
    obtain ⟨rfl, N3q, e3⟩ := hQ3
    have N3 := Fr.app N2 N3q
    obtain ⟨fs, hr, hrun, hended, hW, hsame⟩ := X3.leave (v := some (.int (1 : Int32))) (fun h => by rw [hre] at h; cases h)
    refine ⟨_, _, pre0 _ (pre1 _ (?_)), hrun, hended, _, _, rfl, ?_, ⟨_, rfl⟩, hW, hsame.mono (by decide) (by decide)⟩
    · show SF p e below s₁ (mkF m 7 #[iv p0s, .unset, .unset, .unset] [(.int ((p0s &&& (2147483647 : Int32)) % (18 : Int32)))]) _
      rw [hc1]
      show SF p e below s₁ (mkF m 7 #[iv p0s, .unset, .unset, .unset] [(.int 3)]) _
      refine XS.istoreN X0.here hx rfl (hb hby at_7) rfl (l' := #[iv p0s, iv 3, .unset, .unset]) rfl ?_
      show SF p e below s₁ (mkF m 8 #[iv p0s, iv 3, .unset, .unset] []) _
      refine XS.iloadN X0.here hx rfl (hb hby at_8) rfl ?_
      show SF p e below s₁ (mkF m 9 #[iv p0s, iv 3, .unset, .unset] [(.int 3)]) _
      refine st1 _ ?_
      show SF p e below T1 (mkF m 12 #[iv p0s, iv 3, .unset, .unset] [(.ref w12)]) _
      refine XS.astoreN X1.here hx rfl (hb hby at_12) rfl rfl (l' := #[iv p0s, iv 3, rv w12, .unset]) rfl ?_
      show SF p e below T1 (mkF m 13 #[iv p0s, iv 3, rv w12, .unset] []) _
      refine XS.aloadN X1.here hx rfl (hb hby at_13) rfl rfl ?_
      show SF p e below T1 (mkF m 14 #[iv p0s, iv 3, rv w12, .unset] [(.ref w12)]) _
      refine st2 _ ?_
      show SF p e below T2 (mkF m 17 #[iv p0s, iv 3, rv w12, .unset] [(.int 0)]) _
      refine XS.ifNo X2.here hx rfl (hb hby at_17) rfl ((if0 _ _).trans (teq (by decide : (0 : Int32) = (0 : Int32))).2) ?_
      show SF p e below T2 (mkF m 20 #[iv p0s, iv 3, rv w12, .unset] []) _
      refine XS.iconst X2.here hx rfl (hb hby at_20) ?_
      show SF p e below T2 (mkF m 21 #[iv p0s, iv 3, rv w12, .unset] [(.int 1)]) _
      refine XS.goto X2.here hx rfl (pc0 := 21) (pc' := 25) rfl (hb hby at_21) (by decide) (by decide) ?_
      show SF p e below T2 (mkF m 25 #[iv p0s, iv 3, rv w12, .unset] [(.int 1)]) _
      refine XS.istoreN X2.here hx rfl (hb hby at_25) rfl (l' := #[iv p0s, iv 3, rv w12, iv 1]) rfl ?_
      show SF p e below T2 (mkF m 26 #[iv p0s, iv 3, rv w12, iv 1] []) _
      refine XS.aloadN X2.here hx rfl (hb hby at_26) rfl rfl ?_
      show SF p e below T2 (mkF m 27 #[iv p0s, iv 3, rv w12, iv 1] [(.ref w12)]) _
      refine st3.trans ?_
      show SF p e below T3 (mkF m 30 #[iv p0s, iv 3, rv w12, iv 1] [(.int 1)]) _
      refine XS.iloadN X3.here hx rfl (hb hby at_30) rfl ?_
      show SF p e below T3 (mkF m 31 #[iv p0s, iv 3, rv w12, iv 1] [(.int 1), (.int 1)]) _
      refine XS.icmpNo X3.here hx rfl (hb hby at_31) rfl (teq (by decide : (1 : Int32) = (1 : Int32))).2 ?_
      show SF p e below T3 (mkF m 34 #[iv p0s, iv 3, rv w12, iv 1] []) _
      refine XS.iconst X3.here hx rfl (hb hby at_34) ?_
      show SF p e below T3 (mkF m 35 #[iv p0s, iv 3, rv w12, iv 1] [(.int 1)]) _
      refine XS.goto X3.here hx rfl (pc0 := 35) (pc' := 39) rfl (hb hby at_35) (by decide) (by decide) ?_
      show SF p e below T3 (mkF m 39 #[iv p0s, iv 3, rv w12, iv 1] [(.int 1)]) _
      exact retN X3 hx (t := .boolean) hre (by simp) (hb hby at_39) hr
    · exact ⟨rfl, N3⟩
  · obtain ⟨_, _, ⟨T1, L1, k1x, n1⟩, -, X1, ⟨Lc1, hQ1, l1, y1, z1⟩, st1⟩ := Jvm.LawKit.callS X0 hx (y := (⟨"com/example/edictum/edictum/io/XpathTokensNamesNextPinLaw", "kindOf", "(I)Lcom/example/edictum/edictum/io/XpathTokens$Kind;"⟩ : MethodName)) hown (mvT hZ (tw hw 1 rfl)) (mvT hZ (tw hw 2 rfl)) (mvT hZ (tw hw 3 rfl)) (mvT hZ (tw hw 4 rfl)) (by decide) (backOf (W := 0) (rm1_13 l Z a0 hw [] w16 h0 n0 Z0 S30 O0) hZ (tw hw 4 rfl) (tw hw 3 rfl) (by decide) (by decide)) (g := (mkF m 9 #[iv p0s, iv 4, .unset, .unset] [(.int 4)])) rfl (by rw [hml]; rfl) (argsL := [(.int 4)]) (rest := []) (lenOf pd_0 rfl) rfl (by show 2 * 0 + _ ≤ _; exact Nat.le_of_eq rfl) (hb hby at_9) (fun _ _ => ⟨rfl, e0, (by decide : 0 + 0 ≤ _), (by decide : 0 + 0 ≤ _)⟩)
    dsimp only [Pt.U, Pt.locs, Pt.cells, Pt.slots] at X1 l1 y1 z1 st1 hQ1
    subst l1 y1 z1
    obtain ⟨rfl, N1q, e1⟩ := hQ1
    have N1 := Fr.app N0 N1q
    obtain ⟨_, _, ⟨T2, L2, k2x, n2⟩, -, X2, ⟨Lc2, hQ2, l2, y2, z2⟩, st2⟩ := Jvm.LawKit.callS X1 hx (y := (⟨"com/example/edictum/edictum/io/XpathTokensNamesNextPinLaw", "endsOperand", "(Lcom/example/edictum/edictum/io/XpathTokens$Kind;)Z"⟩ : MethodName)) hown (mvT hZ (tw hw 8 rfl)) (mvT hZ (tw hw 9 rfl)) (mvT hZ (tw hw 3 rfl)) (mvT hZ (tw hw 10 rfl)) (by decide) (backOf (W := 0) (rm2_14 l Z a0 hw [] w16 w2 w3 w4 w5 w6 w7 w8 w9 w10 w11 h0 n0 Z0 S2 O0 F_w16_ordinal F_w2_ordinal S4 F_w3_ordinal S6 F_w4_ordinal S8 F_w5_ordinal S10 F_w6_ordinal S12 F_w7_ordinal S14 F_w8_ordinal S16 F_w9_ordinal S18 F_w10_ordinal S20 F_w11_ordinal) hZ (tw hw 10 rfl) (tw hw 3 rfl) (by decide) (by decide)) (g := (mkF m 14 #[iv p0s, iv 4, rv w16, .unset] [(.ref w16)])) rfl (by rw [hml]; rfl) (argsL := [(.ref w16)]) (rest := []) (lenOf pd_1 rfl) rfl (by show 2 * 0 + _ ≤ _; exact Nat.le_of_eq rfl) (hb hby at_14) (fun _ _ => ⟨rfl, e1, (by decide : 0 + 0 ≤ _), (by decide : 0 + 0 ≤ _)⟩)
    dsimp only [Pt.U, Pt.locs, Pt.cells, Pt.slots] at X2 l2 y2 z2 st2 hQ2
    subst l2 y2 z2
    obtain ⟨rfl, N2q, e2⟩ := hQ2
    have N2 := Fr.app N1 N2q
    obtain ⟨cq3, kq3, q3a, q3b, q3c⟩ := isOf hZ e2 (E_w16.ext O0.2)
    obtain ⟨_, _, ⟨T3, L3, k3x, n3⟩, -, X3, ⟨Lc3, hQ3, l3, y3, z3⟩, st3⟩ := X2.virtualBack hx (y := (⟨"com/example/edictum/edictum/io/XpathTokens$Kind", "namesNext", "()Z"⟩ : MethodName)) (z := (⟨"com/example/edictum/edictum/io/XpathTokens$Kind", "namesNext", "()Z"⟩ : MethodName)) hown (mvT hZ (tw hw 31 rfl)) (mvT hZ (tw hw 32 rfl)) (notFace_of_selects (args := #[]) (mvT hZ (tw hw 34 rfl))) (mvT hZ (tw hw 34 rfl)) (mvT hZ (tw hw 33 rfl)) (by decide) (backOf (W := 0) (rm3_15 l Z a0 hw [] w16 w1 w13 w14 w12 h0 n0 Z0 S0 O0 F_w16_ordinal F_w1_ordinal S24 F_w13_ordinal S26 F_w14_ordinal S22 F_w12_ordinal S30) hZ (tw hw 35 rfl) (tw hw 6 rfl) (by decide) (by decide)) q3a q3c (g := (mkF m 27 #[iv p0s, iv 4, rv w16, iv 1] [(.ref w16)])) rfl (by rw [hml]; rfl) (Steps.refl _) (argsL := []) (rest := []) (lenOf pd_2 rfl) rfl (by show 2 * 0 + _ ≤ _; exact Nat.le_of_eq rfl) (hb hby at_27) (fun _ _ => ⟨rfl, e2, (by decide : 0 + 0 ≤ _), (by decide : 0 + 0 ≤ _)⟩)
    dsimp only [Pt.U, Pt.locs, Pt.cells, Pt.slots] at X3 l3 y3 z3 st3 hQ3
    subst l3 y3 z3
    obtain ⟨rfl, N3q, e3⟩ := hQ3
    have N3 := Fr.app N2 N3q
    obtain ⟨fs, hr, hrun, hended, hW, hsame⟩ := X3.leave (v := some (.int (1 : Int32))) (fun h => by rw [hre] at h; cases h)
    refine ⟨_, _, pre0 _ (pre1 _ (?_)), hrun, hended, _, _, rfl, ?_, ⟨_, rfl⟩, hW, hsame.mono (by decide) (by decide)⟩
    · show SF p e below s₁ (mkF m 7 #[iv p0s, .unset, .unset, .unset] [(.int ((p0s &&& (2147483647 : Int32)) % (18 : Int32)))]) _
      rw [hc1]
      show SF p e below s₁ (mkF m 7 #[iv p0s, .unset, .unset, .unset] [(.int 4)]) _
      refine XS.istoreN X0.here hx rfl (hb hby at_7) rfl (l' := #[iv p0s, iv 4, .unset, .unset]) rfl ?_
      show SF p e below s₁ (mkF m 8 #[iv p0s, iv 4, .unset, .unset] []) _
      refine XS.iloadN X0.here hx rfl (hb hby at_8) rfl ?_
      show SF p e below s₁ (mkF m 9 #[iv p0s, iv 4, .unset, .unset] [(.int 4)]) _
      refine st1 _ ?_
      show SF p e below T1 (mkF m 12 #[iv p0s, iv 4, .unset, .unset] [(.ref w16)]) _
      refine XS.astoreN X1.here hx rfl (hb hby at_12) rfl rfl (l' := #[iv p0s, iv 4, rv w16, .unset]) rfl ?_
      show SF p e below T1 (mkF m 13 #[iv p0s, iv 4, rv w16, .unset] []) _
      refine XS.aloadN X1.here hx rfl (hb hby at_13) rfl rfl ?_
      show SF p e below T1 (mkF m 14 #[iv p0s, iv 4, rv w16, .unset] [(.ref w16)]) _
      refine st2 _ ?_
      show SF p e below T2 (mkF m 17 #[iv p0s, iv 4, rv w16, .unset] [(.int 0)]) _
      refine XS.ifNo X2.here hx rfl (hb hby at_17) rfl ((if0 _ _).trans (teq (by decide : (0 : Int32) = (0 : Int32))).2) ?_
      show SF p e below T2 (mkF m 20 #[iv p0s, iv 4, rv w16, .unset] []) _
      refine XS.iconst X2.here hx rfl (hb hby at_20) ?_
      show SF p e below T2 (mkF m 21 #[iv p0s, iv 4, rv w16, .unset] [(.int 1)]) _
      refine XS.goto X2.here hx rfl (pc0 := 21) (pc' := 25) rfl (hb hby at_21) (by decide) (by decide) ?_
      show SF p e below T2 (mkF m 25 #[iv p0s, iv 4, rv w16, .unset] [(.int 1)]) _
      refine XS.istoreN X2.here hx rfl (hb hby at_25) rfl (l' := #[iv p0s, iv 4, rv w16, iv 1]) rfl ?_
      show SF p e below T2 (mkF m 26 #[iv p0s, iv 4, rv w16, iv 1] []) _
      refine XS.aloadN X2.here hx rfl (hb hby at_26) rfl rfl ?_
      show SF p e below T2 (mkF m 27 #[iv p0s, iv 4, rv w16, iv 1] [(.ref w16)]) _
      refine st3.trans ?_
      show SF p e below T3 (mkF m 30 #[iv p0s, iv 4, rv w16, iv 1] [(.int 1)]) _
      refine XS.iloadN X3.here hx rfl (hb hby at_30) rfl ?_
      show SF p e below T3 (mkF m 31 #[iv p0s, iv 4, rv w16, iv 1] [(.int 1), (.int 1)]) _
      refine XS.icmpNo X3.here hx rfl (hb hby at_31) rfl (teq (by decide : (1 : Int32) = (1 : Int32))).2 ?_
      show SF p e below T3 (mkF m 34 #[iv p0s, iv 4, rv w16, iv 1] []) _
      refine XS.iconst X3.here hx rfl (hb hby at_34) ?_
      show SF p e below T3 (mkF m 35 #[iv p0s, iv 4, rv w16, iv 1] [(.int 1)]) _
      refine XS.goto X3.here hx rfl (pc0 := 35) (pc' := 39) rfl (hb hby at_35) (by decide) (by decide) ?_
      show SF p e below T3 (mkF m 39 #[iv p0s, iv 4, rv w16, iv 1] [(.int 1)]) _
      exact retN X3 hx (t := .boolean) hre (by simp) (hb hby at_39) hr
    · exact ⟨rfl, N3⟩
  · obtain ⟨_, _, ⟨T1, L1, k1x, n1⟩, -, X1, ⟨Lc1, hQ1, l1, y1, z1⟩, st1⟩ := Jvm.LawKit.callS X0 hx (y := (⟨"com/example/edictum/edictum/io/XpathTokensNamesNextPinLaw", "kindOf", "(I)Lcom/example/edictum/edictum/io/XpathTokens$Kind;"⟩ : MethodName)) hown (mvT hZ (tw hw 1 rfl)) (mvT hZ (tw hw 2 rfl)) (mvT hZ (tw hw 3 rfl)) (mvT hZ (tw hw 4 rfl)) (by decide) (backOf (W := 0) (rm1_16 l Z a0 hw [] w2 h0 n0 Z0 S2 O0) hZ (tw hw 4 rfl) (tw hw 3 rfl) (by decide) (by decide)) (g := (mkF m 9 #[iv p0s, iv 5, .unset, .unset] [(.int 5)])) rfl (by rw [hml]; rfl) (argsL := [(.int 5)]) (rest := []) (lenOf pd_0 rfl) rfl (by show 2 * 0 + _ ≤ _; exact Nat.le_of_eq rfl) (hb hby at_9) (fun _ _ => ⟨rfl, e0, (by decide : 0 + 0 ≤ _), (by decide : 0 + 0 ≤ _)⟩)
    dsimp only [Pt.U, Pt.locs, Pt.cells, Pt.slots] at X1 l1 y1 z1 st1 hQ1
    subst l1 y1 z1
    obtain ⟨rfl, N1q, e1⟩ := hQ1
    have N1 := Fr.app N0 N1q
    obtain ⟨_, _, ⟨T2, L2, k2x, n2⟩, -, X2, ⟨Lc2, hQ2, l2, y2, z2⟩, st2⟩ := Jvm.LawKit.callS X1 hx (y := (⟨"com/example/edictum/edictum/io/XpathTokensNamesNextPinLaw", "endsOperand", "(Lcom/example/edictum/edictum/io/XpathTokens$Kind;)Z"⟩ : MethodName)) hown (mvT hZ (tw hw 8 rfl)) (mvT hZ (tw hw 9 rfl)) (mvT hZ (tw hw 3 rfl)) (mvT hZ (tw hw 10 rfl)) (by decide) (backOf (W := 0) (rm2_17 l Z a0 hw [] w2 h0 n0 Z0 S2 O0) hZ (tw hw 10 rfl) (tw hw 3 rfl) (by decide) (by decide)) (g := (mkF m 14 #[iv p0s, iv 5, rv w2, .unset] [(.ref w2)])) rfl (by rw [hml]; rfl) (argsL := [(.ref w2)]) (rest := []) (lenOf pd_1 rfl) rfl (by show 2 * 0 + _ ≤ _; exact Nat.le_of_eq rfl) (hb hby at_14) (fun _ _ => ⟨rfl, e1, (by decide : 0 + 0 ≤ _), (by decide : 0 + 0 ≤ _)⟩)
    dsimp only [Pt.U, Pt.locs, Pt.cells, Pt.slots] at X2 l2 y2 z2 st2 hQ2
    subst l2 y2 z2
    obtain ⟨rfl, N2q, e2⟩ := hQ2
    have N2 := Fr.app N1 N2q
    obtain ⟨cq3, kq3, q3a, q3b, q3c⟩ := isOf hZ e2 (E_w2.ext O0.2)
    obtain ⟨_, _, ⟨T3, L3, k3x, n3⟩, -, X3, ⟨Lc3, hQ3, l3, y3, z3⟩, st3⟩ := X2.virtualBack hx (y := (⟨"com/example/edictum/edictum/io/XpathTokens$Kind", "namesNext", "()Z"⟩ : MethodName)) (z := (⟨"com/example/edictum/edictum/io/XpathTokens$Kind", "namesNext", "()Z"⟩ : MethodName)) hown (mvT hZ (tw hw 31 rfl)) (mvT hZ (tw hw 32 rfl)) (notFace_of_selects (args := #[]) (mvT hZ (tw hw 34 rfl))) (mvT hZ (tw hw 34 rfl)) (mvT hZ (tw hw 33 rfl)) (by decide) (backOf (W := 0) (rm3_18 l Z a0 hw [] w2 w1 w13 w14 w12 w16 w15 w17 w18 h0 n0 Z0 S0 O0 F_w2_ordinal F_w1_ordinal S24 F_w13_ordinal S26 F_w14_ordinal S22 F_w12_ordinal S30 F_w16_ordinal S28 F_w15_ordinal S32 F_w17_ordinal S34 F_w18_ordinal) hZ (tw hw 35 rfl) (tw hw 6 rfl) (by decide) (by decide)) q3a q3c (g := (mkF m 27 #[iv p0s, iv 5, rv w2, iv 0] [(.ref w2)])) rfl (by rw [hml]; rfl) (Steps.refl _) (argsL := []) (rest := []) (lenOf pd_2 rfl) rfl (by show 2 * 0 + _ ≤ _; exact Nat.le_of_eq rfl) (hb hby at_27) (fun _ _ => ⟨rfl, e2, (by decide : 0 + 0 ≤ _), (by decide : 0 + 0 ≤ _)⟩)
    dsimp only [Pt.U, Pt.locs, Pt.cells, Pt.slots] at X3 l3 y3 z3 st3 hQ3
    subst l3 y3 z3
    obtain ⟨rfl, N3q, e3⟩ := hQ3
    have N3 := Fr.app N2 N3q
    obtain ⟨fs, hr, hrun, hended, hW, hsame⟩ := X3.leave (v := some (.int (1 : Int32))) (fun h => by rw [hre] at h; cases h)
    refine ⟨_, _, pre0 _ (pre1 _ (?_)), hrun, hended, _, _, rfl, ?_, ⟨_, rfl⟩, hW, hsame.mono (by decide) (by decide)⟩
    · show SF p e below s₁ (mkF m 7 #[iv p0s, .unset, .unset, .unset] [(.int ((p0s &&& (2147483647 : Int32)) % (18 : Int32)))]) _
      rw [hc1]
      show SF p e below s₁ (mkF m 7 #[iv p0s, .unset, .unset, .unset] [(.int 5)]) _
      refine XS.istoreN X0.here hx rfl (hb hby at_7) rfl (l' := #[iv p0s, iv 5, .unset, .unset]) rfl ?_
      show SF p e below s₁ (mkF m 8 #[iv p0s, iv 5, .unset, .unset] []) _
      refine XS.iloadN X0.here hx rfl (hb hby at_8) rfl ?_
      show SF p e below s₁ (mkF m 9 #[iv p0s, iv 5, .unset, .unset] [(.int 5)]) _
      refine st1 _ ?_
      show SF p e below T1 (mkF m 12 #[iv p0s, iv 5, .unset, .unset] [(.ref w2)]) _
      refine XS.astoreN X1.here hx rfl (hb hby at_12) rfl rfl (l' := #[iv p0s, iv 5, rv w2, .unset]) rfl ?_
      show SF p e below T1 (mkF m 13 #[iv p0s, iv 5, rv w2, .unset] []) _
      refine XS.aloadN X1.here hx rfl (hb hby at_13) rfl rfl ?_
      show SF p e below T1 (mkF m 14 #[iv p0s, iv 5, rv w2, .unset] [(.ref w2)]) _
      refine st2 _ ?_
      show SF p e below T2 (mkF m 17 #[iv p0s, iv 5, rv w2, .unset] [(.int 1)]) _
      refine XS.ifYes X2.here hx rfl (pc0 := 17) (pc' := 24) rfl (hb hby at_17) rfl ((if0 _ _).trans (feq (by decide : ¬ ((1 : Int32) = (0 : Int32)))).2) (by decide) (by decide) ?_
      show SF p e below T2 (mkF m 24 #[iv p0s, iv 5, rv w2, .unset] []) _
      refine XS.iconst X2.here hx rfl (hb hby at_24) ?_
      show SF p e below T2 (mkF m 25 #[iv p0s, iv 5, rv w2, .unset] [(.int 0)]) _
      refine XS.istoreN X2.here hx rfl (hb hby at_25) rfl (l' := #[iv p0s, iv 5, rv w2, iv 0]) rfl ?_
      show SF p e below T2 (mkF m 26 #[iv p0s, iv 5, rv w2, iv 0] []) _
      refine XS.aloadN X2.here hx rfl (hb hby at_26) rfl rfl ?_
      show SF p e below T2 (mkF m 27 #[iv p0s, iv 5, rv w2, iv 0] [(.ref w2)]) _
      refine st3.trans ?_
      show SF p e below T3 (mkF m 30 #[iv p0s, iv 5, rv w2, iv 0] [(.int 0)]) _
      refine XS.iloadN X3.here hx rfl (hb hby at_30) rfl ?_
      show SF p e below T3 (mkF m 31 #[iv p0s, iv 5, rv w2, iv 0] [(.int 0), (.int 0)]) _
      refine XS.icmpNo X3.here hx rfl (hb hby at_31) rfl (teq (by decide : (0 : Int32) = (0 : Int32))).2 ?_
      show SF p e below T3 (mkF m 34 #[iv p0s, iv 5, rv w2, iv 0] []) _
      refine XS.iconst X3.here hx rfl (hb hby at_34) ?_
      show SF p e below T3 (mkF m 35 #[iv p0s, iv 5, rv w2, iv 0] [(.int 1)]) _
      refine XS.goto X3.here hx rfl (pc0 := 35) (pc' := 39) rfl (hb hby at_35) (by decide) (by decide) ?_
      show SF p e below T3 (mkF m 39 #[iv p0s, iv 5, rv w2, iv 0] [(.int 1)]) _
      exact retN X3 hx (t := .boolean) hre (by simp) (hb hby at_39) hr
    · exact ⟨rfl, N3⟩
  · obtain ⟨_, _, ⟨T1, L1, k1x, n1⟩, -, X1, ⟨Lc1, hQ1, l1, y1, z1⟩, st1⟩ := Jvm.LawKit.callS X0 hx (y := (⟨"com/example/edictum/edictum/io/XpathTokensNamesNextPinLaw", "kindOf", "(I)Lcom/example/edictum/edictum/io/XpathTokens$Kind;"⟩ : MethodName)) hown (mvT hZ (tw hw 1 rfl)) (mvT hZ (tw hw 2 rfl)) (mvT hZ (tw hw 3 rfl)) (mvT hZ (tw hw 4 rfl)) (by decide) (backOf (W := 0) (rm1_19 l Z a0 hw [] w3 h0 n0 Z0 S4 O0) hZ (tw hw 4 rfl) (tw hw 3 rfl) (by decide) (by decide)) (g := (mkF m 9 #[iv p0s, iv 6, .unset, .unset] [(.int 6)])) rfl (by rw [hml]; rfl) (argsL := [(.int 6)]) (rest := []) (lenOf pd_0 rfl) rfl (by show 2 * 0 + _ ≤ _; exact Nat.le_of_eq rfl) (hb hby at_9) (fun _ _ => ⟨rfl, e0, (by decide : 0 + 0 ≤ _), (by decide : 0 + 0 ≤ _)⟩)
    dsimp only [Pt.U, Pt.locs, Pt.cells, Pt.slots] at X1 l1 y1 z1 st1 hQ1
    subst l1 y1 z1
    obtain ⟨rfl, N1q, e1⟩ := hQ1
    have N1 := Fr.app N0 N1q
    obtain ⟨_, _, ⟨T2, L2, k2x, n2⟩, -, X2, ⟨Lc2, hQ2, l2, y2, z2⟩, st2⟩ := Jvm.LawKit.callS X1 hx (y := (⟨"com/example/edictum/edictum/io/XpathTokensNamesNextPinLaw", "endsOperand", "(Lcom/example/edictum/edictum/io/XpathTokens$Kind;)Z"⟩ : MethodName)) hown (mvT hZ (tw hw 8 rfl)) (mvT hZ (tw hw 9 rfl)) (mvT hZ (tw hw 3 rfl)) (mvT hZ (tw hw 10 rfl)) (by decide) (backOf (W := 0) (rm2_20 l Z a0 hw [] w3 w2 h0 n0 Z0 S2 O0 F_w3_ordinal F_w2_ordinal S4) hZ (tw hw 10 rfl) (tw hw 3 rfl) (by decide) (by decide)) (g := (mkF m 14 #[iv p0s, iv 6, rv w3, .unset] [(.ref w3)])) rfl (by rw [hml]; rfl) (argsL := [(.ref w3)]) (rest := []) (lenOf pd_1 rfl) rfl (by show 2 * 0 + _ ≤ _; exact Nat.le_of_eq rfl) (hb hby at_14) (fun _ _ => ⟨rfl, e1, (by decide : 0 + 0 ≤ _), (by decide : 0 + 0 ≤ _)⟩)
    dsimp only [Pt.U, Pt.locs, Pt.cells, Pt.slots] at X2 l2 y2 z2 st2 hQ2
    subst l2 y2 z2
    obtain ⟨rfl, N2q, e2⟩ := hQ2
    have N2 := Fr.app N1 N2q
    obtain ⟨cq3, kq3, q3a, q3b, q3c⟩ := isOf hZ e2 (E_w3.ext O0.2)
    obtain ⟨_, _, ⟨T3, L3, k3x, n3⟩, -, X3, ⟨Lc3, hQ3, l3, y3, z3⟩, st3⟩ := X2.virtualBack hx (y := (⟨"com/example/edictum/edictum/io/XpathTokens$Kind", "namesNext", "()Z"⟩ : MethodName)) (z := (⟨"com/example/edictum/edictum/io/XpathTokens$Kind", "namesNext", "()Z"⟩ : MethodName)) hown (mvT hZ (tw hw 31 rfl)) (mvT hZ (tw hw 32 rfl)) (notFace_of_selects (args := #[]) (mvT hZ (tw hw 34 rfl))) (mvT hZ (tw hw 34 rfl)) (mvT hZ (tw hw 33 rfl)) (by decide) (backOf (W := 0) (rm3_21 l Z a0 hw [] w3 w1 w13 w14 w12 w16 w15 w17 w18 h0 n0 Z0 S0 O0 F_w3_ordinal F_w1_ordinal S24 F_w13_ordinal S26 F_w14_ordinal S22 F_w12_ordinal S30 F_w16_ordinal S28 F_w15_ordinal S32 F_w17_ordinal S34 F_w18_ordinal) hZ (tw hw 35 rfl) (tw hw 6 rfl) (by decide) (by decide)) q3a q3c (g := (mkF m 27 #[iv p0s, iv 6, rv w3, iv 0] [(.ref w3)])) rfl (by rw [hml]; rfl) (Steps.refl _) (argsL := []) (rest := []) (lenOf pd_2 rfl) rfl (by show 2 * 0 + _ ≤ _; exact Nat.le_of_eq rfl) (hb hby at_27) (fun _ _ => ⟨rfl, e2, (by decide : 0 + 0 ≤ _), (by decide : 0 + 0 ≤ _)⟩)
    dsimp only [Pt.U, Pt.locs, Pt.cells, Pt.slots] at X3 l3 y3 z3 st3 hQ3
    subst l3 y3 z3
    obtain ⟨rfl, N3q, e3⟩ := hQ3
    have N3 := Fr.app N2 N3q
    obtain ⟨fs, hr, hrun, hended, hW, hsame⟩ := X3.leave (v := some (.int (1 : Int32))) (fun h => by rw [hre] at h; cases h)
    refine ⟨_, _, pre0 _ (pre1 _ (?_)), hrun, hended, _, _, rfl, ?_, ⟨_, rfl⟩, hW, hsame.mono (by decide) (by decide)⟩
    · show SF p e below s₁ (mkF m 7 #[iv p0s, .unset, .unset, .unset] [(.int ((p0s &&& (2147483647 : Int32)) % (18 : Int32)))]) _
      rw [hc1]
      show SF p e below s₁ (mkF m 7 #[iv p0s, .unset, .unset, .unset] [(.int 6)]) _
      refine XS.istoreN X0.here hx rfl (hb hby at_7) rfl (l' := #[iv p0s, iv 6, .unset, .unset]) rfl ?_
      show SF p e below s₁ (mkF m 8 #[iv p0s, iv 6, .unset, .unset] []) _
      refine XS.iloadN X0.here hx rfl (hb hby at_8) rfl ?_
      show SF p e below s₁ (mkF m 9 #[iv p0s, iv 6, .unset, .unset] [(.int 6)]) _
      refine st1 _ ?_
      show SF p e below T1 (mkF m 12 #[iv p0s, iv 6, .unset, .unset] [(.ref w3)]) _
      refine XS.astoreN X1.here hx rfl (hb hby at_12) rfl rfl (l' := #[iv p0s, iv 6, rv w3, .unset]) rfl ?_
      show SF p e below T1 (mkF m 13 #[iv p0s, iv 6, rv w3, .unset] []) _
      refine XS.aloadN X1.here hx rfl (hb hby at_13) rfl rfl ?_
      show SF p e below T1 (mkF m 14 #[iv p0s, iv 6, rv w3, .unset] [(.ref w3)]) _
      refine st2 _ ?_
      show SF p e below T2 (mkF m 17 #[iv p0s, iv 6, rv w3, .unset] [(.int 1)]) _
      refine XS.ifYes X2.here hx rfl (pc0 := 17) (pc' := 24) rfl (hb hby at_17) rfl ((if0 _ _).trans (feq (by decide : ¬ ((1 : Int32) = (0 : Int32)))).2) (by decide) (by decide) ?_
      show SF p e below T2 (mkF m 24 #[iv p0s, iv 6, rv w3, .unset] []) _
      refine XS.iconst X2.here hx rfl (hb hby at_24) ?_
      show SF p e below T2 (mkF m 25 #[iv p0s, iv 6, rv w3, .unset] [(.int 0)]) _
      refine XS.istoreN X2.here hx rfl (hb hby at_25) rfl (l' := #[iv p0s, iv 6, rv w3, iv 0]) rfl ?_
      show SF p e below T2 (mkF m 26 #[iv p0s, iv 6, rv w3, iv 0] []) _
      refine XS.aloadN X2.here hx rfl (hb hby at_26) rfl rfl ?_
      show SF p e below T2 (mkF m 27 #[iv p0s, iv 6, rv w3, iv 0] [(.ref w3)]) _
      refine st3.trans ?_
      show SF p e below T3 (mkF m 30 #[iv p0s, iv 6, rv w3, iv 0] [(.int 0)]) _
      refine XS.iloadN X3.here hx rfl (hb hby at_30) rfl ?_
      show SF p e below T3 (mkF m 31 #[iv p0s, iv 6, rv w3, iv 0] [(.int 0), (.int 0)]) _
      refine XS.icmpNo X3.here hx rfl (hb hby at_31) rfl (teq (by decide : (0 : Int32) = (0 : Int32))).2 ?_
      show SF p e below T3 (mkF m 34 #[iv p0s, iv 6, rv w3, iv 0] []) _
      refine XS.iconst X3.here hx rfl (hb hby at_34) ?_
      show SF p e below T3 (mkF m 35 #[iv p0s, iv 6, rv w3, iv 0] [(.int 1)]) _
      refine XS.goto X3.here hx rfl (pc0 := 35) (pc' := 39) rfl (hb hby at_35) (by decide) (by decide) ?_
      show SF p e below T3 (mkF m 39 #[iv p0s, iv 6, rv w3, iv 0] [(.int 1)]) _
      exact retN X3 hx (t := .boolean) hre (by simp) (hb hby at_39) hr
    · exact ⟨rfl, N3⟩
  · obtain ⟨_, _, ⟨T1, L1, k1x, n1⟩, -, X1, ⟨Lc1, hQ1, l1, y1, z1⟩, st1⟩ := Jvm.LawKit.callS X0 hx (y := (⟨"com/example/edictum/edictum/io/XpathTokensNamesNextPinLaw", "kindOf", "(I)Lcom/example/edictum/edictum/io/XpathTokens$Kind;"⟩ : MethodName)) hown (mvT hZ (tw hw 1 rfl)) (mvT hZ (tw hw 2 rfl)) (mvT hZ (tw hw 3 rfl)) (mvT hZ (tw hw 4 rfl)) (by decide) (backOf (W := 0) (rm1_22 l Z a0 hw [] w15 h0 n0 Z0 S28 O0) hZ (tw hw 4 rfl) (tw hw 3 rfl) (by decide) (by decide)) (g := (mkF m 9 #[iv p0s, iv 7, .unset, .unset] [(.int 7)])) rfl (by rw [hml]; rfl) (argsL := [(.int 7)]) (rest := []) (lenOf pd_0 rfl) rfl (by show 2 * 0 + _ ≤ _; exact Nat.le_of_eq rfl) (hb hby at_9) (fun _ _ => ⟨rfl, e0, (by decide : 0 + 0 ≤ _), (by decide : 0 + 0 ≤ _)⟩)
    dsimp only [Pt.U, Pt.locs, Pt.cells, Pt.slots] at X1 l1 y1 z1 st1 hQ1
    subst l1 y1 z1
    obtain ⟨rfl, N1q, e1⟩ := hQ1
    have N1 := Fr.app N0 N1q
    obtain ⟨_, _, ⟨T2, L2, k2x, n2⟩, -, X2, ⟨Lc2, hQ2, l2, y2, z2⟩, st2⟩ := Jvm.LawKit.callS X1 hx (y := (⟨"com/example/edictum/edictum/io/XpathTokensNamesNextPinLaw", "endsOperand", "(Lcom/example/edictum/edictum/io/XpathTokens$Kind;)Z"⟩ : MethodName)) hown (mvT hZ (tw hw 8 rfl)) (mvT hZ (tw hw 9 rfl)) (mvT hZ (tw hw 3 rfl)) (mvT hZ (tw hw 10 rfl)) (by decide) (backOf (W := 0) (rm2_23 l Z a0 hw [] w15 w2 w3 w4 w5 w6 w7 w8 w9 w10 w11 h0 n0 Z0 S2 O0 F_w15_ordinal F_w2_ordinal S4 F_w3_ordinal S6 F_w4_ordinal S8 F_w5_ordinal S10 F_w6_ordinal S12 F_w7_ordinal S14 F_w8_ordinal S16 F_w9_ordinal S18 F_w10_ordinal S20 F_w11_ordinal) hZ (tw hw 10 rfl) (tw hw 3 rfl) (by decide) (by decide)) (g := (mkF m 14 #[iv p0s, iv 7, rv w15, .unset] [(.ref w15)])) rfl (by rw [hml]; rfl) (argsL := [(.ref w15)]) (rest := []) (lenOf pd_1 rfl) rfl (by show 2 * 0 + _ ≤ _; exact Nat.le_of_eq rfl) (hb hby at_14) (fun _ _ => ⟨rfl, e1, (by decide : 0 + 0 ≤ _), (by decide : 0 + 0 ≤ _)⟩)
    dsimp only [Pt.U, Pt.locs, Pt.cells, Pt.slots] at X2 l2 y2 z2 st2 hQ2
    subst l2 y2 z2
    obtain ⟨rfl, N2q, e2⟩ := hQ2
    have N2 := Fr.app N1 N2q
    obtain ⟨cq3, kq3, q3a, q3b, q3c⟩ := isOf hZ e2 (E_w15.ext O0.2)
    obtain ⟨_, _, ⟨T3, L3, k3x, n3⟩, -, X3, ⟨Lc3, hQ3, l3, y3, z3⟩, st3⟩ := X2.virtualBack hx (y := (⟨"com/example/edictum/edictum/io/XpathTokens$Kind", "namesNext", "()Z"⟩ : MethodName)) (z := (⟨"com/example/edictum/edictum/io/XpathTokens$Kind", "namesNext", "()Z"⟩ : MethodName)) hown (mvT hZ (tw hw 31 rfl)) (mvT hZ (tw hw 32 rfl)) (notFace_of_selects (args := #[]) (mvT hZ (tw hw 34 rfl))) (mvT hZ (tw hw 34 rfl)) (mvT hZ (tw hw 33 rfl)) (by decide) (backOf (W := 0) (rm3_24 l Z a0 hw [] w15 w1 w13 w14 w12 w16 h0 n0 Z0 S0 O0 F_w15_ordinal F_w1_ordinal S24 F_w13_ordinal S26 F_w14_ordinal S22 F_w12_ordinal S30 F_w16_ordinal S28) hZ (tw hw 35 rfl) (tw hw 6 rfl) (by decide) (by decide)) q3a q3c (g := (mkF m 27 #[iv p0s, iv 7, rv w15, iv 1] [(.ref w15)])) rfl (by rw [hml]; rfl) (Steps.refl _) (argsL := []) (rest := []) (lenOf pd_2 rfl) rfl (by show 2 * 0 + _ ≤ _; exact Nat.le_of_eq rfl) (hb hby at_27) (fun _ _ => ⟨rfl, e2, (by decide : 0 + 0 ≤ _), (by decide : 0 + 0 ≤ _)⟩)
    dsimp only [Pt.U, Pt.locs, Pt.cells, Pt.slots] at X3 l3 y3 z3 st3 hQ3
    subst l3 y3 z3
    obtain ⟨rfl, N3q, e3⟩ := hQ3
    have N3 := Fr.app N2 N3q
    obtain ⟨fs, hr, hrun, hended, hW, hsame⟩ := X3.leave (v := some (.int (1 : Int32))) (fun h => by rw [hre] at h; cases h)
    refine ⟨_, _, pre0 _ (pre1 _ (?_)), hrun, hended, _, _, rfl, ?_, ⟨_, rfl⟩, hW, hsame.mono (by decide) (by decide)⟩
    · show SF p e below s₁ (mkF m 7 #[iv p0s, .unset, .unset, .unset] [(.int ((p0s &&& (2147483647 : Int32)) % (18 : Int32)))]) _
      rw [hc1]
      show SF p e below s₁ (mkF m 7 #[iv p0s, .unset, .unset, .unset] [(.int 7)]) _
      refine XS.istoreN X0.here hx rfl (hb hby at_7) rfl (l' := #[iv p0s, iv 7, .unset, .unset]) rfl ?_
      show SF p e below s₁ (mkF m 8 #[iv p0s, iv 7, .unset, .unset] []) _
      refine XS.iloadN X0.here hx rfl (hb hby at_8) rfl ?_
      show SF p e below s₁ (mkF m 9 #[iv p0s, iv 7, .unset, .unset] [(.int 7)]) _
      refine st1 _ ?_
      show SF p e below T1 (mkF m 12 #[iv p0s, iv 7, .unset, .unset] [(.ref w15)]) _
      refine XS.astoreN X1.here hx rfl (hb hby at_12) rfl rfl (l' := #[iv p0s, iv 7, rv w15, .unset]) rfl ?_
      show SF p e below T1 (mkF m 13 #[iv p0s, iv 7, rv w15, .unset] []) _
      refine XS.aloadN X1.here hx rfl (hb hby at_13) rfl rfl ?_
      show SF p e below T1 (mkF m 14 #[iv p0s, iv 7, rv w15, .unset] [(.ref w15)]) _
      refine st2 _ ?_
      show SF p e below T2 (mkF m 17 #[iv p0s, iv 7, rv w15, .unset] [(.int 0)]) _
      refine XS.ifNo X2.here hx rfl (hb hby at_17) rfl ((if0 _ _).trans (teq (by decide : (0 : Int32) = (0 : Int32))).2) ?_
      show SF p e below T2 (mkF m 20 #[iv p0s, iv 7, rv w15, .unset] []) _
      refine XS.iconst X2.here hx rfl (hb hby at_20) ?_
      show SF p e below T2 (mkF m 21 #[iv p0s, iv 7, rv w15, .unset] [(.int 1)]) _
      refine XS.goto X2.here hx rfl (pc0 := 21) (pc' := 25) rfl (hb hby at_21) (by decide) (by decide) ?_
      show SF p e below T2 (mkF m 25 #[iv p0s, iv 7, rv w15, .unset] [(.int 1)]) _
      refine XS.istoreN X2.here hx rfl (hb hby at_25) rfl (l' := #[iv p0s, iv 7, rv w15, iv 1]) rfl ?_
      show SF p e below T2 (mkF m 26 #[iv p0s, iv 7, rv w15, iv 1] []) _
      refine XS.aloadN X2.here hx rfl (hb hby at_26) rfl rfl ?_
      show SF p e below T2 (mkF m 27 #[iv p0s, iv 7, rv w15, iv 1] [(.ref w15)]) _
      refine st3.trans ?_
      show SF p e below T3 (mkF m 30 #[iv p0s, iv 7, rv w15, iv 1] [(.int 1)]) _
      refine XS.iloadN X3.here hx rfl (hb hby at_30) rfl ?_
      show SF p e below T3 (mkF m 31 #[iv p0s, iv 7, rv w15, iv 1] [(.int 1), (.int 1)]) _
      refine XS.icmpNo X3.here hx rfl (hb hby at_31) rfl (teq (by decide : (1 : Int32) = (1 : Int32))).2 ?_
      show SF p e below T3 (mkF m 34 #[iv p0s, iv 7, rv w15, iv 1] []) _
      refine XS.iconst X3.here hx rfl (hb hby at_34) ?_
      show SF p e below T3 (mkF m 35 #[iv p0s, iv 7, rv w15, iv 1] [(.int 1)]) _
      refine XS.goto X3.here hx rfl (pc0 := 35) (pc' := 39) rfl (hb hby at_35) (by decide) (by decide) ?_
      show SF p e below T3 (mkF m 39 #[iv p0s, iv 7, rv w15, iv 1] [(.int 1)]) _
      exact retN X3 hx (t := .boolean) hre (by simp) (hb hby at_39) hr
    · exact ⟨rfl, N3⟩
  · obtain ⟨_, _, ⟨T1, L1, k1x, n1⟩, -, X1, ⟨Lc1, hQ1, l1, y1, z1⟩, st1⟩ := Jvm.LawKit.callS X0 hx (y := (⟨"com/example/edictum/edictum/io/XpathTokensNamesNextPinLaw", "kindOf", "(I)Lcom/example/edictum/edictum/io/XpathTokens$Kind;"⟩ : MethodName)) hown (mvT hZ (tw hw 1 rfl)) (mvT hZ (tw hw 2 rfl)) (mvT hZ (tw hw 3 rfl)) (mvT hZ (tw hw 4 rfl)) (by decide) (backOf (W := 0) (rm1_25 l Z a0 hw [] w17 h0 n0 Z0 S32 O0) hZ (tw hw 4 rfl) (tw hw 3 rfl) (by decide) (by decide)) (g := (mkF m 9 #[iv p0s, iv 8, .unset, .unset] [(.int 8)])) rfl (by rw [hml]; rfl) (argsL := [(.int 8)]) (rest := []) (lenOf pd_0 rfl) rfl (by show 2 * 0 + _ ≤ _; exact Nat.le_of_eq rfl) (hb hby at_9) (fun _ _ => ⟨rfl, e0, (by decide : 0 + 0 ≤ _), (by decide : 0 + 0 ≤ _)⟩)
    dsimp only [Pt.U, Pt.locs, Pt.cells, Pt.slots] at X1 l1 y1 z1 st1 hQ1
    subst l1 y1 z1
    obtain ⟨rfl, N1q, e1⟩ := hQ1
    have N1 := Fr.app N0 N1q
    obtain ⟨_, _, ⟨T2, L2, k2x, n2⟩, -, X2, ⟨Lc2, hQ2, l2, y2, z2⟩, st2⟩ := Jvm.LawKit.callS X1 hx (y := (⟨"com/example/edictum/edictum/io/XpathTokensNamesNextPinLaw", "endsOperand", "(Lcom/example/edictum/edictum/io/XpathTokens$Kind;)Z"⟩ : MethodName)) hown (mvT hZ (tw hw 8 rfl)) (mvT hZ (tw hw 9 rfl)) (mvT hZ (tw hw 3 rfl)) (mvT hZ (tw hw 10 rfl)) (by decide) (backOf (W := 0) (rm2_26 l Z a0 hw [] w17 w2 w3 w4 w5 w6 w7 w8 w9 w10 w11 h0 n0 Z0 S2 O0 F_w17_ordinal F_w2_ordinal S4 F_w3_ordinal S6 F_w4_ordinal S8 F_w5_ordinal S10 F_w6_ordinal S12 F_w7_ordinal S14 F_w8_ordinal S16 F_w9_ordinal S18 F_w10_ordinal S20 F_w11_ordinal) hZ (tw hw 10 rfl) (tw hw 3 rfl) (by decide) (by decide)) (g := (mkF m 14 #[iv p0s, iv 8, rv w17, .unset] [(.ref w17)])) rfl (by rw [hml]; rfl) (argsL := [(.ref w17)]) (rest := []) (lenOf pd_1 rfl) rfl (by show 2 * 0 + _ ≤ _; exact Nat.le_of_eq rfl) (hb hby at_14) (fun _ _ => ⟨rfl, e1, (by decide : 0 + 0 ≤ _), (by decide : 0 + 0 ≤ _)⟩)
    dsimp only [Pt.U, Pt.locs, Pt.cells, Pt.slots] at X2 l2 y2 z2 st2 hQ2
    subst l2 y2 z2
    obtain ⟨rfl, N2q, e2⟩ := hQ2
    have N2 := Fr.app N1 N2q
    obtain ⟨cq3, kq3, q3a, q3b, q3c⟩ := isOf hZ e2 (E_w17.ext O0.2)
    obtain ⟨_, _, ⟨T3, L3, k3x, n3⟩, -, X3, ⟨Lc3, hQ3, l3, y3, z3⟩, st3⟩ := X2.virtualBack hx (y := (⟨"com/example/edictum/edictum/io/XpathTokens$Kind", "namesNext", "()Z"⟩ : MethodName)) (z := (⟨"com/example/edictum/edictum/io/XpathTokens$Kind", "namesNext", "()Z"⟩ : MethodName)) hown (mvT hZ (tw hw 31 rfl)) (mvT hZ (tw hw 32 rfl)) (notFace_of_selects (args := #[]) (mvT hZ (tw hw 34 rfl))) (mvT hZ (tw hw 34 rfl)) (mvT hZ (tw hw 33 rfl)) (by decide) (backOf (W := 0) (rm3_27 l Z a0 hw [] w17 w1 w13 w14 w12 w16 w15 h0 n0 Z0 S0 O0 F_w17_ordinal F_w1_ordinal S24 F_w13_ordinal S26 F_w14_ordinal S22 F_w12_ordinal S30 F_w16_ordinal S28 F_w15_ordinal S32) hZ (tw hw 35 rfl) (tw hw 6 rfl) (by decide) (by decide)) q3a q3c (g := (mkF m 27 #[iv p0s, iv 8, rv w17, iv 1] [(.ref w17)])) rfl (by rw [hml]; rfl) (Steps.refl _) (argsL := []) (rest := []) (lenOf pd_2 rfl) rfl (by show 2 * 0 + _ ≤ _; exact Nat.le_of_eq rfl) (hb hby at_27) (fun _ _ => ⟨rfl, e2, (by decide : 0 + 0 ≤ _), (by decide : 0 + 0 ≤ _)⟩)
    dsimp only [Pt.U, Pt.locs, Pt.cells, Pt.slots] at X3 l3 y3 z3 st3 hQ3
    subst l3 y3 z3
    obtain ⟨rfl, N3q, e3⟩ := hQ3
    have N3 := Fr.app N2 N3q
    obtain ⟨fs, hr, hrun, hended, hW, hsame⟩ := X3.leave (v := some (.int (1 : Int32))) (fun h => by rw [hre] at h; cases h)
    refine ⟨_, _, pre0 _ (pre1 _ (?_)), hrun, hended, _, _, rfl, ?_, ⟨_, rfl⟩, hW, hsame.mono (by decide) (by decide)⟩
    · show SF p e below s₁ (mkF m 7 #[iv p0s, .unset, .unset, .unset] [(.int ((p0s &&& (2147483647 : Int32)) % (18 : Int32)))]) _
      rw [hc1]
      show SF p e below s₁ (mkF m 7 #[iv p0s, .unset, .unset, .unset] [(.int 8)]) _
      refine XS.istoreN X0.here hx rfl (hb hby at_7) rfl (l' := #[iv p0s, iv 8, .unset, .unset]) rfl ?_
      show SF p e below s₁ (mkF m 8 #[iv p0s, iv 8, .unset, .unset] []) _
      refine XS.iloadN X0.here hx rfl (hb hby at_8) rfl ?_
      show SF p e below s₁ (mkF m 9 #[iv p0s, iv 8, .unset, .unset] [(.int 8)]) _
      refine st1 _ ?_
      show SF p e below T1 (mkF m 12 #[iv p0s, iv 8, .unset, .unset] [(.ref w17)]) _
      refine XS.astoreN X1.here hx rfl (hb hby at_12) rfl rfl (l' := #[iv p0s, iv 8, rv w17, .unset]) rfl ?_
      show SF p e below T1 (mkF m 13 #[iv p0s, iv 8, rv w17, .unset] []) _
      refine XS.aloadN X1.here hx rfl (hb hby at_13) rfl rfl ?_
      show SF p e below T1 (mkF m 14 #[iv p0s, iv 8, rv w17, .unset] [(.ref w17)]) _
      refine st2 _ ?_
      show SF p e below T2 (mkF m 17 #[iv p0s, iv 8, rv w17, .unset] [(.int 0)]) _
      refine XS.ifNo X2.here hx rfl (hb hby at_17) rfl ((if0 _ _).trans (teq (by decide : (0 : Int32) = (0 : Int32))).2) ?_
      show SF p e below T2 (mkF m 20 #[iv p0s, iv 8, rv w17, .unset] []) _
      refine XS.iconst X2.here hx rfl (hb hby at_20) ?_
      show SF p e below T2 (mkF m 21 #[iv p0s, iv 8, rv w17, .unset] [(.int 1)]) _
      refine XS.goto X2.here hx rfl (pc0 := 21) (pc' := 25) rfl (hb hby at_21) (by decide) (by decide) ?_
      show SF p e below T2 (mkF m 25 #[iv p0s, iv 8, rv w17, .unset] [(.int 1)]) _
      refine XS.istoreN X2.here hx rfl (hb hby at_25) rfl (l' := #[iv p0s, iv 8, rv w17, iv 1]) rfl ?_
      show SF p e below T2 (mkF m 26 #[iv p0s, iv 8, rv w17, iv 1] []) _
      refine XS.aloadN X2.here hx rfl (hb hby at_26) rfl rfl ?_
      show SF p e below T2 (mkF m 27 #[iv p0s, iv 8, rv w17, iv 1] [(.ref w17)]) _
      refine st3.trans ?_
      show SF p e below T3 (mkF m 30 #[iv p0s, iv 8, rv w17, iv 1] [(.int 1)]) _
      refine XS.iloadN X3.here hx rfl (hb hby at_30) rfl ?_
      show SF p e below T3 (mkF m 31 #[iv p0s, iv 8, rv w17, iv 1] [(.int 1), (.int 1)]) _
      refine XS.icmpNo X3.here hx rfl (hb hby at_31) rfl (teq (by decide : (1 : Int32) = (1 : Int32))).2 ?_
      show SF p e below T3 (mkF m 34 #[iv p0s, iv 8, rv w17, iv 1] []) _
      refine XS.iconst X3.here hx rfl (hb hby at_34) ?_
      show SF p e below T3 (mkF m 35 #[iv p0s, iv 8, rv w17, iv 1] [(.int 1)]) _
      refine XS.goto X3.here hx rfl (pc0 := 35) (pc' := 39) rfl (hb hby at_35) (by decide) (by decide) ?_
      show SF p e below T3 (mkF m 39 #[iv p0s, iv 8, rv w17, iv 1] [(.int 1)]) _
      exact retN X3 hx (t := .boolean) hre (by simp) (hb hby at_39) hr
    · exact ⟨rfl, N3⟩
  · obtain ⟨_, _, ⟨T1, L1, k1x, n1⟩, -, X1, ⟨Lc1, hQ1, l1, y1, z1⟩, st1⟩ := Jvm.LawKit.callS X0 hx (y := (⟨"com/example/edictum/edictum/io/XpathTokensNamesNextPinLaw", "kindOf", "(I)Lcom/example/edictum/edictum/io/XpathTokens$Kind;"⟩ : MethodName)) hown (mvT hZ (tw hw 1 rfl)) (mvT hZ (tw hw 2 rfl)) (mvT hZ (tw hw 3 rfl)) (mvT hZ (tw hw 4 rfl)) (by decide) (backOf (W := 0) (rm1_28 l Z a0 hw [] w18 h0 n0 Z0 S34 O0) hZ (tw hw 4 rfl) (tw hw 3 rfl) (by decide) (by decide)) (g := (mkF m 9 #[iv p0s, iv 9, .unset, .unset] [(.int 9)])) rfl (by rw [hml]; rfl) (argsL := [(.int 9)]) (rest := []) (lenOf pd_0 rfl) rfl (by show 2 * 0 + _ ≤ _; exact Nat.le_of_eq rfl) (hb hby at_9) (fun _ _ => ⟨rfl, e0, (by decide : 0 + 0 ≤ _), (by decide : 0 + 0 ≤ _)⟩)
    dsimp only [Pt.U, Pt.locs, Pt.cells, Pt.slots] at X1 l1 y1 z1 st1 hQ1
    subst l1 y1 z1
    obtain ⟨rfl, N1q, e1⟩ := hQ1
    have N1 := Fr.app N0 N1q
    obtain ⟨_, _, ⟨T2, L2, k2x, n2⟩, -, X2, ⟨Lc2, hQ2, l2, y2, z2⟩, st2⟩ := Jvm.LawKit.callS X1 hx (y := (⟨"com/example/edictum/edictum/io/XpathTokensNamesNextPinLaw", "endsOperand", "(Lcom/example/edictum/edictum/io/XpathTokens$Kind;)Z"⟩ : MethodName)) hown (mvT hZ (tw hw 8 rfl)) (mvT hZ (tw hw 9 rfl)) (mvT hZ (tw hw 3 rfl)) (mvT hZ (tw hw 10 rfl)) (by decide) (backOf (W := 0) (rm2_29 l Z a0 hw [] w18 w2 w3 w4 w5 w6 w7 w8 w9 w10 w11 h0 n0 Z0 S2 O0 F_w18_ordinal F_w2_ordinal S4 F_w3_ordinal S6 F_w4_ordinal S8 F_w5_ordinal S10 F_w6_ordinal S12 F_w7_ordinal S14 F_w8_ordinal S16 F_w9_ordinal S18 F_w10_ordinal S20 F_w11_ordinal) hZ (tw hw 10 rfl) (tw hw 3 rfl) (by decide) (by decide)) (g := (mkF m 14 #[iv p0s, iv 9, rv w18, .unset] [(.ref w18)])) rfl (by rw [hml]; rfl) (argsL := [(.ref w18)]) (rest := []) (lenOf pd_1 rfl) rfl (by show 2 * 0 + _ ≤ _; exact Nat.le_of_eq rfl) (hb hby at_14) (fun _ _ => ⟨rfl, e1, (by decide : 0 + 0 ≤ _), (by decide : 0 + 0 ≤ _)⟩)
    dsimp only [Pt.U, Pt.locs, Pt.cells, Pt.slots] at X2 l2 y2 z2 st2 hQ2
    subst l2 y2 z2
    obtain ⟨rfl, N2q, e2⟩ := hQ2
    have N2 := Fr.app N1 N2q
    obtain ⟨cq3, kq3, q3a, q3b, q3c⟩ := isOf hZ e2 (E_w18.ext O0.2)
    obtain ⟨_, _, ⟨T3, L3, k3x, n3⟩, -, X3, ⟨Lc3, hQ3, l3, y3, z3⟩, st3⟩ := X2.virtualBack hx (y := (⟨"com/example/edictum/edictum/io/XpathTokens$Kind", "namesNext", "()Z"⟩ : MethodName)) (z := (⟨"com/example/edictum/edictum/io/XpathTokens$Kind", "namesNext", "()Z"⟩ : MethodName)) hown (mvT hZ (tw hw 31 rfl)) (mvT hZ (tw hw 32 rfl)) (notFace_of_selects (args := #[]) (mvT hZ (tw hw 34 rfl))) (mvT hZ (tw hw 34 rfl)) (mvT hZ (tw hw 33 rfl)) (by decide) (backOf (W := 0) (rm3_30 l Z a0 hw [] w18 w1 w13 w14 w12 w16 w15 w17 h0 n0 Z0 S0 O0 F_w18_ordinal F_w1_ordinal S24 F_w13_ordinal S26 F_w14_ordinal S22 F_w12_ordinal S30 F_w16_ordinal S28 F_w15_ordinal S32 F_w17_ordinal S34) hZ (tw hw 35 rfl) (tw hw 6 rfl) (by decide) (by decide)) q3a q3c (g := (mkF m 27 #[iv p0s, iv 9, rv w18, iv 1] [(.ref w18)])) rfl (by rw [hml]; rfl) (Steps.refl _) (argsL := []) (rest := []) (lenOf pd_2 rfl) rfl (by show 2 * 0 + _ ≤ _; exact Nat.le_of_eq rfl) (hb hby at_27) (fun _ _ => ⟨rfl, e2, (by decide : 0 + 0 ≤ _), (by decide : 0 + 0 ≤ _)⟩)
    dsimp only [Pt.U, Pt.locs, Pt.cells, Pt.slots] at X3 l3 y3 z3 st3 hQ3
    subst l3 y3 z3
    obtain ⟨rfl, N3q, e3⟩ := hQ3
    have N3 := Fr.app N2 N3q
    obtain ⟨fs, hr, hrun, hended, hW, hsame⟩ := X3.leave (v := some (.int (1 : Int32))) (fun h => by rw [hre] at h; cases h)
    refine ⟨_, _, pre0 _ (pre1 _ (?_)), hrun, hended, _, _, rfl, ?_, ⟨_, rfl⟩, hW, hsame.mono (by decide) (by decide)⟩
    · show SF p e below s₁ (mkF m 7 #[iv p0s, .unset, .unset, .unset] [(.int ((p0s &&& (2147483647 : Int32)) % (18 : Int32)))]) _
      rw [hc1]
      show SF p e below s₁ (mkF m 7 #[iv p0s, .unset, .unset, .unset] [(.int 9)]) _
      refine XS.istoreN X0.here hx rfl (hb hby at_7) rfl (l' := #[iv p0s, iv 9, .unset, .unset]) rfl ?_
      show SF p e below s₁ (mkF m 8 #[iv p0s, iv 9, .unset, .unset] []) _
      refine XS.iloadN X0.here hx rfl (hb hby at_8) rfl ?_
      show SF p e below s₁ (mkF m 9 #[iv p0s, iv 9, .unset, .unset] [(.int 9)]) _
      refine st1 _ ?_
      show SF p e below T1 (mkF m 12 #[iv p0s, iv 9, .unset, .unset] [(.ref w18)]) _
      refine XS.astoreN X1.here hx rfl (hb hby at_12) rfl rfl (l' := #[iv p0s, iv 9, rv w18, .unset]) rfl ?_
      show SF p e below T1 (mkF m 13 #[iv p0s, iv 9, rv w18, .unset] []) _
      refine XS.aloadN X1.here hx rfl (hb hby at_13) rfl rfl ?_
      show SF p e below T1 (mkF m 14 #[iv p0s, iv 9, rv w18, .unset] [(.ref w18)]) _
      refine st2 _ ?_
      show SF p e below T2 (mkF m 17 #[iv p0s, iv 9, rv w18, .unset] [(.int 0)]) _
      refine XS.ifNo X2.here hx rfl (hb hby at_17) rfl ((if0 _ _).trans (teq (by decide : (0 : Int32) = (0 : Int32))).2) ?_
      show SF p e below T2 (mkF m 20 #[iv p0s, iv 9, rv w18, .unset] []) _
      refine XS.iconst X2.here hx rfl (hb hby at_20) ?_
      show SF p e below T2 (mkF m 21 #[iv p0s, iv 9, rv w18, .unset] [(.int 1)]) _
      refine XS.goto X2.here hx rfl (pc0 := 21) (pc' := 25) rfl (hb hby at_21) (by decide) (by decide) ?_
      show SF p e below T2 (mkF m 25 #[iv p0s, iv 9, rv w18, .unset] [(.int 1)]) _
      refine XS.istoreN X2.here hx rfl (hb hby at_25) rfl (l' := #[iv p0s, iv 9, rv w18, iv 1]) rfl ?_
      show SF p e below T2 (mkF m 26 #[iv p0s, iv 9, rv w18, iv 1] []) _
      refine XS.aloadN X2.here hx rfl (hb hby at_26) rfl rfl ?_
      show SF p e below T2 (mkF m 27 #[iv p0s, iv 9, rv w18, iv 1] [(.ref w18)]) _
      refine st3.trans ?_
      show SF p e below T3 (mkF m 30 #[iv p0s, iv 9, rv w18, iv 1] [(.int 1)]) _
      refine XS.iloadN X3.here hx rfl (hb hby at_30) rfl ?_
      show SF p e below T3 (mkF m 31 #[iv p0s, iv 9, rv w18, iv 1] [(.int 1), (.int 1)]) _
      refine XS.icmpNo X3.here hx rfl (hb hby at_31) rfl (teq (by decide : (1 : Int32) = (1 : Int32))).2 ?_
      show SF p e below T3 (mkF m 34 #[iv p0s, iv 9, rv w18, iv 1] []) _
      refine XS.iconst X3.here hx rfl (hb hby at_34) ?_
      show SF p e below T3 (mkF m 35 #[iv p0s, iv 9, rv w18, iv 1] [(.int 1)]) _
      refine XS.goto X3.here hx rfl (pc0 := 35) (pc' := 39) rfl (hb hby at_35) (by decide) (by decide) ?_
      show SF p e below T3 (mkF m 39 #[iv p0s, iv 9, rv w18, iv 1] [(.int 1)]) _
      exact retN X3 hx (t := .boolean) hre (by simp) (hb hby at_39) hr
    · exact ⟨rfl, N3⟩
  · obtain ⟨_, _, ⟨T1, L1, k1x, n1⟩, -, X1, ⟨Lc1, hQ1, l1, y1, z1⟩, st1⟩ := Jvm.LawKit.callS X0 hx (y := (⟨"com/example/edictum/edictum/io/XpathTokensNamesNextPinLaw", "kindOf", "(I)Lcom/example/edictum/edictum/io/XpathTokens$Kind;"⟩ : MethodName)) hown (mvT hZ (tw hw 1 rfl)) (mvT hZ (tw hw 2 rfl)) (mvT hZ (tw hw 3 rfl)) (mvT hZ (tw hw 4 rfl)) (by decide) (backOf (W := 0) (rm1_31 l Z a0 hw [] w4 h0 n0 Z0 S6 O0) hZ (tw hw 4 rfl) (tw hw 3 rfl) (by decide) (by decide)) (g := (mkF m 9 #[iv p0s, iv 10, .unset, .unset] [(.int 10)])) rfl (by rw [hml]; rfl) (argsL := [(.int 10)]) (rest := []) (lenOf pd_0 rfl) rfl (by show 2 * 0 + _ ≤ _; exact Nat.le_of_eq rfl) (hb hby at_9) (fun _ _ => ⟨rfl, e0, (by decide : 0 + 0 ≤ _), (by decide : 0 + 0 ≤ _)⟩)
    dsimp only [Pt.U, Pt.locs, Pt.cells, Pt.slots] at X1 l1 y1 z1 st1 hQ1
    subst l1 y1 z1
    obtain ⟨rfl, N1q, e1⟩ := hQ1
    have N1 := Fr.app N0 N1q
    obtain ⟨_, _, ⟨T2, L2, k2x, n2⟩, -, X2, ⟨Lc2, hQ2, l2, y2, z2⟩, st2⟩ := Jvm.LawKit.callS X1 hx (y := (⟨"com/example/edictum/edictum/io/XpathTokensNamesNextPinLaw", "endsOperand", "(Lcom/example/edictum/edictum/io/XpathTokens$Kind;)Z"⟩ : MethodName)) hown (mvT hZ (tw hw 8 rfl)) (mvT hZ (tw hw 9 rfl)) (mvT hZ (tw hw 3 rfl)) (mvT hZ (tw hw 10 rfl)) (by decide) (backOf (W := 0) (rm2_32 l Z a0 hw [] w4 w2 w3 h0 n0 Z0 S2 O0 F_w4_ordinal F_w2_ordinal S4 F_w3_ordinal S6) hZ (tw hw 10 rfl) (tw hw 3 rfl) (by decide) (by decide)) (g := (mkF m 14 #[iv p0s, iv 10, rv w4, .unset] [(.ref w4)])) rfl (by rw [hml]; rfl) (argsL := [(.ref w4)]) (rest := []) (lenOf pd_1 rfl) rfl (by show 2 * 0 + _ ≤ _; exact Nat.le_of_eq rfl) (hb hby at_14) (fun _ _ => ⟨rfl, e1, (by decide : 0 + 0 ≤ _), (by decide : 0 + 0 ≤ _)⟩)
    dsimp only [Pt.U, Pt.locs, Pt.cells, Pt.slots] at X2 l2 y2 z2 st2 hQ2
    subst l2 y2 z2
    obtain ⟨rfl, N2q, e2⟩ := hQ2
    have N2 := Fr.app N1 N2q
    obtain ⟨cq3, kq3, q3a, q3b, q3c⟩ := isOf hZ e2 (E_w4.ext O0.2)
    obtain ⟨_, _, ⟨T3, L3, k3x, n3⟩, -, X3, ⟨Lc3, hQ3, l3, y3, z3⟩, st3⟩ := X2.virtualBack hx (y := (⟨"com/example/edictum/edictum/io/XpathTokens$Kind", "namesNext", "()Z"⟩ : MethodName)) (z := (⟨"com/example/edictum/edictum/io/XpathTokens$Kind", "namesNext", "()Z"⟩ : MethodName)) hown (mvT hZ (tw hw 31 rfl)) (mvT hZ (tw hw 32 rfl)) (notFace_of_selects (args := #[]) (mvT hZ (tw hw 34 rfl))) (mvT hZ (tw hw 34 rfl)) (mvT hZ (tw hw 33 rfl)) (by decide) (backOf (W := 0) (rm3_33 l Z a0 hw [] w4 w1 w13 w14 w12 w16 w15 w17 w18 h0 n0 Z0 S0 O0 F_w4_ordinal F_w1_ordinal S24 F_w13_ordinal S26 F_w14_ordinal S22 F_w12_ordinal S30 F_w16_ordinal S28 F_w15_ordinal S32 F_w17_ordinal S34 F_w18_ordinal) hZ (tw hw 35 rfl) (tw hw 6 rfl) (by decide) (by decide)) q3a q3c (g := (mkF m 27 #[iv p0s, iv 10, rv w4, iv 0] [(.ref w4)])) rfl (by rw [hml]; rfl) (Steps.refl _) (argsL := []) (rest := []) (lenOf pd_2 rfl) rfl (by show 2 * 0 + _ ≤ _; exact Nat.le_of_eq rfl) (hb hby at_27) (fun _ _ => ⟨rfl, e2, (by decide : 0 + 0 ≤ _), (by decide : 0 + 0 ≤ _)⟩)
    dsimp only [Pt.U, Pt.locs, Pt.cells, Pt.slots] at X3 l3 y3 z3 st3 hQ3
    subst l3 y3 z3
    obtain ⟨rfl, N3q, e3⟩ := hQ3
    have N3 := Fr.app N2 N3q
    obtain ⟨fs, hr, hrun, hended, hW, hsame⟩ := X3.leave (v := some (.int (1 : Int32))) (fun h => by rw [hre] at h; cases h)
    refine ⟨_, _, pre0 _ (pre1 _ (?_)), hrun, hended, _, _, rfl, ?_, ⟨_, rfl⟩, hW, hsame.mono (by decide) (by decide)⟩
    · show SF p e below s₁ (mkF m 7 #[iv p0s, .unset, .unset, .unset] [(.int ((p0s &&& (2147483647 : Int32)) % (18 : Int32)))]) _
      rw [hc1]
      show SF p e below s₁ (mkF m 7 #[iv p0s, .unset, .unset, .unset] [(.int 10)]) _
      refine XS.istoreN X0.here hx rfl (hb hby at_7) rfl (l' := #[iv p0s, iv 10, .unset, .unset]) rfl ?_
      show SF p e below s₁ (mkF m 8 #[iv p0s, iv 10, .unset, .unset] []) _
      refine XS.iloadN X0.here hx rfl (hb hby at_8) rfl ?_
      show SF p e below s₁ (mkF m 9 #[iv p0s, iv 10, .unset, .unset] [(.int 10)]) _
      refine st1 _ ?_
      show SF p e below T1 (mkF m 12 #[iv p0s, iv 10, .unset, .unset] [(.ref w4)]) _
      refine XS.astoreN X1.here hx rfl (hb hby at_12) rfl rfl (l' := #[iv p0s, iv 10, rv w4, .unset]) rfl ?_
      show SF p e below T1 (mkF m 13 #[iv p0s, iv 10, rv w4, .unset] []) _
      refine XS.aloadN X1.here hx rfl (hb hby at_13) rfl rfl ?_
      show SF p e below T1 (mkF m 14 #[iv p0s, iv 10, rv w4, .unset] [(.ref w4)]) _
      refine st2 _ ?_
      show SF p e below T2 (mkF m 17 #[iv p0s, iv 10, rv w4, .unset] [(.int 1)]) _
      refine XS.ifYes X2.here hx rfl (pc0 := 17) (pc' := 24) rfl (hb hby at_17) rfl ((if0 _ _).trans (feq (by decide : ¬ ((1 : Int32) = (0 : Int32)))).2) (by decide) (by decide) ?_
      show SF p e below T2 (mkF m 24 #[iv p0s, iv 10, rv w4, .unset] []) _
      refine XS.iconst X2.here hx rfl (hb hby at_24) ?_
      show SF p e below T2 (mkF m 25 #[iv p0s, iv 10, rv w4, .unset] [(.int 0)]) _
      refine XS.istoreN X2.here hx rfl (hb hby at_25) rfl (l' := #[iv p0s, iv 10, rv w4, iv 0]) rfl ?_
      show SF p e below T2 (mkF m 26 #[iv p0s, iv 10, rv w4, iv 0] []) _
      refine XS.aloadN X2.here hx rfl (hb hby at_26) rfl rfl ?_
      show SF p e below T2 (mkF m 27 #[iv p0s, iv 10, rv w4, iv 0] [(.ref w4)]) _
      refine st3.trans ?_
      show SF p e below T3 (mkF m 30 #[iv p0s, iv 10, rv w4, iv 0] [(.int 0)]) _
      refine XS.iloadN X3.here hx rfl (hb hby at_30) rfl ?_
      show SF p e below T3 (mkF m 31 #[iv p0s, iv 10, rv w4, iv 0] [(.int 0), (.int 0)]) _
      refine XS.icmpNo X3.here hx rfl (hb hby at_31) rfl (teq (by decide : (0 : Int32) = (0 : Int32))).2 ?_
      show SF p e below T3 (mkF m 34 #[iv p0s, iv 10, rv w4, iv 0] []) _
      refine XS.iconst X3.here hx rfl (hb hby at_34) ?_
      show SF p e below T3 (mkF m 35 #[iv p0s, iv 10, rv w4, iv 0] [(.int 1)]) _
      refine XS.goto X3.here hx rfl (pc0 := 35) (pc' := 39) rfl (hb hby at_35) (by decide) (by decide) ?_
      show SF p e below T3 (mkF m 39 #[iv p0s, iv 10, rv w4, iv 0] [(.int 1)]) _
      exact retN X3 hx (t := .boolean) hre (by simp) (hb hby at_39) hr
    · exact ⟨rfl, N3⟩
  · obtain ⟨_, _, ⟨T1, L1, k1x, n1⟩, -, X1, ⟨Lc1, hQ1, l1, y1, z1⟩, st1⟩ := Jvm.LawKit.callS X0 hx (y := (⟨"com/example/edictum/edictum/io/XpathTokensNamesNextPinLaw", "kindOf", "(I)Lcom/example/edictum/edictum/io/XpathTokens$Kind;"⟩ : MethodName)) hown (mvT hZ (tw hw 1 rfl)) (mvT hZ (tw hw 2 rfl)) (mvT hZ (tw hw 3 rfl)) (mvT hZ (tw hw 4 rfl)) (by decide) (backOf (W := 0) (rm1_34 l Z a0 hw [] w5 h0 n0 Z0 S8 O0) hZ (tw hw 4 rfl) (tw hw 3 rfl) (by decide) (by decide)) (g := (mkF m 9 #[iv p0s, iv 11, .unset, .unset] [(.int 11)])) rfl (by rw [hml]; rfl) (argsL := [(.int 11)]) (rest := []) (lenOf pd_0 rfl) rfl (by show 2 * 0 + _ ≤ _; exact Nat.le_of_eq rfl) (hb hby at_9) (fun _ _ => ⟨rfl, e0, (by decide : 0 + 0 ≤ _), (by decide : 0 + 0 ≤ _)⟩)
    dsimp only [Pt.U, Pt.locs, Pt.cells, Pt.slots] at X1 l1 y1 z1 st1 hQ1
    subst l1 y1 z1
    obtain ⟨rfl, N1q, e1⟩ := hQ1
    have N1 := Fr.app N0 N1q
    obtain ⟨_, _, ⟨T2, L2, k2x, n2⟩, -, X2, ⟨Lc2, hQ2, l2, y2, z2⟩, st2⟩ := Jvm.LawKit.callS X1 hx (y := (⟨"com/example/edictum/edictum/io/XpathTokensNamesNextPinLaw", "endsOperand", "(Lcom/example/edictum/edictum/io/XpathTokens$Kind;)Z"⟩ : MethodName)) hown (mvT hZ (tw hw 8 rfl)) (mvT hZ (tw hw 9 rfl)) (mvT hZ (tw hw 3 rfl)) (mvT hZ (tw hw 10 rfl)) (by decide) (backOf (W := 0) (rm2_35 l Z a0 hw [] w5 w2 w3 w4 h0 n0 Z0 S2 O0 F_w5_ordinal F_w2_ordinal S4 F_w3_ordinal S6 F_w4_ordinal S8) hZ (tw hw 10 rfl) (tw hw 3 rfl) (by decide) (by decide)) (g := (mkF m 14 #[iv p0s, iv 11, rv w5, .unset] [(.ref w5)])) rfl (by rw [hml]; rfl) (argsL := [(.ref w5)]) (rest := []) (lenOf pd_1 rfl) rfl (by show 2 * 0 + _ ≤ _; exact Nat.le_of_eq rfl) (hb hby at_14) (fun _ _ => ⟨rfl, e1, (by decide : 0 + 0 ≤ _), (by decide : 0 + 0 ≤ _)⟩)
    dsimp only [Pt.U, Pt.locs, Pt.cells, Pt.slots] at X2 l2 y2 z2 st2 hQ2
    subst l2 y2 z2
    obtain ⟨rfl, N2q, e2⟩ := hQ2
    have N2 := Fr.app N1 N2q
    obtain ⟨cq3, kq3, q3a, q3b, q3c⟩ := isOf hZ e2 (E_w5.ext O0.2)
    obtain ⟨_, _, ⟨T3, L3, k3x, n3⟩, -, X3, ⟨Lc3, hQ3, l3, y3, z3⟩, st3⟩ := X2.virtualBack hx (y := (⟨"com/example/edictum/edictum/io/XpathTokens$Kind", "namesNext", "()Z"⟩ : MethodName)) (z := (⟨"com/example/edictum/edictum/io/XpathTokens$Kind", "namesNext", "()Z"⟩ : MethodName)) hown (mvT hZ (tw hw 31 rfl)) (mvT hZ (tw hw 32 rfl)) (notFace_of_selects (args := #[]) (mvT hZ (tw hw 34 rfl))) (mvT hZ (tw hw 34 rfl)) (mvT hZ (tw hw 33 rfl)) (by decide) (backOf (W := 0) (rm3_36 l Z a0 hw [] w5 w1 w13 w14 w12 w16 w15 w17 w18 h0 n0 Z0 S0 O0 F_w5_ordinal F_w1_ordinal S24 F_w13_ordinal S26 F_w14_ordinal S22 F_w12_ordinal S30 F_w16_ordinal S28 F_w15_ordinal S32 F_w17_ordinal S34 F_w18_ordinal) hZ (tw hw 35 rfl) (tw hw 6 rfl) (by decide) (by decide)) q3a q3c (g := (mkF m 27 #[iv p0s, iv 11, rv w5, iv 0] [(.ref w5)])) rfl (by rw [hml]; rfl) (Steps.refl _) (argsL := []) (rest := []) (lenOf pd_2 rfl) rfl (by show 2 * 0 + _ ≤ _; exact Nat.le_of_eq rfl) (hb hby at_27) (fun _ _ => ⟨rfl, e2, (by decide : 0 + 0 ≤ _), (by decide : 0 + 0 ≤ _)⟩)
    dsimp only [Pt.U, Pt.locs, Pt.cells, Pt.slots] at X3 l3 y3 z3 st3 hQ3
    subst l3 y3 z3
    obtain ⟨rfl, N3q, e3⟩ := hQ3
    have N3 := Fr.app N2 N3q
    obtain ⟨fs, hr, hrun, hended, hW, hsame⟩ := X3.leave (v := some (.int (1 : Int32))) (fun h => by rw [hre] at h; cases h)
    refine ⟨_, _, pre0 _ (pre1 _ (?_)), hrun, hended, _, _, rfl, ?_, ⟨_, rfl⟩, hW, hsame.mono (by decide) (by decide)⟩
    · show SF p e below s₁ (mkF m 7 #[iv p0s, .unset, .unset, .unset] [(.int ((p0s &&& (2147483647 : Int32)) % (18 : Int32)))]) _
      rw [hc1]
      show SF p e below s₁ (mkF m 7 #[iv p0s, .unset, .unset, .unset] [(.int 11)]) _
      refine XS.istoreN X0.here hx rfl (hb hby at_7) rfl (l' := #[iv p0s, iv 11, .unset, .unset]) rfl ?_
      show SF p e below s₁ (mkF m 8 #[iv p0s, iv 11, .unset, .unset] []) _
      refine XS.iloadN X0.here hx rfl (hb hby at_8) rfl ?_
      show SF p e below s₁ (mkF m 9 #[iv p0s, iv 11, .unset, .unset] [(.int 11)]) _
      refine st1 _ ?_
      show SF p e below T1 (mkF m 12 #[iv p0s, iv 11, .unset, .unset] [(.ref w5)]) _
      refine XS.astoreN X1.here hx rfl (hb hby at_12) rfl rfl (l' := #[iv p0s, iv 11, rv w5, .unset]) rfl ?_
      show SF p e below T1 (mkF m 13 #[iv p0s, iv 11, rv w5, .unset] []) _
      refine XS.aloadN X1.here hx rfl (hb hby at_13) rfl rfl ?_
      show SF p e below T1 (mkF m 14 #[iv p0s, iv 11, rv w5, .unset] [(.ref w5)]) _
      refine st2 _ ?_
      show SF p e below T2 (mkF m 17 #[iv p0s, iv 11, rv w5, .unset] [(.int 1)]) _
      refine XS.ifYes X2.here hx rfl (pc0 := 17) (pc' := 24) rfl (hb hby at_17) rfl ((if0 _ _).trans (feq (by decide : ¬ ((1 : Int32) = (0 : Int32)))).2) (by decide) (by decide) ?_
      show SF p e below T2 (mkF m 24 #[iv p0s, iv 11, rv w5, .unset] []) _
      refine XS.iconst X2.here hx rfl (hb hby at_24) ?_
      show SF p e below T2 (mkF m 25 #[iv p0s, iv 11, rv w5, .unset] [(.int 0)]) _
      refine XS.istoreN X2.here hx rfl (hb hby at_25) rfl (l' := #[iv p0s, iv 11, rv w5, iv 0]) rfl ?_
      show SF p e below T2 (mkF m 26 #[iv p0s, iv 11, rv w5, iv 0] []) _
      refine XS.aloadN X2.here hx rfl (hb hby at_26) rfl rfl ?_
      show SF p e below T2 (mkF m 27 #[iv p0s, iv 11, rv w5, iv 0] [(.ref w5)]) _
      refine st3.trans ?_
      show SF p e below T3 (mkF m 30 #[iv p0s, iv 11, rv w5, iv 0] [(.int 0)]) _
      refine XS.iloadN X3.here hx rfl (hb hby at_30) rfl ?_
      show SF p e below T3 (mkF m 31 #[iv p0s, iv 11, rv w5, iv 0] [(.int 0), (.int 0)]) _
      refine XS.icmpNo X3.here hx rfl (hb hby at_31) rfl (teq (by decide : (0 : Int32) = (0 : Int32))).2 ?_
      show SF p e below T3 (mkF m 34 #[iv p0s, iv 11, rv w5, iv 0] []) _
      refine XS.iconst X3.here hx rfl (hb hby at_34) ?_
      show SF p e below T3 (mkF m 35 #[iv p0s, iv 11, rv w5, iv 0] [(.int 1)]) _
      refine XS.goto X3.here hx rfl (pc0 := 35) (pc' := 39) rfl (hb hby at_35) (by decide) (by decide) ?_
      show SF p e below T3 (mkF m 39 #[iv p0s, iv 11, rv w5, iv 0] [(.int 1)]) _
      exact retN X3 hx (t := .boolean) hre (by simp) (hb hby at_39) hr
    · exact ⟨rfl, N3⟩
  · obtain ⟨_, _, ⟨T1, L1, k1x, n1⟩, -, X1, ⟨Lc1, hQ1, l1, y1, z1⟩, st1⟩ := Jvm.LawKit.callS X0 hx (y := (⟨"com/example/edictum/edictum/io/XpathTokensNamesNextPinLaw", "kindOf", "(I)Lcom/example/edictum/edictum/io/XpathTokens$Kind;"⟩ : MethodName)) hown (mvT hZ (tw hw 1 rfl)) (mvT hZ (tw hw 2 rfl)) (mvT hZ (tw hw 3 rfl)) (mvT hZ (tw hw 4 rfl)) (by decide) (backOf (W := 0) (rm1_37 l Z a0 hw [] w6 h0 n0 Z0 S10 O0) hZ (tw hw 4 rfl) (tw hw 3 rfl) (by decide) (by decide)) (g := (mkF m 9 #[iv p0s, iv 12, .unset, .unset] [(.int 12)])) rfl (by rw [hml]; rfl) (argsL := [(.int 12)]) (rest := []) (lenOf pd_0 rfl) rfl (by show 2 * 0 + _ ≤ _; exact Nat.le_of_eq rfl) (hb hby at_9) (fun _ _ => ⟨rfl, e0, (by decide : 0 + 0 ≤ _), (by decide : 0 + 0 ≤ _)⟩)
    dsimp only [Pt.U, Pt.locs, Pt.cells, Pt.slots] at X1 l1 y1 z1 st1 hQ1
    subst l1 y1 z1
    obtain ⟨rfl, N1q, e1⟩ := hQ1
    have N1 := Fr.app N0 N1q
    obtain ⟨_, _, ⟨T2, L2, k2x, n2⟩, -, X2, ⟨Lc2, hQ2, l2, y2, z2⟩, st2⟩ := Jvm.LawKit.callS X1 hx (y := (⟨"com/example/edictum/edictum/io/XpathTokensNamesNextPinLaw", "endsOperand", "(Lcom/example/edictum/edictum/io/XpathTokens$Kind;)Z"⟩ : MethodName)) hown (mvT hZ (tw hw 8 rfl)) (mvT hZ (tw hw 9 rfl)) (mvT hZ (tw hw 3 rfl)) (mvT hZ (tw hw 10 rfl)) (by decide) (backOf (W := 0) (rm2_38 l Z a0 hw [] w6 w2 w3 w4 w5 h0 n0 Z0 S2 O0 F_w6_ordinal F_w2_ordinal S4 F_w3_ordinal S6 F_w4_ordinal S8 F_w5_ordinal S10) hZ (tw hw 10 rfl) (tw hw 3 rfl) (by decide) (by decide)) (g := (mkF m 14 #[iv p0s, iv 12, rv w6, .unset] [(.ref w6)])) rfl (by rw [hml]; rfl) (argsL := [(.ref w6)]) (rest := []) (lenOf pd_1 rfl) rfl (by show 2 * 0 + _ ≤ _; exact Nat.le_of_eq rfl) (hb hby at_14) (fun _ _ => ⟨rfl, e1, (by decide : 0 + 0 ≤ _), (by decide : 0 + 0 ≤ _)⟩)
    dsimp only [Pt.U, Pt.locs, Pt.cells, Pt.slots] at X2 l2 y2 z2 st2 hQ2
    subst l2 y2 z2
    obtain ⟨rfl, N2q, e2⟩ := hQ2
    have N2 := Fr.app N1 N2q
    obtain ⟨cq3, kq3, q3a, q3b, q3c⟩ := isOf hZ e2 (E_w6.ext O0.2)
    obtain ⟨_, _, ⟨T3, L3, k3x, n3⟩, -, X3, ⟨Lc3, hQ3, l3, y3, z3⟩, st3⟩ := X2.virtualBack hx (y := (⟨"com/example/edictum/edictum/io/XpathTokens$Kind", "namesNext", "()Z"⟩ : MethodName)) (z := (⟨"com/example/edictum/edictum/io/XpathTokens$Kind", "namesNext", "()Z"⟩ : MethodName)) hown (mvT hZ (tw hw 31 rfl)) (mvT hZ (tw hw 32 rfl)) (notFace_of_selects (args := #[]) (mvT hZ (tw hw 34 rfl))) (mvT hZ (tw hw 34 rfl)) (mvT hZ (tw hw 33 rfl)) (by decide) (backOf (W := 0) (rm3_39 l Z a0 hw [] w6 w1 w13 w14 w12 w16 w15 w17 w18 h0 n0 Z0 S0 O0 F_w6_ordinal F_w1_ordinal S24 F_w13_ordinal S26 F_w14_ordinal S22 F_w12_ordinal S30 F_w16_ordinal S28 F_w15_ordinal S32 F_w17_ordinal S34 F_w18_ordinal) hZ (tw hw 35 rfl) (tw hw 6 rfl) (by decide) (by decide)) q3a q3c (g := (mkF m 27 #[iv p0s, iv 12, rv w6, iv 0] [(.ref w6)])) rfl (by rw [hml]; rfl) (Steps.refl _) (argsL := []) (rest := []) (lenOf pd_2 rfl) rfl (by show 2 * 0 + _ ≤ _; exact Nat.le_of_eq rfl) (hb hby at_27) (fun _ _ => ⟨rfl, e2, (by decide : 0 + 0 ≤ _), (by decide : 0 + 0 ≤ _)⟩)
    dsimp only [Pt.U, Pt.locs, Pt.cells, Pt.slots] at X3 l3 y3 z3 st3 hQ3
    subst l3 y3 z3
    obtain ⟨rfl, N3q, e3⟩ := hQ3
    have N3 := Fr.app N2 N3q
    obtain ⟨fs, hr, hrun, hended, hW, hsame⟩ := X3.leave (v := some (.int (1 : Int32))) (fun h => by rw [hre] at h; cases h)
    refine ⟨_, _, pre0 _ (pre1 _ (?_)), hrun, hended, _, _, rfl, ?_, ⟨_, rfl⟩, hW, hsame.mono (by decide) (by decide)⟩
    · show SF p e below s₁ (mkF m 7 #[iv p0s, .unset, .unset, .unset] [(.int ((p0s &&& (2147483647 : Int32)) % (18 : Int32)))]) _
      rw [hc1]
      show SF p e below s₁ (mkF m 7 #[iv p0s, .unset, .unset, .unset] [(.int 12)]) _
      refine XS.istoreN X0.here hx rfl (hb hby at_7) rfl (l' := #[iv p0s, iv 12, .unset, .unset]) rfl ?_
      show SF p e below s₁ (mkF m 8 #[iv p0s, iv 12, .unset, .unset] []) _
      refine XS.iloadN X0.here hx rfl (hb hby at_8) rfl ?_
      show SF p e below s₁ (mkF m 9 #[iv p0s, iv 12, .unset, .unset] [(.int 12)]) _
      refine st1 _ ?_
      show SF p e below T1 (mkF m 12 #[iv p0s, iv 12, .unset, .unset] [(.ref w6)]) _
      refine XS.astoreN X1.here hx rfl (hb hby at_12) rfl rfl (l' := #[iv p0s, iv 12, rv w6, .unset]) rfl ?_
      show SF p e below T1 (mkF m 13 #[iv p0s, iv 12, rv w6, .unset] []) _
      refine XS.aloadN X1.here hx rfl (hb hby at_13) rfl rfl ?_
      show SF p e below T1 (mkF m 14 #[iv p0s, iv 12, rv w6, .unset] [(.ref w6)]) _
      refine st2 _ ?_
      show SF p e below T2 (mkF m 17 #[iv p0s, iv 12, rv w6, .unset] [(.int 1)]) _
      refine XS.ifYes X2.here hx rfl (pc0 := 17) (pc' := 24) rfl (hb hby at_17) rfl ((if0 _ _).trans (feq (by decide : ¬ ((1 : Int32) = (0 : Int32)))).2) (by decide) (by decide) ?_
      show SF p e below T2 (mkF m 24 #[iv p0s, iv 12, rv w6, .unset] []) _
      refine XS.iconst X2.here hx rfl (hb hby at_24) ?_
      show SF p e below T2 (mkF m 25 #[iv p0s, iv 12, rv w6, .unset] [(.int 0)]) _
      refine XS.istoreN X2.here hx rfl (hb hby at_25) rfl (l' := #[iv p0s, iv 12, rv w6, iv 0]) rfl ?_
      show SF p e below T2 (mkF m 26 #[iv p0s, iv 12, rv w6, iv 0] []) _
      refine XS.aloadN X2.here hx rfl (hb hby at_26) rfl rfl ?_
      show SF p e below T2 (mkF m 27 #[iv p0s, iv 12, rv w6, iv 0] [(.ref w6)]) _
      refine st3.trans ?_
      show SF p e below T3 (mkF m 30 #[iv p0s, iv 12, rv w6, iv 0] [(.int 0)]) _
      refine XS.iloadN X3.here hx rfl (hb hby at_30) rfl ?_
      show SF p e below T3 (mkF m 31 #[iv p0s, iv 12, rv w6, iv 0] [(.int 0), (.int 0)]) _
      refine XS.icmpNo X3.here hx rfl (hb hby at_31) rfl (teq (by decide : (0 : Int32) = (0 : Int32))).2 ?_
      show SF p e below T3 (mkF m 34 #[iv p0s, iv 12, rv w6, iv 0] []) _
      refine XS.iconst X3.here hx rfl (hb hby at_34) ?_
      show SF p e below T3 (mkF m 35 #[iv p0s, iv 12, rv w6, iv 0] [(.int 1)]) _
      refine XS.goto X3.here hx rfl (pc0 := 35) (pc' := 39) rfl (hb hby at_35) (by decide) (by decide) ?_
      show SF p e below T3 (mkF m 39 #[iv p0s, iv 12, rv w6, iv 0] [(.int 1)]) _
      exact retN X3 hx (t := .boolean) hre (by simp) (hb hby at_39) hr
    · exact ⟨rfl, N3⟩
  · obtain ⟨_, _, ⟨T1, L1, k1x, n1⟩, -, X1, ⟨Lc1, hQ1, l1, y1, z1⟩, st1⟩ := Jvm.LawKit.callS X0 hx (y := (⟨"com/example/edictum/edictum/io/XpathTokensNamesNextPinLaw", "kindOf", "(I)Lcom/example/edictum/edictum/io/XpathTokens$Kind;"⟩ : MethodName)) hown (mvT hZ (tw hw 1 rfl)) (mvT hZ (tw hw 2 rfl)) (mvT hZ (tw hw 3 rfl)) (mvT hZ (tw hw 4 rfl)) (by decide) (backOf (W := 0) (rm1_40 l Z a0 hw [] w7 h0 n0 Z0 S12 O0) hZ (tw hw 4 rfl) (tw hw 3 rfl) (by decide) (by decide)) (g := (mkF m 9 #[iv p0s, iv 13, .unset, .unset] [(.int 13)])) rfl (by rw [hml]; rfl) (argsL := [(.int 13)]) (rest := []) (lenOf pd_0 rfl) rfl (by show 2 * 0 + _ ≤ _; exact Nat.le_of_eq rfl) (hb hby at_9) (fun _ _ => ⟨rfl, e0, (by decide : 0 + 0 ≤ _), (by decide : 0 + 0 ≤ _)⟩)
    dsimp only [Pt.U, Pt.locs, Pt.cells, Pt.slots] at X1 l1 y1 z1 st1 hQ1
    subst l1 y1 z1
    obtain ⟨rfl, N1q, e1⟩ := hQ1
    have N1 := Fr.app N0 N1q
    obtain ⟨_, _, ⟨T2, L2, k2x, n2⟩, -, X2, ⟨Lc2, hQ2, l2, y2, z2⟩, st2⟩ := Jvm.LawKit.callS X1 hx (y := (⟨"com/example/edictum/edictum/io/XpathTokensNamesNextPinLaw", "endsOperand", "(Lcom/example/edictum/edictum/io/XpathTokens$Kind;)Z"⟩ : MethodName)) hown (mvT hZ (tw hw 8 rfl)) (mvT hZ (tw hw 9 rfl)) (mvT hZ (tw hw 3 rfl)) (mvT hZ (tw hw 10 rfl)) (by decide) (backOf (W := 0) (rm2_41 l Z a0 hw [] w7 w2 w3 w4 w5 w6 h0 n0 Z0 S2 O0 F_w7_ordinal F_w2_ordinal S4 F_w3_ordinal S6 F_w4_ordinal S8 F_w5_ordinal S10 F_w6_ordinal S12) hZ (tw hw 10 rfl) (tw hw 3 rfl) (by decide) (by decide)) (g := (mkF m 14 #[iv p0s, iv 13, rv w7, .unset] [(.ref w7)])) rfl (by rw [hml]; rfl) (argsL := [(.ref w7)]) (rest := []) (lenOf pd_1 rfl) rfl (by show 2 * 0 + _ ≤ _; exact Nat.le_of_eq rfl) (hb hby at_14) (fun _ _ => ⟨rfl, e1, (by decide : 0 + 0 ≤ _), (by decide : 0 + 0 ≤ _)⟩)
    dsimp only [Pt.U, Pt.locs, Pt.cells, Pt.slots] at X2 l2 y2 z2 st2 hQ2
    subst l2 y2 z2
    obtain ⟨rfl, N2q, e2⟩ := hQ2
    have N2 := Fr.app N1 N2q
    obtain ⟨cq3, kq3, q3a, q3b, q3c⟩ := isOf hZ e2 (E_w7.ext O0.2)
    obtain ⟨_, _, ⟨T3, L3, k3x, n3⟩, -, X3, ⟨Lc3, hQ3, l3, y3, z3⟩, st3⟩ := X2.virtualBack hx (y := (⟨"com/example/edictum/edictum/io/XpathTokens$Kind", "namesNext", "()Z"⟩ : MethodName)) (z := (⟨"com/example/edictum/edictum/io/XpathTokens$Kind", "namesNext", "()Z"⟩ : MethodName)) hown (mvT hZ (tw hw 31 rfl)) (mvT hZ (tw hw 32 rfl)) (notFace_of_selects (args := #[]) (mvT hZ (tw hw 34 rfl))) (mvT hZ (tw hw 34 rfl)) (mvT hZ (tw hw 33 rfl)) (by decide) (backOf (W := 0) (rm3_42 l Z a0 hw [] w7 w1 w13 w14 w12 w16 w15 w17 w18 h0 n0 Z0 S0 O0 F_w7_ordinal F_w1_ordinal S24 F_w13_ordinal S26 F_w14_ordinal S22 F_w12_ordinal S30 F_w16_ordinal S28 F_w15_ordinal S32 F_w17_ordinal S34 F_w18_ordinal) hZ (tw hw 35 rfl) (tw hw 6 rfl) (by decide) (by decide)) q3a q3c (g := (mkF m 27 #[iv p0s, iv 13, rv w7, iv 0] [(.ref w7)])) rfl (by rw [hml]; rfl) (Steps.refl _) (argsL := []) (rest := []) (lenOf pd_2 rfl) rfl (by show 2 * 0 + _ ≤ _; exact Nat.le_of_eq rfl) (hb hby at_27) (fun _ _ => ⟨rfl, e2, (by decide : 0 + 0 ≤ _), (by decide : 0 + 0 ≤ _)⟩)
    dsimp only [Pt.U, Pt.locs, Pt.cells, Pt.slots] at X3 l3 y3 z3 st3 hQ3
    subst l3 y3 z3
    obtain ⟨rfl, N3q, e3⟩ := hQ3
    have N3 := Fr.app N2 N3q
    obtain ⟨fs, hr, hrun, hended, hW, hsame⟩ := X3.leave (v := some (.int (1 : Int32))) (fun h => by rw [hre] at h; cases h)
    refine ⟨_, _, pre0 _ (pre1 _ (?_)), hrun, hended, _, _, rfl, ?_, ⟨_, rfl⟩, hW, hsame.mono (by decide) (by decide)⟩
    · show SF p e below s₁ (mkF m 7 #[iv p0s, .unset, .unset, .unset] [(.int ((p0s &&& (2147483647 : Int32)) % (18 : Int32)))]) _
      rw [hc1]
      show SF p e below s₁ (mkF m 7 #[iv p0s, .unset, .unset, .unset] [(.int 13)]) _
      refine XS.istoreN X0.here hx rfl (hb hby at_7) rfl (l' := #[iv p0s, iv 13, .unset, .unset]) rfl ?_
      show SF p e below s₁ (mkF m 8 #[iv p0s, iv 13, .unset, .unset] []) _
      refine XS.iloadN X0.here hx rfl (hb hby at_8) rfl ?_
      show SF p e below s₁ (mkF m 9 #[iv p0s, iv 13, .unset, .unset] [(.int 13)]) _
      refine st1 _ ?_
      show SF p e below T1 (mkF m 12 #[iv p0s, iv 13, .unset, .unset] [(.ref w7)]) _
      refine XS.astoreN X1.here hx rfl (hb hby at_12) rfl rfl (l' := #[iv p0s, iv 13, rv w7, .unset]) rfl ?_
      show SF p e below T1 (mkF m 13 #[iv p0s, iv 13, rv w7, .unset] []) _
      refine XS.aloadN X1.here hx rfl (hb hby at_13) rfl rfl ?_
      show SF p e below T1 (mkF m 14 #[iv p0s, iv 13, rv w7, .unset] [(.ref w7)]) _
      refine st2 _ ?_
      show SF p e below T2 (mkF m 17 #[iv p0s, iv 13, rv w7, .unset] [(.int 1)]) _
      refine XS.ifYes X2.here hx rfl (pc0 := 17) (pc' := 24) rfl (hb hby at_17) rfl ((if0 _ _).trans (feq (by decide : ¬ ((1 : Int32) = (0 : Int32)))).2) (by decide) (by decide) ?_
      show SF p e below T2 (mkF m 24 #[iv p0s, iv 13, rv w7, .unset] []) _
      refine XS.iconst X2.here hx rfl (hb hby at_24) ?_
      show SF p e below T2 (mkF m 25 #[iv p0s, iv 13, rv w7, .unset] [(.int 0)]) _
      refine XS.istoreN X2.here hx rfl (hb hby at_25) rfl (l' := #[iv p0s, iv 13, rv w7, iv 0]) rfl ?_
      show SF p e below T2 (mkF m 26 #[iv p0s, iv 13, rv w7, iv 0] []) _
      refine XS.aloadN X2.here hx rfl (hb hby at_26) rfl rfl ?_
      show SF p e below T2 (mkF m 27 #[iv p0s, iv 13, rv w7, iv 0] [(.ref w7)]) _
      refine st3.trans ?_
      show SF p e below T3 (mkF m 30 #[iv p0s, iv 13, rv w7, iv 0] [(.int 0)]) _
      refine XS.iloadN X3.here hx rfl (hb hby at_30) rfl ?_
      show SF p e below T3 (mkF m 31 #[iv p0s, iv 13, rv w7, iv 0] [(.int 0), (.int 0)]) _
      refine XS.icmpNo X3.here hx rfl (hb hby at_31) rfl (teq (by decide : (0 : Int32) = (0 : Int32))).2 ?_
      show SF p e below T3 (mkF m 34 #[iv p0s, iv 13, rv w7, iv 0] []) _
      refine XS.iconst X3.here hx rfl (hb hby at_34) ?_
      show SF p e below T3 (mkF m 35 #[iv p0s, iv 13, rv w7, iv 0] [(.int 1)]) _
      refine XS.goto X3.here hx rfl (pc0 := 35) (pc' := 39) rfl (hb hby at_35) (by decide) (by decide) ?_
      show SF p e below T3 (mkF m 39 #[iv p0s, iv 13, rv w7, iv 0] [(.int 1)]) _
      exact retN X3 hx (t := .boolean) hre (by simp) (hb hby at_39) hr
    · exact ⟨rfl, N3⟩
  · obtain ⟨_, _, ⟨T1, L1, k1x, n1⟩, -, X1, ⟨Lc1, hQ1, l1, y1, z1⟩, st1⟩ := Jvm.LawKit.callS X0 hx (y := (⟨"com/example/edictum/edictum/io/XpathTokensNamesNextPinLaw", "kindOf", "(I)Lcom/example/edictum/edictum/io/XpathTokens$Kind;"⟩ : MethodName)) hown (mvT hZ (tw hw 1 rfl)) (mvT hZ (tw hw 2 rfl)) (mvT hZ (tw hw 3 rfl)) (mvT hZ (tw hw 4 rfl)) (by decide) (backOf (W := 0) (rm1_43 l Z a0 hw [] w8 h0 n0 Z0 S14 O0) hZ (tw hw 4 rfl) (tw hw 3 rfl) (by decide) (by decide)) (g := (mkF m 9 #[iv p0s, iv 14, .unset, .unset] [(.int 14)])) rfl (by rw [hml]; rfl) (argsL := [(.int 14)]) (rest := []) (lenOf pd_0 rfl) rfl (by show 2 * 0 + _ ≤ _; exact Nat.le_of_eq rfl) (hb hby at_9) (fun _ _ => ⟨rfl, e0, (by decide : 0 + 0 ≤ _), (by decide : 0 + 0 ≤ _)⟩)
    dsimp only [Pt.U, Pt.locs, Pt.cells, Pt.slots] at X1 l1 y1 z1 st1 hQ1
    subst l1 y1 z1
    obtain ⟨rfl, N1q, e1⟩ := hQ1
    have N1 := Fr.app N0 N1q
    obtain ⟨_, _, ⟨T2, L2, k2x, n2⟩, -, X2, ⟨Lc2, hQ2, l2, y2, z2⟩, st2⟩ := Jvm.LawKit.callS X1 hx (y := (⟨"com/example/edictum/edictum/io/XpathTokensNamesNextPinLaw", "endsOperand", "(Lcom/example/edictum/edictum/io/XpathTokens$Kind;)Z"⟩ : MethodName)) hown (mvT hZ (tw hw 8 rfl)) (mvT hZ (tw hw 9 rfl)) (mvT hZ (tw hw 3 rfl)) (mvT hZ (tw hw 10 rfl)) (by decide) (backOf (W := 0) (rm2_44 l Z a0 hw [] w8 w2 w3 w4 w5 w6 w7 h0 n0 Z0 S2 O0 F_w8_ordinal F_w2_ordinal S4 F_w3_ordinal S6 F_w4_ordinal S8 F_w5_ordinal S10 F_w6_ordinal S12 F_w7_ordinal S14) hZ (tw hw 10 rfl) (tw hw 3 rfl) (by decide) (by decide)) (g := (mkF m 14 #[iv p0s, iv 14, rv w8, .unset] [(.ref w8)])) rfl (by rw [hml]; rfl) (argsL := [(.ref w8)]) (rest := []) (lenOf pd_1 rfl) rfl (by show 2 * 0 + _ ≤ _; exact Nat.le_of_eq rfl) (hb hby at_14) (fun _ _ => ⟨rfl, e1, (by decide : 0 + 0 ≤ _), (by decide : 0 + 0 ≤ _)⟩)
    dsimp only [Pt.U, Pt.locs, Pt.cells, Pt.slots] at X2 l2 y2 z2 st2 hQ2
    subst l2 y2 z2
    obtain ⟨rfl, N2q, e2⟩ := hQ2
    have N2 := Fr.app N1 N2q
    obtain ⟨cq3, kq3, q3a, q3b, q3c⟩ := isOf hZ e2 (E_w8.ext O0.2)
    obtain ⟨_, _, ⟨T3, L3, k3x, n3⟩, -, X3, ⟨Lc3, hQ3, l3, y3, z3⟩, st3⟩ := X2.virtualBack hx (y := (⟨"com/example/edictum/edictum/io/XpathTokens$Kind", "namesNext", "()Z"⟩ : MethodName)) (z := (⟨"com/example/edictum/edictum/io/XpathTokens$Kind", "namesNext", "()Z"⟩ : MethodName)) hown (mvT hZ (tw hw 31 rfl)) (mvT hZ (tw hw 32 rfl)) (notFace_of_selects (args := #[]) (mvT hZ (tw hw 34 rfl))) (mvT hZ (tw hw 34 rfl)) (mvT hZ (tw hw 33 rfl)) (by decide) (backOf (W := 0) (rm3_45 l Z a0 hw [] w8 w1 w13 w14 w12 w16 w15 w17 w18 h0 n0 Z0 S0 O0 F_w8_ordinal F_w1_ordinal S24 F_w13_ordinal S26 F_w14_ordinal S22 F_w12_ordinal S30 F_w16_ordinal S28 F_w15_ordinal S32 F_w17_ordinal S34 F_w18_ordinal) hZ (tw hw 35 rfl) (tw hw 6 rfl) (by decide) (by decide)) q3a q3c (g := (mkF m 27 #[iv p0s, iv 14, rv w8, iv 0] [(.ref w8)])) rfl (by rw [hml]; rfl) (Steps.refl _) (argsL := []) (rest := []) (lenOf pd_2 rfl) rfl (by show 2 * 0 + _ ≤ _; exact Nat.le_of_eq rfl) (hb hby at_27) (fun _ _ => ⟨rfl, e2, (by decide : 0 + 0 ≤ _), (by decide : 0 + 0 ≤ _)⟩)
    dsimp only [Pt.U, Pt.locs, Pt.cells, Pt.slots] at X3 l3 y3 z3 st3 hQ3
    subst l3 y3 z3
    obtain ⟨rfl, N3q, e3⟩ := hQ3
    have N3 := Fr.app N2 N3q
    obtain ⟨fs, hr, hrun, hended, hW, hsame⟩ := X3.leave (v := some (.int (1 : Int32))) (fun h => by rw [hre] at h; cases h)
    refine ⟨_, _, pre0 _ (pre1 _ (?_)), hrun, hended, _, _, rfl, ?_, ⟨_, rfl⟩, hW, hsame.mono (by decide) (by decide)⟩
    · show SF p e below s₁ (mkF m 7 #[iv p0s, .unset, .unset, .unset] [(.int ((p0s &&& (2147483647 : Int32)) % (18 : Int32)))]) _
      rw [hc1]
      show SF p e below s₁ (mkF m 7 #[iv p0s, .unset, .unset, .unset] [(.int 14)]) _
      refine XS.istoreN X0.here hx rfl (hb hby at_7) rfl (l' := #[iv p0s, iv 14, .unset, .unset]) rfl ?_
      show SF p e below s₁ (mkF m 8 #[iv p0s, iv 14, .unset, .unset] []) _
      refine XS.iloadN X0.here hx rfl (hb hby at_8) rfl ?_
      show SF p e below s₁ (mkF m 9 #[iv p0s, iv 14, .unset, .unset] [(.int 14)]) _
      refine st1 _ ?_
      show SF p e below T1 (mkF m 12 #[iv p0s, iv 14, .unset, .unset] [(.ref w8)]) _
      refine XS.astoreN X1.here hx rfl (hb hby at_12) rfl rfl (l' := #[iv p0s, iv 14, rv w8, .unset]) rfl ?_
      show SF p e below T1 (mkF m 13 #[iv p0s, iv 14, rv w8, .unset] []) _
      refine XS.aloadN X1.here hx rfl (hb hby at_13) rfl rfl ?_
      show SF p e below T1 (mkF m 14 #[iv p0s, iv 14, rv w8, .unset] [(.ref w8)]) _
      refine st2 _ ?_
      show SF p e below T2 (mkF m 17 #[iv p0s, iv 14, rv w8, .unset] [(.int 1)]) _
      refine XS.ifYes X2.here hx rfl (pc0 := 17) (pc' := 24) rfl (hb hby at_17) rfl ((if0 _ _).trans (feq (by decide : ¬ ((1 : Int32) = (0 : Int32)))).2) (by decide) (by decide) ?_
      show SF p e below T2 (mkF m 24 #[iv p0s, iv 14, rv w8, .unset] []) _
      refine XS.iconst X2.here hx rfl (hb hby at_24) ?_
      show SF p e below T2 (mkF m 25 #[iv p0s, iv 14, rv w8, .unset] [(.int 0)]) _
      refine XS.istoreN X2.here hx rfl (hb hby at_25) rfl (l' := #[iv p0s, iv 14, rv w8, iv 0]) rfl ?_
      show SF p e below T2 (mkF m 26 #[iv p0s, iv 14, rv w8, iv 0] []) _
      refine XS.aloadN X2.here hx rfl (hb hby at_26) rfl rfl ?_
      show SF p e below T2 (mkF m 27 #[iv p0s, iv 14, rv w8, iv 0] [(.ref w8)]) _
      refine st3.trans ?_
      show SF p e below T3 (mkF m 30 #[iv p0s, iv 14, rv w8, iv 0] [(.int 0)]) _
      refine XS.iloadN X3.here hx rfl (hb hby at_30) rfl ?_
      show SF p e below T3 (mkF m 31 #[iv p0s, iv 14, rv w8, iv 0] [(.int 0), (.int 0)]) _
      refine XS.icmpNo X3.here hx rfl (hb hby at_31) rfl (teq (by decide : (0 : Int32) = (0 : Int32))).2 ?_
      show SF p e below T3 (mkF m 34 #[iv p0s, iv 14, rv w8, iv 0] []) _
      refine XS.iconst X3.here hx rfl (hb hby at_34) ?_
      show SF p e below T3 (mkF m 35 #[iv p0s, iv 14, rv w8, iv 0] [(.int 1)]) _
      refine XS.goto X3.here hx rfl (pc0 := 35) (pc' := 39) rfl (hb hby at_35) (by decide) (by decide) ?_
      show SF p e below T3 (mkF m 39 #[iv p0s, iv 14, rv w8, iv 0] [(.int 1)]) _
      exact retN X3 hx (t := .boolean) hre (by simp) (hb hby at_39) hr
    · exact ⟨rfl, N3⟩
  · obtain ⟨_, _, ⟨T1, L1, k1x, n1⟩, -, X1, ⟨Lc1, hQ1, l1, y1, z1⟩, st1⟩ := Jvm.LawKit.callS X0 hx (y := (⟨"com/example/edictum/edictum/io/XpathTokensNamesNextPinLaw", "kindOf", "(I)Lcom/example/edictum/edictum/io/XpathTokens$Kind;"⟩ : MethodName)) hown (mvT hZ (tw hw 1 rfl)) (mvT hZ (tw hw 2 rfl)) (mvT hZ (tw hw 3 rfl)) (mvT hZ (tw hw 4 rfl)) (by decide) (backOf (W := 0) (rm1_46 l Z a0 hw [] w9 h0 n0 Z0 S16 O0) hZ (tw hw 4 rfl) (tw hw 3 rfl) (by decide) (by decide)) (g := (mkF m 9 #[iv p0s, iv 15, .unset, .unset] [(.int 15)])) rfl (by rw [hml]; rfl) (argsL := [(.int 15)]) (rest := []) (lenOf pd_0 rfl) rfl (by show 2 * 0 + _ ≤ _; exact Nat.le_of_eq rfl) (hb hby at_9) (fun _ _ => ⟨rfl, e0, (by decide : 0 + 0 ≤ _), (by decide : 0 + 0 ≤ _)⟩)
    dsimp only [Pt.U, Pt.locs, Pt.cells, Pt.slots] at X1 l1 y1 z1 st1 hQ1
    subst l1 y1 z1
    obtain ⟨rfl, N1q, e1⟩ := hQ1
    have N1 := Fr.app N0 N1q
    obtain ⟨_, _, ⟨T2, L2, k2x, n2⟩, -, X2, ⟨Lc2, hQ2, l2, y2, z2⟩, st2⟩ := Jvm.LawKit.callS X1 hx (y := (⟨"com/example/edictum/edictum/io/XpathTokensNamesNextPinLaw", "endsOperand", "(Lcom/example/edictum/edictum/io/XpathTokens$Kind;)Z"⟩ : MethodName)) hown (mvT hZ (tw hw 8 rfl)) (mvT hZ (tw hw 9 rfl)) (mvT hZ (tw hw 3 rfl)) (mvT hZ (tw hw 10 rfl)) (by decide) (backOf (W := 0) (rm2_47 l Z a0 hw [] w9 w2 w3 w4 w5 w6 w7 w8 h0 n0 Z0 S2 O0 F_w9_ordinal F_w2_ordinal S4 F_w3_ordinal S6 F_w4_ordinal S8 F_w5_ordinal S10 F_w6_ordinal S12 F_w7_ordinal S14 F_w8_ordinal S16) hZ (tw hw 10 rfl) (tw hw 3 rfl) (by decide) (by decide)) (g := (mkF m 14 #[iv p0s, iv 15, rv w9, .unset] [(.ref w9)])) rfl (by rw [hml]; rfl) (argsL := [(.ref w9)]) (rest := []) (lenOf pd_1 rfl) rfl (by show 2 * 0 + _ ≤ _; exact Nat.le_of_eq rfl) (hb hby at_14) (fun _ _ => ⟨rfl, e1, (by decide : 0 + 0 ≤ _), (by decide : 0 + 0 ≤ _)⟩)
    dsimp only [Pt.U, Pt.locs, Pt.cells, Pt.slots] at X2 l2 y2 z2 st2 hQ2
    subst l2 y2 z2
    obtain ⟨rfl, N2q, e2⟩ := hQ2
    have N2 := Fr.app N1 N2q
    obtain ⟨cq3, kq3, q3a, q3b, q3c⟩ := isOf hZ e2 (E_w9.ext O0.2)
    obtain ⟨_, _, ⟨T3, L3, k3x, n3⟩, -, X3, ⟨Lc3, hQ3, l3, y3, z3⟩, st3⟩ := X2.virtualBack hx (y := (⟨"com/example/edictum/edictum/io/XpathTokens$Kind", "namesNext", "()Z"⟩ : MethodName)) (z := (⟨"com/example/edictum/edictum/io/XpathTokens$Kind", "namesNext", "()Z"⟩ : MethodName)) hown (mvT hZ (tw hw 31 rfl)) (mvT hZ (tw hw 32 rfl)) (notFace_of_selects (args := #[]) (mvT hZ (tw hw 34 rfl))) (mvT hZ (tw hw 34 rfl)) (mvT hZ (tw hw 33 rfl)) (by decide) (backOf (W := 0) (rm3_48 l Z a0 hw [] w9 w1 w13 w14 w12 w16 w15 w17 w18 h0 n0 Z0 S0 O0 F_w9_ordinal F_w1_ordinal S24 F_w13_ordinal S26 F_w14_ordinal S22 F_w12_ordinal S30 F_w16_ordinal S28 F_w15_ordinal S32 F_w17_ordinal S34 F_w18_ordinal) hZ (tw hw 35 rfl) (tw hw 6 rfl) (by decide) (by decide)) q3a q3c (g := (mkF m 27 #[iv p0s, iv 15, rv w9, iv 0] [(.ref w9)])) rfl (by rw [hml]; rfl) (Steps.refl _) (argsL := []) (rest := []) (lenOf pd_2 rfl) rfl (by show 2 * 0 + _ ≤ _; exact Nat.le_of_eq rfl) (hb hby at_27) (fun _ _ => ⟨rfl, e2, (by decide : 0 + 0 ≤ _), (by decide : 0 + 0 ≤ _)⟩)
    dsimp only [Pt.U, Pt.locs, Pt.cells, Pt.slots] at X3 l3 y3 z3 st3 hQ3
    subst l3 y3 z3
    obtain ⟨rfl, N3q, e3⟩ := hQ3
    have N3 := Fr.app N2 N3q
    obtain ⟨fs, hr, hrun, hended, hW, hsame⟩ := X3.leave (v := some (.int (1 : Int32))) (fun h => by rw [hre] at h; cases h)
    refine ⟨_, _, pre0 _ (pre1 _ (?_)), hrun, hended, _, _, rfl, ?_, ⟨_, rfl⟩, hW, hsame.mono (by decide) (by decide)⟩
    · show SF p e below s₁ (mkF m 7 #[iv p0s, .unset, .unset, .unset] [(.int ((p0s &&& (2147483647 : Int32)) % (18 : Int32)))]) _
      rw [hc1]
      show SF p e below s₁ (mkF m 7 #[iv p0s, .unset, .unset, .unset] [(.int 15)]) _
      refine XS.istoreN X0.here hx rfl (hb hby at_7) rfl (l' := #[iv p0s, iv 15, .unset, .unset]) rfl ?_
      show SF p e below s₁ (mkF m 8 #[iv p0s, iv 15, .unset, .unset] []) _
      refine XS.iloadN X0.here hx rfl (hb hby at_8) rfl ?_
      show SF p e below s₁ (mkF m 9 #[iv p0s, iv 15, .unset, .unset] [(.int 15)]) _
      refine st1 _ ?_
      show SF p e below T1 (mkF m 12 #[iv p0s, iv 15, .unset, .unset] [(.ref w9)]) _
      refine XS.astoreN X1.here hx rfl (hb hby at_12) rfl rfl (l' := #[iv p0s, iv 15, rv w9, .unset]) rfl ?_
      show SF p e below T1 (mkF m 13 #[iv p0s, iv 15, rv w9, .unset] []) _
      refine XS.aloadN X1.here hx rfl (hb hby at_13) rfl rfl ?_
      show SF p e below T1 (mkF m 14 #[iv p0s, iv 15, rv w9, .unset] [(.ref w9)]) _
      refine st2 _ ?_
      show SF p e below T2 (mkF m 17 #[iv p0s, iv 15, rv w9, .unset] [(.int 1)]) _
      refine XS.ifYes X2.here hx rfl (pc0 := 17) (pc' := 24) rfl (hb hby at_17) rfl ((if0 _ _).trans (feq (by decide : ¬ ((1 : Int32) = (0 : Int32)))).2) (by decide) (by decide) ?_
      show SF p e below T2 (mkF m 24 #[iv p0s, iv 15, rv w9, .unset] []) _
      refine XS.iconst X2.here hx rfl (hb hby at_24) ?_
      show SF p e below T2 (mkF m 25 #[iv p0s, iv 15, rv w9, .unset] [(.int 0)]) _
      refine XS.istoreN X2.here hx rfl (hb hby at_25) rfl (l' := #[iv p0s, iv 15, rv w9, iv 0]) rfl ?_
      show SF p e below T2 (mkF m 26 #[iv p0s, iv 15, rv w9, iv 0] []) _
      refine XS.aloadN X2.here hx rfl (hb hby at_26) rfl rfl ?_
      show SF p e below T2 (mkF m 27 #[iv p0s, iv 15, rv w9, iv 0] [(.ref w9)]) _
      refine st3.trans ?_
      show SF p e below T3 (mkF m 30 #[iv p0s, iv 15, rv w9, iv 0] [(.int 0)]) _
      refine XS.iloadN X3.here hx rfl (hb hby at_30) rfl ?_
      show SF p e below T3 (mkF m 31 #[iv p0s, iv 15, rv w9, iv 0] [(.int 0), (.int 0)]) _
      refine XS.icmpNo X3.here hx rfl (hb hby at_31) rfl (teq (by decide : (0 : Int32) = (0 : Int32))).2 ?_
      show SF p e below T3 (mkF m 34 #[iv p0s, iv 15, rv w9, iv 0] []) _
      refine XS.iconst X3.here hx rfl (hb hby at_34) ?_
      show SF p e below T3 (mkF m 35 #[iv p0s, iv 15, rv w9, iv 0] [(.int 1)]) _
      refine XS.goto X3.here hx rfl (pc0 := 35) (pc' := 39) rfl (hb hby at_35) (by decide) (by decide) ?_
      show SF p e below T3 (mkF m 39 #[iv p0s, iv 15, rv w9, iv 0] [(.int 1)]) _
      exact retN X3 hx (t := .boolean) hre (by simp) (hb hby at_39) hr
    · exact ⟨rfl, N3⟩
  · obtain ⟨_, _, ⟨T1, L1, k1x, n1⟩, -, X1, ⟨Lc1, hQ1, l1, y1, z1⟩, st1⟩ := Jvm.LawKit.callS X0 hx (y := (⟨"com/example/edictum/edictum/io/XpathTokensNamesNextPinLaw", "kindOf", "(I)Lcom/example/edictum/edictum/io/XpathTokens$Kind;"⟩ : MethodName)) hown (mvT hZ (tw hw 1 rfl)) (mvT hZ (tw hw 2 rfl)) (mvT hZ (tw hw 3 rfl)) (mvT hZ (tw hw 4 rfl)) (by decide) (backOf (W := 0) (rm1_49 l Z a0 hw [] w10 h0 n0 Z0 S18 O0) hZ (tw hw 4 rfl) (tw hw 3 rfl) (by decide) (by decide)) (g := (mkF m 9 #[iv p0s, iv 16, .unset, .unset] [(.int 16)])) rfl (by rw [hml]; rfl) (argsL := [(.int 16)]) (rest := []) (lenOf pd_0 rfl) rfl (by show 2 * 0 + _ ≤ _; exact Nat.le_of_eq rfl) (hb hby at_9) (fun _ _ => ⟨rfl, e0, (by decide : 0 + 0 ≤ _), (by decide : 0 + 0 ≤ _)⟩)
    dsimp only [Pt.U, Pt.locs, Pt.cells, Pt.slots] at X1 l1 y1 z1 st1 hQ1
    subst l1 y1 z1
    obtain ⟨rfl, N1q, e1⟩ := hQ1
    have N1 := Fr.app N0 N1q
    obtain ⟨_, _, ⟨T2, L2, k2x, n2⟩, -, X2, ⟨Lc2, hQ2, l2, y2, z2⟩, st2⟩ := Jvm.LawKit.callS X1 hx (y := (⟨"com/example/edictum/edictum/io/XpathTokensNamesNextPinLaw", "endsOperand", "(Lcom/example/edictum/edictum/io/XpathTokens$Kind;)Z"⟩ : MethodName)) hown (mvT hZ (tw hw 8 rfl)) (mvT hZ (tw hw 9 rfl)) (mvT hZ (tw hw 3 rfl)) (mvT hZ (tw hw 10 rfl)) (by decide) (backOf (W := 0) (rm2_50 l Z a0 hw [] w10 w2 w3 w4 w5 w6 w7 w8 w9 h0 n0 Z0 S2 O0 F_w10_ordinal F_w2_ordinal S4 F_w3_ordinal S6 F_w4_ordinal S8 F_w5_ordinal S10 F_w6_ordinal S12 F_w7_ordinal S14 F_w8_ordinal S16 F_w9_ordinal S18) hZ (tw hw 10 rfl) (tw hw 3 rfl) (by decide) (by decide)) (g := (mkF m 14 #[iv p0s, iv 16, rv w10, .unset] [(.ref w10)])) rfl (by rw [hml]; rfl) (argsL := [(.ref w10)]) (rest := []) (lenOf pd_1 rfl) rfl (by show 2 * 0 + _ ≤ _; exact Nat.le_of_eq rfl) (hb hby at_14) (fun _ _ => ⟨rfl, e1, (by decide : 0 + 0 ≤ _), (by decide : 0 + 0 ≤ _)⟩)
    dsimp only [Pt.U, Pt.locs, Pt.cells, Pt.slots] at X2 l2 y2 z2 st2 hQ2
    subst l2 y2 z2
    obtain ⟨rfl, N2q, e2⟩ := hQ2
    have N2 := Fr.app N1 N2q
    obtain ⟨cq3, kq3, q3a, q3b, q3c⟩ := isOf hZ e2 (E_w10.ext O0.2)
    obtain ⟨_, _, ⟨T3, L3, k3x, n3⟩, -, X3, ⟨Lc3, hQ3, l3, y3, z3⟩, st3⟩ := X2.virtualBack hx (y := (⟨"com/example/edictum/edictum/io/XpathTokens$Kind", "namesNext", "()Z"⟩ : MethodName)) (z := (⟨"com/example/edictum/edictum/io/XpathTokens$Kind", "namesNext", "()Z"⟩ : MethodName)) hown (mvT hZ (tw hw 31 rfl)) (mvT hZ (tw hw 32 rfl)) (notFace_of_selects (args := #[]) (mvT hZ (tw hw 34 rfl))) (mvT hZ (tw hw 34 rfl)) (mvT hZ (tw hw 33 rfl)) (by decide) (backOf (W := 0) (rm3_51 l Z a0 hw [] w10 w1 w13 w14 w12 w16 w15 w17 w18 h0 n0 Z0 S0 O0 F_w10_ordinal F_w1_ordinal S24 F_w13_ordinal S26 F_w14_ordinal S22 F_w12_ordinal S30 F_w16_ordinal S28 F_w15_ordinal S32 F_w17_ordinal S34 F_w18_ordinal) hZ (tw hw 35 rfl) (tw hw 6 rfl) (by decide) (by decide)) q3a q3c (g := (mkF m 27 #[iv p0s, iv 16, rv w10, iv 0] [(.ref w10)])) rfl (by rw [hml]; rfl) (Steps.refl _) (argsL := []) (rest := []) (lenOf pd_2 rfl) rfl (by show 2 * 0 + _ ≤ _; exact Nat.le_of_eq rfl) (hb hby at_27) (fun _ _ => ⟨rfl, e2, (by decide : 0 + 0 ≤ _), (by decide : 0 + 0 ≤ _)⟩)
    dsimp only [Pt.U, Pt.locs, Pt.cells, Pt.slots] at X3 l3 y3 z3 st3 hQ3
    subst l3 y3 z3
    obtain ⟨rfl, N3q, e3⟩ := hQ3
    have N3 := Fr.app N2 N3q
    obtain ⟨fs, hr, hrun, hended, hW, hsame⟩ := X3.leave (v := some (.int (1 : Int32))) (fun h => by rw [hre] at h; cases h)
    refine ⟨_, _, pre0 _ (pre1 _ (?_)), hrun, hended, _, _, rfl, ?_, ⟨_, rfl⟩, hW, hsame.mono (by decide) (by decide)⟩
    · show SF p e below s₁ (mkF m 7 #[iv p0s, .unset, .unset, .unset] [(.int ((p0s &&& (2147483647 : Int32)) % (18 : Int32)))]) _
      rw [hc1]
      show SF p e below s₁ (mkF m 7 #[iv p0s, .unset, .unset, .unset] [(.int 16)]) _
      refine XS.istoreN X0.here hx rfl (hb hby at_7) rfl (l' := #[iv p0s, iv 16, .unset, .unset]) rfl ?_
      show SF p e below s₁ (mkF m 8 #[iv p0s, iv 16, .unset, .unset] []) _
      refine XS.iloadN X0.here hx rfl (hb hby at_8) rfl ?_
      show SF p e below s₁ (mkF m 9 #[iv p0s, iv 16, .unset, .unset] [(.int 16)]) _
      refine st1 _ ?_
      show SF p e below T1 (mkF m 12 #[iv p0s, iv 16, .unset, .unset] [(.ref w10)]) _
      refine XS.astoreN X1.here hx rfl (hb hby at_12) rfl rfl (l' := #[iv p0s, iv 16, rv w10, .unset]) rfl ?_
      show SF p e below T1 (mkF m 13 #[iv p0s, iv 16, rv w10, .unset] []) _
      refine XS.aloadN X1.here hx rfl (hb hby at_13) rfl rfl ?_
      show SF p e below T1 (mkF m 14 #[iv p0s, iv 16, rv w10, .unset] [(.ref w10)]) _
      refine st2 _ ?_
      show SF p e below T2 (mkF m 17 #[iv p0s, iv 16, rv w10, .unset] [(.int 1)]) _
      refine XS.ifYes X2.here hx rfl (pc0 := 17) (pc' := 24) rfl (hb hby at_17) rfl ((if0 _ _).trans (feq (by decide : ¬ ((1 : Int32) = (0 : Int32)))).2) (by decide) (by decide) ?_
      show SF p e below T2 (mkF m 24 #[iv p0s, iv 16, rv w10, .unset] []) _
      refine XS.iconst X2.here hx rfl (hb hby at_24) ?_
      show SF p e below T2 (mkF m 25 #[iv p0s, iv 16, rv w10, .unset] [(.int 0)]) _
      refine XS.istoreN X2.here hx rfl (hb hby at_25) rfl (l' := #[iv p0s, iv 16, rv w10, iv 0]) rfl ?_
      show SF p e below T2 (mkF m 26 #[iv p0s, iv 16, rv w10, iv 0] []) _
      refine XS.aloadN X2.here hx rfl (hb hby at_26) rfl rfl ?_
      show SF p e below T2 (mkF m 27 #[iv p0s, iv 16, rv w10, iv 0] [(.ref w10)]) _
      refine st3.trans ?_
      show SF p e below T3 (mkF m 30 #[iv p0s, iv 16, rv w10, iv 0] [(.int 0)]) _
      refine XS.iloadN X3.here hx rfl (hb hby at_30) rfl ?_
      show SF p e below T3 (mkF m 31 #[iv p0s, iv 16, rv w10, iv 0] [(.int 0), (.int 0)]) _
      refine XS.icmpNo X3.here hx rfl (hb hby at_31) rfl (teq (by decide : (0 : Int32) = (0 : Int32))).2 ?_
      show SF p e below T3 (mkF m 34 #[iv p0s, iv 16, rv w10, iv 0] []) _
      refine XS.iconst X3.here hx rfl (hb hby at_34) ?_
      show SF p e below T3 (mkF m 35 #[iv p0s, iv 16, rv w10, iv 0] [(.int 1)]) _
      refine XS.goto X3.here hx rfl (pc0 := 35) (pc' := 39) rfl (hb hby at_35) (by decide) (by decide) ?_
      show SF p e below T3 (mkF m 39 #[iv p0s, iv 16, rv w10, iv 0] [(.int 1)]) _
      exact retN X3 hx (t := .boolean) hre (by simp) (hb hby at_39) hr
    · exact ⟨rfl, N3⟩
  · obtain ⟨_, _, ⟨T1, L1, k1x, n1⟩, -, X1, ⟨Lc1, hQ1, l1, y1, z1⟩, st1⟩ := Jvm.LawKit.callS X0 hx (y := (⟨"com/example/edictum/edictum/io/XpathTokensNamesNextPinLaw", "kindOf", "(I)Lcom/example/edictum/edictum/io/XpathTokens$Kind;"⟩ : MethodName)) hown (mvT hZ (tw hw 1 rfl)) (mvT hZ (tw hw 2 rfl)) (mvT hZ (tw hw 3 rfl)) (mvT hZ (tw hw 4 rfl)) (by decide) (backOf (W := 0) (rm1_52 l Z a0 hw [] w11 h0 n0 Z0 S20 O0) hZ (tw hw 4 rfl) (tw hw 3 rfl) (by decide) (by decide)) (g := (mkF m 9 #[iv p0s, iv 17, .unset, .unset] [(.int 17)])) rfl (by rw [hml]; rfl) (argsL := [(.int 17)]) (rest := []) (lenOf pd_0 rfl) rfl (by show 2 * 0 + _ ≤ _; exact Nat.le_of_eq rfl) (hb hby at_9) (fun _ _ => ⟨rfl, e0, (by decide : 0 + 0 ≤ _), (by decide : 0 + 0 ≤ _)⟩)
    dsimp only [Pt.U, Pt.locs, Pt.cells, Pt.slots] at X1 l1 y1 z1 st1 hQ1
    subst l1 y1 z1
    obtain ⟨rfl, N1q, e1⟩ := hQ1
    have N1 := Fr.app N0 N1q
    obtain ⟨_, _, ⟨T2, L2, k2x, n2⟩, -, X2, ⟨Lc2, hQ2, l2, y2, z2⟩, st2⟩ := Jvm.LawKit.callS X1 hx (y := (⟨"com/example/edictum/edictum/io/XpathTokensNamesNextPinLaw", "endsOperand", "(Lcom/example/edictum/edictum/io/XpathTokens$Kind;)Z"⟩ : MethodName)) hown (mvT hZ (tw hw 8 rfl)) (mvT hZ (tw hw 9 rfl)) (mvT hZ (tw hw 3 rfl)) (mvT hZ (tw hw 10 rfl)) (by decide) (backOf (W := 0) (rm2_53 l Z a0 hw [] w11 w2 w3 w4 w5 w6 w7 w8 w9 w10 h0 n0 Z0 S2 O0 F_w11_ordinal F_w2_ordinal S4 F_w3_ordinal S6 F_w4_ordinal S8 F_w5_ordinal S10 F_w6_ordinal S12 F_w7_ordinal S14 F_w8_ordinal S16 F_w9_ordinal S18 F_w10_ordinal S20) hZ (tw hw 10 rfl) (tw hw 3 rfl) (by decide) (by decide)) (g := (mkF m 14 #[iv p0s, iv 17, rv w11, .unset] [(.ref w11)])) rfl (by rw [hml]; rfl) (argsL := [(.ref w11)]) (rest := []) (lenOf pd_1 rfl) rfl (by show 2 * 0 + _ ≤ _; exact Nat.le_of_eq rfl) (hb hby at_14) (fun _ _ => ⟨rfl, e1, (by decide : 0 + 0 ≤ _), (by decide : 0 + 0 ≤ _)⟩)
    dsimp only [Pt.U, Pt.locs, Pt.cells, Pt.slots] at X2 l2 y2 z2 st2 hQ2
    subst l2 y2 z2
    obtain ⟨rfl, N2q, e2⟩ := hQ2
    have N2 := Fr.app N1 N2q
    obtain ⟨cq3, kq3, q3a, q3b, q3c⟩ := isOf hZ e2 (E_w11.ext O0.2)
    obtain ⟨_, _, ⟨T3, L3, k3x, n3⟩, -, X3, ⟨Lc3, hQ3, l3, y3, z3⟩, st3⟩ := X2.virtualBack hx (y := (⟨"com/example/edictum/edictum/io/XpathTokens$Kind", "namesNext", "()Z"⟩ : MethodName)) (z := (⟨"com/example/edictum/edictum/io/XpathTokens$Kind", "namesNext", "()Z"⟩ : MethodName)) hown (mvT hZ (tw hw 31 rfl)) (mvT hZ (tw hw 32 rfl)) (notFace_of_selects (args := #[]) (mvT hZ (tw hw 34 rfl))) (mvT hZ (tw hw 34 rfl)) (mvT hZ (tw hw 33 rfl)) (by decide) (backOf (W := 0) (rm3_54 l Z a0 hw [] w11 w1 w13 w14 w12 w16 w15 w17 w18 h0 n0 Z0 S0 O0 F_w11_ordinal F_w1_ordinal S24 F_w13_ordinal S26 F_w14_ordinal S22 F_w12_ordinal S30 F_w16_ordinal S28 F_w15_ordinal S32 F_w17_ordinal S34 F_w18_ordinal) hZ (tw hw 35 rfl) (tw hw 6 rfl) (by decide) (by decide)) q3a q3c (g := (mkF m 27 #[iv p0s, iv 17, rv w11, iv 0] [(.ref w11)])) rfl (by rw [hml]; rfl) (Steps.refl _) (argsL := []) (rest := []) (lenOf pd_2 rfl) rfl (by show 2 * 0 + _ ≤ _; exact Nat.le_of_eq rfl) (hb hby at_27) (fun _ _ => ⟨rfl, e2, (by decide : 0 + 0 ≤ _), (by decide : 0 + 0 ≤ _)⟩)
    dsimp only [Pt.U, Pt.locs, Pt.cells, Pt.slots] at X3 l3 y3 z3 st3 hQ3
    subst l3 y3 z3
    obtain ⟨rfl, N3q, e3⟩ := hQ3
    have N3 := Fr.app N2 N3q
    obtain ⟨fs, hr, hrun, hended, hW, hsame⟩ := X3.leave (v := some (.int (1 : Int32))) (fun h => by rw [hre] at h; cases h)
    refine ⟨_, _, pre0 _ (pre1 _ (?_)), hrun, hended, _, _, rfl, ?_, ⟨_, rfl⟩, hW, hsame.mono (by decide) (by decide)⟩
    · show SF p e below s₁ (mkF m 7 #[iv p0s, .unset, .unset, .unset] [(.int ((p0s &&& (2147483647 : Int32)) % (18 : Int32)))]) _
      rw [hc1]
      show SF p e below s₁ (mkF m 7 #[iv p0s, .unset, .unset, .unset] [(.int 17)]) _
      refine XS.istoreN X0.here hx rfl (hb hby at_7) rfl (l' := #[iv p0s, iv 17, .unset, .unset]) rfl ?_
      show SF p e below s₁ (mkF m 8 #[iv p0s, iv 17, .unset, .unset] []) _
      refine XS.iloadN X0.here hx rfl (hb hby at_8) rfl ?_
      show SF p e below s₁ (mkF m 9 #[iv p0s, iv 17, .unset, .unset] [(.int 17)]) _
      refine st1 _ ?_
      show SF p e below T1 (mkF m 12 #[iv p0s, iv 17, .unset, .unset] [(.ref w11)]) _
      refine XS.astoreN X1.here hx rfl (hb hby at_12) rfl rfl (l' := #[iv p0s, iv 17, rv w11, .unset]) rfl ?_
      show SF p e below T1 (mkF m 13 #[iv p0s, iv 17, rv w11, .unset] []) _
      refine XS.aloadN X1.here hx rfl (hb hby at_13) rfl rfl ?_
      show SF p e below T1 (mkF m 14 #[iv p0s, iv 17, rv w11, .unset] [(.ref w11)]) _
      refine st2 _ ?_
      show SF p e below T2 (mkF m 17 #[iv p0s, iv 17, rv w11, .unset] [(.int 1)]) _
      refine XS.ifYes X2.here hx rfl (pc0 := 17) (pc' := 24) rfl (hb hby at_17) rfl ((if0 _ _).trans (feq (by decide : ¬ ((1 : Int32) = (0 : Int32)))).2) (by decide) (by decide) ?_
      show SF p e below T2 (mkF m 24 #[iv p0s, iv 17, rv w11, .unset] []) _
      refine XS.iconst X2.here hx rfl (hb hby at_24) ?_
      show SF p e below T2 (mkF m 25 #[iv p0s, iv 17, rv w11, .unset] [(.int 0)]) _
      refine XS.istoreN X2.here hx rfl (hb hby at_25) rfl (l' := #[iv p0s, iv 17, rv w11, iv 0]) rfl ?_
      show SF p e below T2 (mkF m 26 #[iv p0s, iv 17, rv w11, iv 0] []) _
      refine XS.aloadN X2.here hx rfl (hb hby at_26) rfl rfl ?_
      show SF p e below T2 (mkF m 27 #[iv p0s, iv 17, rv w11, iv 0] [(.ref w11)]) _
      refine st3.trans ?_
      show SF p e below T3 (mkF m 30 #[iv p0s, iv 17, rv w11, iv 0] [(.int 0)]) _
      refine XS.iloadN X3.here hx rfl (hb hby at_30) rfl ?_
      show SF p e below T3 (mkF m 31 #[iv p0s, iv 17, rv w11, iv 0] [(.int 0), (.int 0)]) _
      refine XS.icmpNo X3.here hx rfl (hb hby at_31) rfl (teq (by decide : (0 : Int32) = (0 : Int32))).2 ?_
      show SF p e below T3 (mkF m 34 #[iv p0s, iv 17, rv w11, iv 0] []) _
      refine XS.iconst X3.here hx rfl (hb hby at_34) ?_
      show SF p e below T3 (mkF m 35 #[iv p0s, iv 17, rv w11, iv 0] [(.int 1)]) _
      refine XS.goto X3.here hx rfl (pc0 := 35) (pc' := 39) rfl (hb hby at_35) (by decide) (by decide) ?_
      show SF p e below T3 (mkF m 39 #[iv p0s, iv 17, rv w11, iv 0] [(.int 1)]) _
      exact retN X3 hx (t := .boolean) hre (by simp) (hb hby at_39) hr
    · exact ⟨rfl, N3⟩
set_option maxRecDepth 65536 in
set_option maxHeartbeats 40000000 in
theorem comes_1 {Post : Tables → Env → Array Value → State → Outcome → State → Prop} (hpost : ∀ tb e args s v u, (limb_1_1.after args s (.returned v) u = true ∧ limb_1_2.after args s (.returned v) u = true ∧ True) → FrameEnd s (.returned v) u (Jvm.fieldLocs frame_1_writes args s ++ Jvm.arrayLocs frame_1_arrays args s ++ Jvm.staticLocs frame_1_statics s) 0 0 → Post tb e args s (.returned v) u) :
    ArmFor flags0 classFile x code maxLocals ret World_1 tables_1 room_1 Calls_1 rest_1 Pre_1 Post := by
  intro l hfl _ _ p e ha hc hk s m args below hf hA hF happ hP
  obtain ⟨hcalls, hrest, hpre⟩ := hP
  obtain ⟨-, -, -, hnamed, -, -, -, hat⟩ := (Spec.applies_iff hf).mp happ
  obtain ⟨hg, hn⟩ := and_e (Cond.before_iff.mp (show (Jvm.Cond.and given_1 narrow_1).before args s = true from hpre))
  obtain ⟨gv0, gr0⟩ := and_e hg
  have gv1 := gr0
  obtain ⟨av0, rfl⟩ : ∃ av0 : Value, args = #[av0] := by
    have hs : args.size = 1 := by simpa [Cond.value, given_1] using gv0
    obtain ⟨L⟩ := args
    match L, hs with
    | [av0], _ => exact ⟨av0, rfl⟩
  have hw := fun d (hd : d ∈ tables_1) => atoms_spec (ws := Jvm.Cond.code x code maxLocals ret :: tables_1) hat d (List.mem_cons_of_mem _ hd)
  have hfit : Fit s := fun {y c} hc i hi => by
    obtain ⟨ha, rfl⟩ := Array.getElem?_eq_some_iff.mp hc
    have q := List.all_eq_true.mp ((Array.all_eq_true_iff_forall_mem.mp hF) _ (Array.getElem_mem ha)) i (List.mem_range.mpr hi)
    simpa [Array.getElem?_eq_getElem hi] using q
  obtain ⟨p0s, ei0⟩ := is_v gv1
  obtain rfl : av0 = (.int p0s) := Option.some.inj ei0
  obtain ⟨nv0, nr0⟩ := and_e hn
  obtain ⟨nv1, nr1⟩ := and_e nr0
  obtain ⟨nv2, nr2⟩ := and_e nr1
  obtain ⟨nv3, nr3⟩ := and_e nr2
  obtain ⟨nv4, nr4⟩ := and_e nr3
  obtain ⟨nv5, nr5⟩ := and_e nr4
  obtain ⟨nv6, nr6⟩ := and_e nr5
  obtain ⟨nv7, nr7⟩ := and_e nr6
  obtain ⟨nv8, nr8⟩ := and_e nr7
  obtain ⟨nv9, nr9⟩ := and_e nr8
  obtain ⟨nv10, nr10⟩ := and_e nr9
  obtain ⟨nv11, nr11⟩ := and_e nr10
  obtain ⟨nv12, nr12⟩ := and_e nr11
  obtain ⟨nv13, nr13⟩ := and_e nr12
  obtain ⟨nv14, nr14⟩ := and_e nr13
  obtain ⟨nv15, nr15⟩ := and_e nr14
  obtain ⟨nv16, nr16⟩ := and_e nr15
  obtain ⟨nv17, nr17⟩ := and_e nr16
  obtain ⟨nv18, nr18⟩ := and_e nr17
  obtain ⟨nv19, nr19⟩ := and_e nr18
  obtain ⟨nv20, nr20⟩ := and_e nr19
  obtain ⟨nv21, nr21⟩ := and_e nr20
  obtain ⟨nv22, nr22⟩ := and_e nr21
  obtain ⟨nv23, nr23⟩ := and_e nr22
  obtain ⟨nv24, nr24⟩ := and_e nr23
  obtain ⟨nv25, nr25⟩ := and_e nr24
  obtain ⟨nv26, nr26⟩ := and_e nr25
  obtain ⟨nv27, nr27⟩ := and_e nr26
  obtain ⟨nv28, nr28⟩ := and_e nr27
  obtain ⟨nv29, nr29⟩ := and_e nr28
  obtain ⟨nv30, nr30⟩ := and_e nr29
  obtain ⟨nv31, nr31⟩ := and_e nr30
  obtain ⟨nv32, nr32⟩ := and_e nr31
  obtain ⟨nv33, nr33⟩ := and_e nr32
  obtain ⟨nv34, nr34⟩ := and_e nr33
  obtain ⟨w1, ev_w1⟩ := exa_v nv0
  have S0 : Sta s s.heap "com/example/edictum/edictum/io/XpathTokens$Kind" "AT" "Lcom/example/edictum/edictum/io/XpathTokens$Kind;" (.ref w1) := Sta.start ev_w1 (Or.inr ⟨(tw hw 6 rfl), (tw hw 7 rfl)⟩)
  have E_w1 : Exa s s.heap w1 "com/example/edictum/edictum/io/XpathTokens$Kind" := Exa.start ev_w1 nv0
  obtain ⟨w2, ev_w2⟩ := exa_v nv1
  have S2 : Sta s s.heap "com/example/edictum/edictum/io/XpathTokens$Kind" "RIGHT_PAREN" "Lcom/example/edictum/edictum/io/XpathTokens$Kind;" (.ref w2) := Sta.start ev_w2 (Or.inr ⟨(tw hw 6 rfl), (tw hw 12 rfl)⟩)
  have E_w2 : Exa s s.heap w2 "com/example/edictum/edictum/io/XpathTokens$Kind" := Exa.start ev_w2 nv1
  obtain ⟨w3, ev_w3⟩ := exa_v nv4
  have S4 : Sta s s.heap "com/example/edictum/edictum/io/XpathTokens$Kind" "RIGHT_BRACKET" "Lcom/example/edictum/edictum/io/XpathTokens$Kind;" (.ref w3) := Sta.start ev_w3 (Or.inr ⟨(tw hw 6 rfl), (tw hw 14 rfl)⟩)
  have E_w3 : Exa s s.heap w3 "com/example/edictum/edictum/io/XpathTokens$Kind" := Exa.start ev_w3 nv4
  obtain ⟨w4, ev_w4⟩ := exa_v nv6
  have S6 : Sta s s.heap "com/example/edictum/edictum/io/XpathTokens$Kind" "AXIS" "Lcom/example/edictum/edictum/io/XpathTokens$Kind;" (.ref w4) := Sta.start ev_w4 (Or.inr ⟨(tw hw 6 rfl), (tw hw 16 rfl)⟩)
  have E_w4 : Exa s s.heap w4 "com/example/edictum/edictum/io/XpathTokens$Kind" := Exa.start ev_w4 nv6
  obtain ⟨w5, ev_w5⟩ := exa_v nv8
  have S8 : Sta s s.heap "com/example/edictum/edictum/io/XpathTokens$Kind" "FUNCTION" "Lcom/example/edictum/edictum/io/XpathTokens$Kind;" (.ref w5) := Sta.start ev_w5 (Or.inr ⟨(tw hw 6 rfl), (tw hw 18 rfl)⟩)
  have E_w5 : Exa s s.heap w5 "com/example/edictum/edictum/io/XpathTokens$Kind" := Exa.start ev_w5 nv8
  obtain ⟨w6, ev_w6⟩ := exa_v nv10
  have S10 : Sta s s.heap "com/example/edictum/edictum/io/XpathTokens$Kind" "NODE_TYPE" "Lcom/example/edictum/edictum/io/XpathTokens$Kind;" (.ref w6) := Sta.start ev_w6 (Or.inr ⟨(tw hw 6 rfl), (tw hw 20 rfl)⟩)
  have E_w6 : Exa s s.heap w6 "com/example/edictum/edictum/io/XpathTokens$Kind" := Exa.start ev_w6 nv10
  obtain ⟨w7, ev_w7⟩ := exa_v nv12
  have S12 : Sta s s.heap "com/example/edictum/edictum/io/XpathTokens$Kind" "NAME_TEST" "Lcom/example/edictum/edictum/io/XpathTokens$Kind;" (.ref w7) := Sta.start ev_w7 (Or.inr ⟨(tw hw 6 rfl), (tw hw 22 rfl)⟩)
  have E_w7 : Exa s s.heap w7 "com/example/edictum/edictum/io/XpathTokens$Kind" := Exa.start ev_w7 nv12
  obtain ⟨w8, ev_w8⟩ := exa_v nv14
  have S14 : Sta s s.heap "com/example/edictum/edictum/io/XpathTokens$Kind" "DOT" "Lcom/example/edictum/edictum/io/XpathTokens$Kind;" (.ref w8) := Sta.start ev_w8 (Or.inr ⟨(tw hw 6 rfl), (tw hw 24 rfl)⟩)
  have E_w8 : Exa s s.heap w8 "com/example/edictum/edictum/io/XpathTokens$Kind" := Exa.start ev_w8 nv14
  obtain ⟨w9, ev_w9⟩ := exa_v nv16
  have S16 : Sta s s.heap "com/example/edictum/edictum/io/XpathTokens$Kind" "DOT_DOT" "Lcom/example/edictum/edictum/io/XpathTokens$Kind;" (.ref w9) := Sta.start ev_w9 (Or.inr ⟨(tw hw 6 rfl), (tw hw 26 rfl)⟩)
  have E_w9 : Exa s s.heap w9 "com/example/edictum/edictum/io/XpathTokens$Kind" := Exa.start ev_w9 nv16
  obtain ⟨w10, ev_w10⟩ := exa_v nv18
  have S18 : Sta s s.heap "com/example/edictum/edictum/io/XpathTokens$Kind" "LITERAL" "Lcom/example/edictum/edictum/io/XpathTokens$Kind;" (.ref w10) := Sta.start ev_w10 (Or.inr ⟨(tw hw 6 rfl), (tw hw 28 rfl)⟩)
  have E_w10 : Exa s s.heap w10 "com/example/edictum/edictum/io/XpathTokens$Kind" := Exa.start ev_w10 nv18
  obtain ⟨w11, ev_w11⟩ := exa_v nv20
  have S20 : Sta s s.heap "com/example/edictum/edictum/io/XpathTokens$Kind" "NUMBER" "Lcom/example/edictum/edictum/io/XpathTokens$Kind;" (.ref w11) := Sta.start ev_w11 (Or.inr ⟨(tw hw 6 rfl), (tw hw 30 rfl)⟩)
  have E_w11 : Exa s s.heap w11 "com/example/edictum/edictum/io/XpathTokens$Kind" := Exa.start ev_w11 nv20
  obtain ⟨w12, ev_w12⟩ := exa_v nv22
  have S22 : Sta s s.heap "com/example/edictum/edictum/io/XpathTokens$Kind" "LEFT_BRACKET" "Lcom/example/edictum/edictum/io/XpathTokens$Kind;" (.ref w12) := Sta.start ev_w12 (Or.inr ⟨(tw hw 6 rfl), (tw hw 38 rfl)⟩)
  have E_w12 : Exa s s.heap w12 "com/example/edictum/edictum/io/XpathTokens$Kind" := Exa.start ev_w12 nv22
  obtain ⟨w13, ev_w13⟩ := exa_v nv24
  have S24 : Sta s s.heap "com/example/edictum/edictum/io/XpathTokens$Kind" "AXIS_SEPARATOR" "Lcom/example/edictum/edictum/io/XpathTokens$Kind;" (.ref w13) := Sta.start ev_w13 (Or.inr ⟨(tw hw 6 rfl), (tw hw 40 rfl)⟩)
  have E_w13 : Exa s s.heap w13 "com/example/edictum/edictum/io/XpathTokens$Kind" := Exa.start ev_w13 nv24
  obtain ⟨w14, ev_w14⟩ := exa_v nv26
  have S26 : Sta s s.heap "com/example/edictum/edictum/io/XpathTokens$Kind" "LEFT_PAREN" "Lcom/example/edictum/edictum/io/XpathTokens$Kind;" (.ref w14) := Sta.start ev_w14 (Or.inr ⟨(tw hw 6 rfl), (tw hw 42 rfl)⟩)
  have E_w14 : Exa s s.heap w14 "com/example/edictum/edictum/io/XpathTokens$Kind" := Exa.start ev_w14 nv26
  obtain ⟨w15, ev_w15⟩ := exa_v nv28
  have S28 : Sta s s.heap "com/example/edictum/edictum/io/XpathTokens$Kind" "SLASH" "Lcom/example/edictum/edictum/io/XpathTokens$Kind;" (.ref w15) := Sta.start ev_w15 (Or.inr ⟨(tw hw 6 rfl), (tw hw 47 rfl)⟩)
  have E_w15 : Exa s s.heap w15 "com/example/edictum/edictum/io/XpathTokens$Kind" := Exa.start ev_w15 nv28
  obtain ⟨w16, ev_w16⟩ := exa_v nv30
  have S30 : Sta s s.heap "com/example/edictum/edictum/io/XpathTokens$Kind" "COMMA" "Lcom/example/edictum/edictum/io/XpathTokens$Kind;" (.ref w16) := Sta.start ev_w16 (Or.inr ⟨(tw hw 6 rfl), (tw hw 49 rfl)⟩)
  have E_w16 : Exa s s.heap w16 "com/example/edictum/edictum/io/XpathTokens$Kind" := Exa.start ev_w16 nv30
  obtain ⟨w17, ev_w17⟩ := exa_v nv32
  have S32 : Sta s s.heap "com/example/edictum/edictum/io/XpathTokens$Kind" "DOUBLE_SLASH" "Lcom/example/edictum/edictum/io/XpathTokens$Kind;" (.ref w17) := Sta.start ev_w17 (Or.inr ⟨(tw hw 6 rfl), (tw hw 52 rfl)⟩)
  have E_w17 : Exa s s.heap w17 "com/example/edictum/edictum/io/XpathTokens$Kind" := Exa.start ev_w17 nv32
  obtain ⟨w18, ev_w18⟩ := exa_v nv34
  have S34 : Sta s s.heap "com/example/edictum/edictum/io/XpathTokens$Kind" "OPERATOR" "Lcom/example/edictum/edictum/io/XpathTokens$Kind;" (.ref w18) := Sta.start ev_w18 (Or.inr ⟨(tw hw 6 rfl), (tw hw 54 rfl)⟩)
  have E_w18 : Exa s s.heap w18 "com/example/edictum/edictum/io/XpathTokens$Kind" := Exa.start ev_w18 nv34
  have F_w1_ordinal : Fld s s.heap w1 "java/lang/Enum" "ordinal" "I" (.int 0) := Fld.start ((fld_at ev_w1).symm.trans (own_eqv nv2 (Term.int_eval (0))))
  have F_w2_ordinal : Fld s s.heap w2 "java/lang/Enum" "ordinal" "I" (.int 5) := Fld.start ((fld_at ev_w2).symm.trans (own_eqv nv3 (Term.int_eval (5))))
  have F_w3_ordinal : Fld s s.heap w3 "java/lang/Enum" "ordinal" "I" (.int 6) := Fld.start ((fld_at ev_w3).symm.trans (own_eqv nv5 (Term.int_eval (6))))
  have F_w4_ordinal : Fld s s.heap w4 "java/lang/Enum" "ordinal" "I" (.int 10) := Fld.start ((fld_at ev_w4).symm.trans (own_eqv nv7 (Term.int_eval (10))))
  have F_w5_ordinal : Fld s s.heap w5 "java/lang/Enum" "ordinal" "I" (.int 11) := Fld.start ((fld_at ev_w5).symm.trans (own_eqv nv9 (Term.int_eval (11))))
  have F_w6_ordinal : Fld s s.heap w6 "java/lang/Enum" "ordinal" "I" (.int 12) := Fld.start ((fld_at ev_w6).symm.trans (own_eqv nv11 (Term.int_eval (12))))
  have F_w7_ordinal : Fld s s.heap w7 "java/lang/Enum" "ordinal" "I" (.int 13) := Fld.start ((fld_at ev_w7).symm.trans (own_eqv nv13 (Term.int_eval (13))))
  have F_w8_ordinal : Fld s s.heap w8 "java/lang/Enum" "ordinal" "I" (.int 14) := Fld.start ((fld_at ev_w8).symm.trans (own_eqv nv15 (Term.int_eval (14))))
  have F_w9_ordinal : Fld s s.heap w9 "java/lang/Enum" "ordinal" "I" (.int 15) := Fld.start ((fld_at ev_w9).symm.trans (own_eqv nv17 (Term.int_eval (15))))
  have F_w10_ordinal : Fld s s.heap w10 "java/lang/Enum" "ordinal" "I" (.int 16) := Fld.start ((fld_at ev_w10).symm.trans (own_eqv nv19 (Term.int_eval (16))))
  have F_w11_ordinal : Fld s s.heap w11 "java/lang/Enum" "ordinal" "I" (.int 17) := Fld.start ((fld_at ev_w11).symm.trans (own_eqv nv21 (Term.int_eval (17))))
  have F_w12_ordinal : Fld s s.heap w12 "java/lang/Enum" "ordinal" "I" (.int 3) := Fld.start ((fld_at ev_w12).symm.trans (own_eqv nv23 (Term.int_eval (3))))
  have F_w13_ordinal : Fld s s.heap w13 "java/lang/Enum" "ordinal" "I" (.int 1) := Fld.start ((fld_at ev_w13).symm.trans (own_eqv nv25 (Term.int_eval (1))))
  have F_w14_ordinal : Fld s s.heap w14 "java/lang/Enum" "ordinal" "I" (.int 2) := Fld.start ((fld_at ev_w14).symm.trans (own_eqv nv27 (Term.int_eval (2))))
  have F_w15_ordinal : Fld s s.heap w15 "java/lang/Enum" "ordinal" "I" (.int 7) := Fld.start ((fld_at ev_w15).symm.trans (own_eqv nv29 (Term.int_eval (7))))
  have F_w16_ordinal : Fld s s.heap w16 "java/lang/Enum" "ordinal" "I" (.int 4) := Fld.start ((fld_at ev_w16).symm.trans (own_eqv nv31 (Term.int_eval (4))))
  have F_w17_ordinal : Fld s s.heap w17 "java/lang/Enum" "ordinal" "I" (.int 8) := Fld.start ((fld_at ev_w17).symm.trans (own_eqv nv33 (Term.int_eval (8))))
  have F_w18_ordinal : Fld s s.heap w18 "java/lang/Enum" "ordinal" "I" (.int 9) := Fld.start ((fld_at ev_w18).symm.trans (own_eqv nr34 (Term.int_eval (9))))
  have O0 := Old.start s
  obtain ⟨n, o, h1, h2, h3, _, L, rfl, ⟨rfl, N⟩, hq⟩ := rm0 l s _ hw tables_1 p0s w1 w2 w3 w4 w5 w6 w7 w8 w9 w10 w11 w12 w13 w14 w15 w16 w17 w18 s.heap s.heap.size (Nat.le_refl _) O0 S0 E_w1 S2 E_w2 S4 E_w3 S6 E_w4 S8 E_w5 S10 E_w6 S12 E_w7 S14 E_w8 S16 E_w9 S18 E_w10 S20 E_w11 S22 E_w12 S24 E_w13 S26 E_w14 S28 E_w15 S30 E_w16 S32 E_w17 S34 E_w18 F_w1_ordinal F_w2_ordinal F_w3_ordinal F_w4_ordinal F_w5_ordinal F_w6_ordinal F_w7_ordinal F_w8_ordinal F_w9_ordinal F_w10_ordinal F_w11_ordinal F_w12_ordinal F_w13_ordinal F_w14_ordinal F_w15_ordinal F_w16_ordinal F_w17_ordinal F_w18_ordinal p e ha hc hk s m _ below hf ((Spec.applies_iff_loose hf).mp happ).1 ⟨rfl, State.Warmed39.refl s, rfl⟩ trivial
  refine ⟨n, _, h1, h2, h3, hpost _ _ _ _ _ _ ⟨Cond.after_iff.mpr rfl, Cond.after_iff.mpr (eq_i res_at (Term.int_eval (1)) rfl), trivial⟩ ⟨hq.1, hq.2.1, (hq.2.2.sift fun y hy => Or.inr (N y hy)).mono (by decide) (by decide)⟩⟩
theorem main_1_1 : Claimed_1_1 := comes_1 fun _ _ _ _ _ _ h hF => ⟨h.1, hF⟩
theorem main_1_2 : Claimed_1_2 := comes_1 fun _ _ _ _ _ _ h hF => ⟨h.2.1, hF⟩
end Jvm.Pilot.@@N@@
namespace Jvm.Pilot.@@N@@
open Jvm Jvm.ClassFile Sem Op Lib Jvm.Free Jvm.Stand Jvm.Pilot.@@N@@.Jvm.D
/-! MADE BY PROGRAM (witnessworld.py) out of the Statement's table words and the real class files: 12 classes; the members and pool entries that the words name. The judged class is class 1, her method 3. -/
namespace start1
open Jvm.ClassFile
def u (s : String) : CpInfo := .utf8 (stringToUtf16 s)
/-- a pool by its gaps: so many unusable entries, then the entry; so many at the end -/
def gap : Nat → List CpInfo → List CpInfo
  | 0, r => r
  | n + 1, r => .unusable :: gap n r
def poolList (es : List (Nat × CpInfo)) (last : Nat) : List CpInfo := es.foldr (fun e r => gap e.1 (e.2 :: r)) (gap last [])
def pool (es : List (Nat × CpInfo)) (last : Nat) : Array CpInfo := ⟨poolList es last⟩
def fileOf (pool : Array CpInfo) (this : Nat) (attrs : Array Attribute := #[]) (ms : Array MethodInfo := #[]) (fl : Nat := 33) (sup : Nat := 0) (ifs : Array Nat := #[]) (fds : Array FieldInfo := #[]) : ClassFile where
  minorVersion := 0
  majorVersion := 65
  constantPool := pool
  accessFlags := fl
  thisClass := this
  superClass := sup
  interfaces := ifs
  fields := fds
  methods := ms
  attributes := attrs
def plain (name : String) (sup : Option ClassId) : Class where
  name := name
  kind := .ordinary
  loader := none
  accessFlags := 33
  super := sup
  interfaces := #[]
  cf := none
  fields := #[]
  methods := #[]
  instanceTypes := #[]
  staticTypes := #[]
  resolved := #[]
  callSites := []
  init := .initialized
  statics := none
  mirror := none

def pool0 : Array CpInfo := pool [(5, u "<init>"), (0, u "()V"), (1, .class_ 10), (1, u "java/lang/Object")] 113

def k0m0 : Method := { name := "<init>", desc := "()V", sig := { parameters := [], returnType := none }, accessFlags := 1, code := none }
/-- java/lang/Object -/
def k0 : Class := { plain "java/lang/Object" none with
  accessFlags := 33
  interfaces := #[]
  cf := some (fileOf pool0 8 #[] #[{ accessFlags := 1, nameIndex := 5, descriptorIndex := 6, attributes := #[] }] 33 0 #[] #[])
  fields := #[]
  methods := #[k0m0]
  instanceTypes := #[]
  staticTypes := #[]
  resolved := Array.replicate 124 none
  statics := none }

def pool1 : Array CpInfo := pool [(2, .class_ 4), (1, u "java/lang/Object"), (0, u "<init>"), (0, u "()V"), (0, .fieldref 8 9), (0, .class_ 10), (0, .nameAndType 11 12), (0, u "com/example/edictum/edictum/io/XpathTokens$Kind"), (0, u "AT"), (0, u "Lcom/example/edictum/edictum/io/XpathTokens$Kind;"), (0, .fieldref 8 14), (0, .nameAndType 15 12), (0, u "AXIS_SEPARATOR"), (0, .fieldref 8 17), (0, .nameAndType 18 12), (0, u "LEFT_PAREN"), (0, .fieldref 8 20), (0, .nameAndType 21 12), (0, u "LEFT_BRACKET"), (0, .fieldref 8 23), (0, .nameAndType 24 12), (0, u "COMMA"), (0, .fieldref 8 26), (0, .nameAndType 27 12), (0, u "RIGHT_PAREN"), (0, .fieldref 8 29), (0, .nameAndType 30 12), (0, u "RIGHT_BRACKET"), (0, .fieldref 8 32), (0, .nameAndType 33 12), (0, u "SLASH"), (0, .fieldref 8 35), (0, .nameAndType 36 12), (0, u "DOUBLE_SLASH"), (0, .fieldref 8 38), (0, .nameAndType 39 12), (0, u "OPERATOR"), (0, .fieldref 8 41), (0, .nameAndType 42 12), (0, u "AXIS"), (0, .fieldref 8 44), (0, .nameAndType 45 12), (0, u "FUNCTION"), (0, .fieldref 8 47), (0, .nameAndType 48 12), (0, u "NODE_TYPE"), (0, .fieldref 8 50), (0, .nameAndType 51 12), (0, u "NAME_TEST"), (0, .fieldref 8 53), (0, .nameAndType 54 12), (0, u "DOT"), (0, .fieldref 8 56), (0, .nameAndType 57 12), (0, u "DOT_DOT"), (0, .fieldref 8 59), (0, .nameAndType 60 12), (0, u "LITERAL"), (0, .fieldref 8 62), (0, .nameAndType 63 12), (0, u "NUMBER"), (0, .integer 2147483647), (0, .methodref 66 67), (0, .class_ 68), (0, .nameAndType 69 70), (0, u "com/example/edictum/edictum/io/XpathTokensNamesNextPinLaw"), (0, u "kindOf"), (0, u "(I)Lcom/example/edictum/edictum/io/XpathTokens$Kind;"), (0, .methodref 66 72), (0, .nameAndType 73 74), (0, u "endsOperand"), (0, u "(Lcom/example/edictum/edictum/io/XpathTokens$Kind;)Z"), (0, .methodref 8 76), (0, .nameAndType 77 78), (0, u "namesNext"), (0, u "()Z"), (3, u "law"), (0, u "(I)Z")] 6

def k1m0 : Method := { name := "<init>", desc := "()V", sig := { parameters := [], returnType := none }, accessFlags := 2, code := none }
def k1c1 : Code := { maxStack := 2, maxLocals := 1, code := method_2_code, exceptionTable := #[], attributes := #[] }
def k1m1 : Method := { name := "kindOf", desc := "(I)Lcom/example/edictum/edictum/io/XpathTokens$Kind;", sig := { parameters := [.int], returnType := some (.object "com/example/edictum/edictum/io/XpathTokens$Kind") }, accessFlags := 10, code := some k1c1 }
def k1c2 : Code := { maxStack := 2, maxLocals := 1, code := method_3_code, exceptionTable := #[], attributes := #[] }
def k1m2 : Method := { name := "endsOperand", desc := "(Lcom/example/edictum/edictum/io/XpathTokens$Kind;)Z", sig := { parameters := [(.object "com/example/edictum/edictum/io/XpathTokens$Kind")], returnType := some .boolean }, accessFlags := 10, code := some k1c2 }
def k1c3 : Code := { maxStack := 2, maxLocals := 4, code := code, exceptionTable := #[], attributes := #[] }
def k1m3 : Method := { name := "law", desc := "(I)Z", sig := { parameters := [.int], returnType := some .boolean }, accessFlags := 9, code := some k1c3 }
/-- com/example/edictum/edictum/io/XpathTokensNamesNextPinLaw -/
def k1 : Class := { plain "com/example/edictum/edictum/io/XpathTokensNamesNextPinLaw" (some 0) with
  accessFlags := 49
  interfaces := #[]
  cf := some (fileOf pool1 66 #[] #[{ accessFlags := 2, nameIndex := 5, descriptorIndex := 6, attributes := #[] }, { accessFlags := 10, nameIndex := 69, descriptorIndex := 70, attributes := #[] }, { accessFlags := 10, nameIndex := 73, descriptorIndex := 74, attributes := #[] }, { accessFlags := 9, nameIndex := 82, descriptorIndex := 83, attributes := #[] }] 49 2 #[] #[])
  fields := #[]
  methods := #[k1m0, k1m1, k1m2, k1m3]
  instanceTypes := #[]
  staticTypes := #[]
  resolved := Array.replicate 90 none
  statics := none }

def pool2 : Array CpInfo := pool [(1, .class_ 2), (0, u "java/lang/constant/Constable"), (0, .class_ 4), (0, u "java/lang/Object")] 6

/-- java/lang/constant/Constable -/
def k2 : Class := { plain "java/lang/constant/Constable" (some 0) with
  accessFlags := 1537
  interfaces := #[]
  cf := some (fileOf pool2 1 #[] #[] 1537 3 #[] #[])
  fields := #[]
  methods := #[]
  instanceTypes := #[]
  staticTypes := #[]
  resolved := Array.replicate 11 none
  statics := none }

def pool3 : Array CpInfo := pool [(1, .class_ 2), (0, u "java/lang/Comparable"), (0, .class_ 4), (0, u "java/lang/Object")] 7

/-- java/lang/Comparable -/
def k3 : Class := { plain "java/lang/Comparable" (some 0) with
  accessFlags := 1537
  interfaces := #[]
  cf := some (fileOf pool3 1 #[] #[] 1537 3 #[] #[])
  fields := #[]
  methods := #[]
  instanceTypes := #[]
  staticTypes := #[]
  resolved := Array.replicate 12 none
  statics := none }

def pool4 : Array CpInfo := pool [(1, .class_ 2), (0, u "java/io/Serializable"), (0, .class_ 4), (0, u "java/lang/Object")] 2

/-- java/io/Serializable -/
def k4 : Class := { plain "java/io/Serializable" (some 0) with
  accessFlags := 1537
  interfaces := #[]
  cf := some (fileOf pool4 1 #[] #[] 1537 3 #[] #[])
  fields := #[]
  methods := #[]
  instanceTypes := #[]
  staticTypes := #[]
  resolved := Array.replicate 7 none
  statics := none }

def pool5 : Array CpInfo := pool [(2, .class_ 4), (1, u "java/lang/Enum"), (0, u "name"), (0, u "Ljava/lang/String;"), (2, u "ordinal"), (0, u "I"), (1, .class_ 14), (1, u "java/lang/Object"), (4, u "hash"), (86, .class_ 108), (1, u "java/lang/Enum$EnumDesc"), (2, .class_ 112), (0, u "java/lang/constant/Constable"), (0, .class_ 114), (0, u "java/lang/Comparable"), (0, .class_ 116), (0, u "java/io/Serializable")] 87

/-- java/lang/Enum -/
def k5 : Class := { plain "java/lang/Enum" (some 0) with
  accessFlags := 1057
  interfaces := #[2, 3, 4]
  cf := some (fileOf pool5 2 #[.nestMembers #[106]] #[] 1057 12 #[111, 113, 115] #[{ accessFlags := 18, nameIndex := 5, descriptorIndex := 6, attributes := #[] }, { accessFlags := 18, nameIndex := 9, descriptorIndex := 10, attributes := #[] }, { accessFlags := 2, nameIndex := 19, descriptorIndex := 10, attributes := #[] }])
  fields := #[{ name := "name", type := (.object "java/lang/String"), accessFlags := 18, slot := 0, constantValue := 0 }, { name := "ordinal", type := .int, accessFlags := 18, slot := 1, constantValue := 0 }, { name := "hash", type := .int, accessFlags := 2, slot := 2, constantValue := 0 }]
  methods := #[]
  instanceTypes := #[(.object "java/lang/String"), .int, .int]
  staticTypes := #[]
  resolved := Array.replicate 204 none
  statics := none }

def pool6 : Array CpInfo := pool [(1, .class_ 2), (0, u "com/example/edictum/edictum/io/XpathTokens$Kind"), (0, .fieldref 1 4), (0, .nameAndType 5 6), (0, u "AT"), (0, u "Lcom/example/edictum/edictum/io/XpathTokens$Kind;"), (0, .fieldref 1 8), (0, .nameAndType 9 6), (0, u "AXIS_SEPARATOR"), (0, .fieldref 1 11), (0, .nameAndType 12 6), (0, u "LEFT_PAREN"), (0, .fieldref 1 14), (0, .nameAndType 15 6), (0, u "LEFT_BRACKET"), (0, .fieldref 1 17), (0, .nameAndType 18 6), (0, u "COMMA"), (2, u "RIGHT_PAREN"), (2, u "RIGHT_BRACKET"), (0, .fieldref 1 26), (0, .nameAndType 27 6), (0, u "SLASH"), (0, .fieldref 1 29), (0, .nameAndType 30 6), (0, u "DOUBLE_SLASH"), (0, .fieldref 1 32), (0, .nameAndType 33 6), (0, u "OPERATOR"), (2, u "AXIS"), (2, u "FUNCTION"), (2, u "NODE_TYPE"), (2, u "NAME_TEST"), (2, u "DOT"), (2, u "DOT_DOT"), (2, u "LITERAL"), (2, u "NUMBER"), (2, u "$VALUES"), (0, u "[Lcom/example/edictum/edictum/io/XpathTokens$Kind;"), (6, .class_ 70), (1, u "java/lang/Enum"), (36, u "namesNext"), (0, u "()Z"), (8, .class_ 118), (0, u "com/example/edictum/edictum/io/XpathTokens")] 2

def k6c0 : Code := { maxStack := 2, maxLocals := 1, code := prog_251_method_4_code, exceptionTable := #[], attributes := #[] }
def k6m0 : Method := { name := "namesNext", desc := "()Z", sig := { parameters := [], returnType := some .boolean }, accessFlags := 0, code := some k6c0 }
/-- com/example/edictum/edictum/io/XpathTokens$Kind -/
def k6 : Class := { plain "com/example/edictum/edictum/io/XpathTokens$Kind" (some 5) with
  accessFlags := 16432
  interfaces := #[]
  cf := some (fileOf pool6 1 #[.nestHost 117] #[{ accessFlags := 0, nameIndex := 107, descriptorIndex := 108, attributes := #[] }] 16432 68 #[] #[{ accessFlags := 16409, nameIndex := 5, descriptorIndex := 6, attributes := #[] }, { accessFlags := 16409, nameIndex := 9, descriptorIndex := 6, attributes := #[] }, { accessFlags := 16409, nameIndex := 12, descriptorIndex := 6, attributes := #[] }, { accessFlags := 16409, nameIndex := 15, descriptorIndex := 6, attributes := #[] }, { accessFlags := 16409, nameIndex := 18, descriptorIndex := 6, attributes := #[] }, { accessFlags := 16409, nameIndex := 21, descriptorIndex := 6, attributes := #[] }, { accessFlags := 16409, nameIndex := 24, descriptorIndex := 6, attributes := #[] }, { accessFlags := 16409, nameIndex := 27, descriptorIndex := 6, attributes := #[] }, { accessFlags := 16409, nameIndex := 30, descriptorIndex := 6, attributes := #[] }, { accessFlags := 16409, nameIndex := 33, descriptorIndex := 6, attributes := #[] }, { accessFlags := 16409, nameIndex := 36, descriptorIndex := 6, attributes := #[] }, { accessFlags := 16409, nameIndex := 39, descriptorIndex := 6, attributes := #[] }, { accessFlags := 16409, nameIndex := 42, descriptorIndex := 6, attributes := #[] }, { accessFlags := 16409, nameIndex := 45, descriptorIndex := 6, attributes := #[] }, { accessFlags := 16409, nameIndex := 48, descriptorIndex := 6, attributes := #[] }, { accessFlags := 16409, nameIndex := 51, descriptorIndex := 6, attributes := #[] }, { accessFlags := 16409, nameIndex := 54, descriptorIndex := 6, attributes := #[] }, { accessFlags := 16409, nameIndex := 57, descriptorIndex := 6, attributes := #[] }, { accessFlags := 4122, nameIndex := 60, descriptorIndex := 61, attributes := #[] }])
  fields := #[{ name := "AT", type := (.object "com/example/edictum/edictum/io/XpathTokens$Kind"), accessFlags := 16409, slot := 0, constantValue := 0 }, { name := "AXIS_SEPARATOR", type := (.object "com/example/edictum/edictum/io/XpathTokens$Kind"), accessFlags := 16409, slot := 1, constantValue := 0 }, { name := "LEFT_PAREN", type := (.object "com/example/edictum/edictum/io/XpathTokens$Kind"), accessFlags := 16409, slot := 2, constantValue := 0 }, { name := "LEFT_BRACKET", type := (.object "com/example/edictum/edictum/io/XpathTokens$Kind"), accessFlags := 16409, slot := 3, constantValue := 0 }, { name := "COMMA", type := (.object "com/example/edictum/edictum/io/XpathTokens$Kind"), accessFlags := 16409, slot := 4, constantValue := 0 }, { name := "RIGHT_PAREN", type := (.object "com/example/edictum/edictum/io/XpathTokens$Kind"), accessFlags := 16409, slot := 5, constantValue := 0 }, { name := "RIGHT_BRACKET", type := (.object "com/example/edictum/edictum/io/XpathTokens$Kind"), accessFlags := 16409, slot := 6, constantValue := 0 }, { name := "SLASH", type := (.object "com/example/edictum/edictum/io/XpathTokens$Kind"), accessFlags := 16409, slot := 7, constantValue := 0 }, { name := "DOUBLE_SLASH", type := (.object "com/example/edictum/edictum/io/XpathTokens$Kind"), accessFlags := 16409, slot := 8, constantValue := 0 }, { name := "OPERATOR", type := (.object "com/example/edictum/edictum/io/XpathTokens$Kind"), accessFlags := 16409, slot := 9, constantValue := 0 }, { name := "AXIS", type := (.object "com/example/edictum/edictum/io/XpathTokens$Kind"), accessFlags := 16409, slot := 10, constantValue := 0 }, { name := "FUNCTION", type := (.object "com/example/edictum/edictum/io/XpathTokens$Kind"), accessFlags := 16409, slot := 11, constantValue := 0 }, { name := "NODE_TYPE", type := (.object "com/example/edictum/edictum/io/XpathTokens$Kind"), accessFlags := 16409, slot := 12, constantValue := 0 }, { name := "NAME_TEST", type := (.object "com/example/edictum/edictum/io/XpathTokens$Kind"), accessFlags := 16409, slot := 13, constantValue := 0 }, { name := "DOT", type := (.object "com/example/edictum/edictum/io/XpathTokens$Kind"), accessFlags := 16409, slot := 14, constantValue := 0 }, { name := "DOT_DOT", type := (.object "com/example/edictum/edictum/io/XpathTokens$Kind"), accessFlags := 16409, slot := 15, constantValue := 0 }, { name := "LITERAL", type := (.object "com/example/edictum/edictum/io/XpathTokens$Kind"), accessFlags := 16409, slot := 16, constantValue := 0 }, { name := "NUMBER", type := (.object "com/example/edictum/edictum/io/XpathTokens$Kind"), accessFlags := 16409, slot := 17, constantValue := 0 }, { name := "$VALUES", type := (.array (.object "com/example/edictum/edictum/io/XpathTokens$Kind")), accessFlags := 4122, slot := 18, constantValue := 0 }]
  methods := #[k6m0]
  instanceTypes := #[(.object "java/lang/String"), .int, .int]
  staticTypes := #[(.object "com/example/edictum/edictum/io/XpathTokens$Kind"), (.object "com/example/edictum/edictum/io/XpathTokens$Kind"), (.object "com/example/edictum/edictum/io/XpathTokens$Kind"), (.object "com/example/edictum/edictum/io/XpathTokens$Kind"), (.object "com/example/edictum/edictum/io/XpathTokens$Kind"), (.object "com/example/edictum/edictum/io/XpathTokens$Kind"), (.object "com/example/edictum/edictum/io/XpathTokens$Kind"), (.object "com/example/edictum/edictum/io/XpathTokens$Kind"), (.object "com/example/edictum/edictum/io/XpathTokens$Kind"), (.object "com/example/edictum/edictum/io/XpathTokens$Kind"), (.object "com/example/edictum/edictum/io/XpathTokens$Kind"), (.object "com/example/edictum/edictum/io/XpathTokens$Kind"), (.object "com/example/edictum/edictum/io/XpathTokens$Kind"), (.object "com/example/edictum/edictum/io/XpathTokens$Kind"), (.object "com/example/edictum/edictum/io/XpathTokens$Kind"), (.object "com/example/edictum/edictum/io/XpathTokens$Kind"), (.object "com/example/edictum/edictum/io/XpathTokens$Kind"), (.object "com/example/edictum/edictum/io/XpathTokens$Kind"), (.array (.object "com/example/edictum/edictum/io/XpathTokens$Kind"))]
  resolved := Array.replicate 121 none
  statics := some 0 }

def pool7 : Array CpInfo := pool [(1, u "java/lang/Cloneable"), (0, .class_ 1), (0, u "java/lang/Object"), (0, .class_ 3)] 3

/-- java/lang/Cloneable -/
def k7 : Class := { plain "java/lang/Cloneable" (some 0) with
  accessFlags := 1537
  interfaces := #[]
  cf := some (fileOf pool7 2 #[] #[] 1537 4 #[] #[])
  fields := #[]
  methods := #[]
  instanceTypes := #[]
  staticTypes := #[]
  resolved := Array.replicate 8 none
  statics := none }

/-- the primitive byte -/
def k8 : Class := { plain "byte" none with kind := .primitive 'B', accessFlags := 0x411 }
/-- [B -/
def k9 : Class := { plain "[B" (some 0) with kind := .array 8 .byte, interfaces := #[7, 4], accessFlags := 1041 }

/-- the primitive int -/
def k10 : Class := { plain "int" none with kind := .primitive 'I', accessFlags := 0x411 }
/-- [I -/
def k11 : Class := { plain "[I" (some 0) with kind := .array 10 .int, interfaces := #[7, 4], accessFlags := 1041 }

def heap : Heap := #[{ cls := 6, slots := #[.ref 1, .ref 13, .ref 14, .ref 12, .ref 16, .ref 2, .ref 3, .ref 15, .ref 17, .ref 18, .ref 4, .ref 5, .ref 6, .ref 7, .ref 8, .ref 9, .ref 10, .ref 11, .null], vm := .statics 6 },
  { cls := 6, slots := #[.null, .int 0, .int 0], vm := .none },
  { cls := 6, slots := #[.null, .int 5, .int 0], vm := .none },
  { cls := 6, slots := #[.null, .int 6, .int 0], vm := .none },
  { cls := 6, slots := #[.null, .int 10, .int 0], vm := .none },
  { cls := 6, slots := #[.null, .int 11, .int 0], vm := .none },
  { cls := 6, slots := #[.null, .int 12, .int 0], vm := .none },
  { cls := 6, slots := #[.null, .int 13, .int 0], vm := .none },
  { cls := 6, slots := #[.null, .int 14, .int 0], vm := .none },
  { cls := 6, slots := #[.null, .int 15, .int 0], vm := .none },
  { cls := 6, slots := #[.null, .int 16, .int 0], vm := .none },
  { cls := 6, slots := #[.null, .int 17, .int 0], vm := .none },
  { cls := 6, slots := #[.null, .int 3, .int 0], vm := .none },
  { cls := 6, slots := #[.null, .int 1, .int 0], vm := .none },
  { cls := 6, slots := #[.null, .int 2, .int 0], vm := .none },
  { cls := 6, slots := #[.null, .int 7, .int 0], vm := .none },
  { cls := 6, slots := #[.null, .int 4, .int 0], vm := .none },
  { cls := 6, slots := #[.null, .int 8, .int 0], vm := .none },
  { cls := 6, slots := #[.null, .int 9, .int 0], vm := .none }]
def classes : Array Class := #[k0, k1, k2, k3, k4, k5, k6, k7, k8, k9, k10, k11]
def interned : List (Array UInt16 × Addr) := []
def slotsUsed : Nat := 73
def theMethod : MethodId := ⟨1, 3⟩
def args0 : Array Value := #[.int 5]
def aboutOver (below : List Frame) : State where
  vm := { classes := classes, interned := interned.toArray }
  heap := heap
  slotsUsed := slotsUsed
  threads := #[{ frames := .invoking theMethod args0 :: below }]
def below0 : List Frame := [.native { method := ⟨0, 0⟩, args := #[] }]
def about1 : State := aboutOver below0
def p0 : Program := .bare "" "" ""
def e0 : Env := launch0.env 0 0 0
theorem w_frames : about1.frames = Frame.invoking theMethod args0 :: below0 := rfl
set_option maxRecDepth 65536 in
theorem w_args : argsFit about1.vm theMethod args0 = true := by decide +kernel
set_option maxRecDepth 65536 in
theorem w_heap : heapFits about1 = true := by decide +kernel
set_option maxRecDepth 65536 in
theorem w_runnable : about1.curStatus? = some .runnable := by decide +kernel
set_option maxRecDepth 65536 in
theorem w_alone : about1.alone = true := by decide +kernel
set_option maxRecDepth 65536 in
theorem w_named : about1.methodNamed? x = some theMethod := by decide +kernel
set_option maxRecDepth 65536 in
theorem w_hears : about1.hears theMethod below0 = true := by decide +kernel
set_option maxRecDepth 65536 in
theorem w_ripe : about1.ripe theMethod args0 below0 = true := by decide +kernel
theorem w_running : about1.status = .running := rfl
set_option maxRecDepth 65536 in
theorem w_room : about1.hasRoom e0.platform room_1 = true :=
  launch0.hasRoom_least _ room_1 (by decide +kernel) (by decide +kernel) (by decide +kernel) (by decide +kernel) (by decide +kernel) (by decide +kernel)
theorem allAtoms_all (ts : List Jvm.Cond) (a : Array Jvm.Value) (st : Jvm.State) : (allAtoms ts).before a st = ts.all (fun c => c.before a st) := by
  induction ts with
  | nil => rfl
  | cons c t ih =>
    show (Jvm.Cond.and c (allAtoms t)).before a st = _
    rw [Jvm.Cond.before_and, ih, List.all_cons]
def words1 : List Jvm.Cond := Jvm.Cond.code x code maxLocals ret :: tables_1
/-- a 'code' word, met by the world's own term for the bytes: nothing is compared byte by byte -/
theorem code_word {y : MethodName} {bytes : ByteArray} {mx : Nat} {rt : Option FieldType} {a : Array Value} {s : State} {m : MethodId} {meth : Method} {c : Code} (h1 : s.methodNamed? y = some m) (h2 : s.vm.method? m = some meth) (h3 : meth.code = some c) (h4 : c.code = bytes)
    (h5 : (c.maxLocals == mx && c.exceptionTable.isEmpty && decide (c.maxStack ≤ mostOperands) && decide (meth.sig.returnType = rt) && !meth.locks && decide (parseMethodDescriptor y.desc = some meth.sig)) = true) : (Jvm.Cond.code y bytes mx rt).before a s = true := by
  simp only [Bool.and_eq_true, beq_iff_eq, Bool.not_eq_true', decide_eq_true_eq] at h5
  obtain ⟨⟨⟨⟨⟨g1, g2⟩, g3⟩, g4⟩, g5⟩, g6⟩ := h5
  simp [Cond.before, Cond.holds, Cond.value, h1, h2, h3, h4, g1, g2, g3, g4, g5, g6]
def isCode : Jvm.Cond → Bool
  | .code _ _ _ _ => true
  | _ => false
theorem all_split {L : List Jvm.Cond} {P : Jvm.Cond → Bool} (h1 : L.all (fun c => isCode c || P c) = true) (h2 : ∀ c ∈ L.filter isCode, P c = true) : L.all P = true := by
  refine List.all_eq_true.mpr fun c hc => ?_
  have h := List.all_eq_true.mp h1 c hc
  rcases Bool.eq_false_or_eq_true (isCode c) with hi | hi
  · exact h2 c (List.mem_filter.mpr ⟨hc, hi⟩)
  · simpa [hi] using h
set_option maxRecDepth 65536 in
theorem w_c0 : (Jvm.Cond.code x code maxLocals ret).before args0 about1 = true := code_word (m := ⟨1, 3⟩) (meth := k1m3) (c := k1c3) (by decide +kernel) rfl rfl rfl (by decide +kernel)
set_option maxRecDepth 65536 in
theorem w_c1 : (Jvm.Cond.code ({ cls := "com/example/edictum/edictum/io/XpathTokensNamesNextPinLaw", name := "kindOf", desc := "(I)Lcom/example/edictum/edictum/io/XpathTokens$Kind;" } : Jvm.MethodName) method_2_code (1 : Nat) (Option.some (Jvm.ClassFile.FieldType.object "com/example/edictum/edictum/io/XpathTokens$Kind"))).before args0 about1 = true := code_word (m := ⟨1, 1⟩) (meth := k1m1) (c := k1c1) (by decide +kernel) rfl rfl rfl (by decide +kernel)
set_option maxRecDepth 65536 in
theorem w_c2 : (Jvm.Cond.code ({ cls := "com/example/edictum/edictum/io/XpathTokensNamesNextPinLaw", name := "endsOperand", desc := "(Lcom/example/edictum/edictum/io/XpathTokens$Kind;)Z" } : Jvm.MethodName) method_3_code (1 : Nat) (Option.some Jvm.ClassFile.FieldType.boolean)).before args0 about1 = true := code_word (m := ⟨1, 2⟩) (meth := k1m2) (c := k1c2) (by decide +kernel) rfl rfl rfl (by decide +kernel)
set_option maxRecDepth 65536 in
theorem w_c3 : (Jvm.Cond.code ({ cls := "com/example/edictum/edictum/io/XpathTokens$Kind", name := "namesNext", desc := "()Z" } : Jvm.MethodName) prog_251_method_4_code (1 : Nat) (Option.some Jvm.ClassFile.FieldType.boolean)).before args0 about1 = true := code_word (m := ⟨6, 0⟩) (meth := k6m0) (c := k6c0) (by decide +kernel) rfl rfl rfl (by decide +kernel)
def codes1 : List Jvm.Cond := [Jvm.Cond.code x code maxLocals ret, Jvm.Cond.code ({ cls := "com/example/edictum/edictum/io/XpathTokensNamesNextPinLaw", name := "kindOf", desc := "(I)Lcom/example/edictum/edictum/io/XpathTokens$Kind;" } : Jvm.MethodName) method_2_code (1 : Nat) (Option.some (Jvm.ClassFile.FieldType.object "com/example/edictum/edictum/io/XpathTokens$Kind")), Jvm.Cond.code ({ cls := "com/example/edictum/edictum/io/XpathTokensNamesNextPinLaw", name := "endsOperand", desc := "(Lcom/example/edictum/edictum/io/XpathTokens$Kind;)Z" } : Jvm.MethodName) method_3_code (1 : Nat) (Option.some Jvm.ClassFile.FieldType.boolean), Jvm.Cond.code ({ cls := "com/example/edictum/edictum/io/XpathTokens$Kind", name := "namesNext", desc := "()Z" } : Jvm.MethodName) prog_251_method_4_code (1 : Nat) (Option.some Jvm.ClassFile.FieldType.boolean)]
set_option maxRecDepth 65536 in
theorem codes_eq : words1.filter isCode = codes1 := rfl
theorem w_codes : ∀ c ∈ words1.filter isCode, c.before args0 about1 = true := by
  rw [codes_eq]
  intro c hc
  simp only [codes1, List.mem_cons, List.not_mem_nil, or_false] at hc
  rcases hc with rfl | rfl | rfl | rfl
  · exact w_c0
  · exact w_c1
  · exact w_c2
  · exact w_c3
set_option maxRecDepth 65536 in
theorem w_t1 : (words1.take 24).all (fun c => isCode c || c.before args0 about1) = true := by decide +kernel
set_option maxRecDepth 65536 in
theorem w_t2 : ((words1.drop 24).take 24).all (fun c => isCode c || c.before args0 about1) = true := by decide +kernel
set_option maxRecDepth 65536 in
theorem w_t3 : ((words1.drop 24).drop 24).all (fun c => isCode c || c.before args0 about1) = true := by decide +kernel
theorem w_tables : (allAtoms (Jvm.Cond.code x code maxLocals ret :: tables_1)).before args0 about1 = true := by
  rw [allAtoms_all]
  show words1.all (fun c => c.before args0 about1) = true
  refine all_split ?_ w_codes
  rw [← List.take_append_drop 24 words1, List.all_append, w_t1, ← List.take_append_drop 24 (words1.drop 24), List.all_append, w_t2, w_t3]
  rfl
set_option maxRecDepth 65536 in
theorem w_case : (Jvm.Cond.and given_1 narrow_1).before args0 about1 = true := by decide +kernel
theorem w_applies : (headSpec (Jvm.Cond.code x code maxLocals ret :: tables_1) room_1).applies x e0.platform about1 = true :=
  (Spec.applies_iff w_frames).mpr ⟨w_running, w_runnable, w_alone, w_named, w_hears, w_ripe, w_room, w_tables⟩
theorem atStart : AtStart classFile x code maxLocals ret World_1 tables_1 room_1 Calls_1 rest_1 Pre_1 launch0 p0 e0 about1 theMethod args0 below0 :=
  ⟨lists_1, trivial, launch0.admits_env _ _ _, launch0.least_env, fairChoices_fair.cas, fairChoices_fair.clock, w_frames, w_args, w_heap, w_applies, trivial, trivial, w_case⟩
end start1
theorem witness_1 : WitnessClaimed_1 := ⟨start1.p0, start1.e0, start1.about1, start1.theMethod, start1.args0, start1.below0, start1.atStart⟩
end Jvm.Pilot.@@N@@
