import JvmDerived
import JvmDerived.Pilot.@@N@@Statement
import JvmDerived.Pilot.@@N@@Code
set_option linter.unusedVariables false
set_option linter.unusedSimpArgs false
namespace Jvm.RoadKit
open Sem ClassFile Op Lib Jvm.Stand Jvm.Free Jvm.LawKit
section New
variable {p : Program} {l : Launch} {e : Env} {R : Room} {s : State} {m : MethodId} {args : Array Value} {below : List Frame} {meth : Method} {c : Code} {T : State} {locs : List Loc} {cells slots : Nat}
theorem retI (X : Stand p l e R s m args below meth c T locs cells slots) (hx : p.tables.exec = Jvm.exec) {pc : Nat} {Ls : Array Slot} {z : Int32} {rest : List Value} (hret : meth.sig.returnType = some .int) (hd : decode c.code pc = .ok (.ireturn, 1)) {fs : List Frame}
    (hl : ∀ (f : JFrame) (acts : List Action), f.method = m → f.locked = none → f.entered = [] → (doReturn e (T.setTop f) acts (some (.int z))).1 = T.setFrames fs) : Steps p.tables e below (T.setTop (mkF m pc Ls (.int z :: rest))) (T.setFrames fs) := by
  have hm' : T.vm.method? m = some meth := X.method'
  have hn : narrow .int (.int z) = .int z := rfl
  show Steps p.tables e below (T.setTop { method := m, pc := pc, locals := Ls, stack := _ :: rest, locked := none }) _
  jvm_step X.here [X.here.top, hx, hd, hm', hret, hn]
  first | (intro acts; rw [hl _ acts rfl rfl rfl]) | rw [hl _ _ rfl rfl rfl]
  exact Steps.refl _
theorem own_retR (X : Stand p l e R s m args below meth c T locs cells slots) (hx : p.tables.exec = Jvm.exec) {pc : Nat} {Ls : Array Slot} {w : Value} {t : FieldType} {rest : List Value} (hret : meth.sig.returnType = some t) (ht : t.isReference = true) (hw : w.isRef = true) (hd : decode c.code pc = .ok (.areturn, 1)) {fs : List Frame}
    (hl : ∀ (f : JFrame) (acts : List Action), f.method = m → f.locked = none → f.entered = [] → (doReturn e (T.setTop f) acts (some w)).1 = T.setFrames fs) : Steps p.tables e below (T.setTop (mkF m pc Ls (w :: rest))) (T.setFrames fs) :=
  retOut X hx hret (by rcases ref_cases hw with rfl | ⟨z, rfl⟩ <;> cases t <;> first | rfl | (cases ht; done)) (Or.inr (Or.inr (Or.inr (Or.inr ⟨rfl, ht, hw⟩)))) hd hl
theorem own_retJ (X : Stand p l e R s m args below meth c T locs cells slots) (hx : p.tables.exec = Jvm.exec) {pc : Nat} {Ls : Array Slot} {z : Int64} {rest : List Value} (hret : meth.sig.returnType = some .long) (hd : decode c.code pc = .ok (.lreturn, 1)) {fs : List Frame}
    (hl : ∀ (f : JFrame) (acts : List Action), f.method = m → f.locked = none → f.entered = [] → (doReturn e (T.setTop f) acts (some (.long z))).1 = T.setFrames fs) : Steps p.tables e below (T.setTop (mkF m pc Ls (.long z :: rest))) (T.setFrames fs) :=
  retOut X hx hret rfl (Or.inr (Or.inl ⟨rfl, rfl, z, rfl⟩)) hd hl
end New
theorem own_eqv {args : Array Value} {first s : State} {o : Option Outcome} {idx : List Nat} {a b : Term} {v : Value} (h : (Jvm.Cond.eq a b).value args first o s idx = some true) (hb : b.eval args first o idx s = some v) (hk : (match v with | .int _ => true | .ref _ => true | .long _ => true | _ => false) = true := by rfl) : a.eval args first o idx s = some v := by
  simp only [Cond.value, hb] at h
  cases ha : a.eval args first o idx s with
  | none => simp [ha] at h
  | some x => cases x <;> cases v <;> simp_all
theorem own_selP {Z s : State} {a0 args : Array Value} {y : MethodName} {n : Nat} (hZ : Z.Warmed39 s.vm) (wi : (Cond.instantiable y.cls n).before a0 Z = true) (wp : (Cond.privateMethod y).before a0 Z = true) (wm : (Cond.instanceMethod y).before a0 Z = true) (hy : y.cls ≠ "java/lang/invoke/MethodHandle" ∧ y.cls ≠ "java/lang/invoke/VarHandle") : (Cond.selects y.cls y y).before args s = true := by
  have wi' : (Cond.instantiable y.cls n).before args s = true := mvT hZ wi
  have wm' : (Cond.instanceMethod y).before args s = true := mvT hZ wm
  obtain ⟨c, k, h1, h2, -, h4, -⟩ := Cond.instantiable_spec wi'
  simp only [Bool.or_eq_false_iff] at h4
  exact selects_self_of_private h1 h2 h4.1 (Cond.privateMethod_at (mvP hZ wp (args := #[]))) wm' hy
theorem own_selQ {Z s : State} {a0 args : Array Value} {y : MethodName} {y' : MethodName} {n' d' : String} (hZ : Z.Warmed39 s.vm) (wi : (Cond.selects y.cls y' ⟨y.cls, n', d'⟩).before a0 Z = true) (wp : (Cond.privateMethod y).before a0 Z = true) (wm : (Cond.instanceMethod y).before a0 Z = true) (hy : y.cls ≠ "java/lang/invoke/MethodHandle" ∧ y.cls ≠ "java/lang/invoke/VarHandle") : (Cond.selects y.cls y y).before args s = true := by
  have wi' : (Cond.selects y.cls y' ⟨y.cls, n', d'⟩).before args s = true := mvT hZ wi
  have wm' : (Cond.instanceMethod y).before args s = true := mvT hZ wm
  obtain ⟨c2, r2, m2, -, -, q3, -, kP, hkP, hkPi⟩ := Cond.selects_spec wi'
  have hc := findClass_of_methodNamed q3
  exact selects_self_of_private (c := m2.cls) hc hkP hkPi (Cond.privateMethod_at (mvP hZ wp (args := #[]))) wm' hy
theorem own_len {args : Array Value} {s : State} {t : Term} {a : Addr} {cl : Cell} {ty : FieldType} {z : Int32} (ht : t.eval args s none [] s = some (.ref a)) (A : Arr s s.heap a cl ty) (h : (Term.length t).eval args s none [] s = some (.int z)) : cl.slots.size < 2 ^ 31 ∧ cl.slots.size.toInt32 = z := by
  have e := A.fin (Vm.Alike.refl _)
  simp only [Term.eval, ht, e, Option.bind_eq_bind, Option.bind_some] at h
  split at h <;> simp_all
end Jvm.RoadKit
namespace Jvm.Pilot.@@N@@
open Jvm Jvm.ClassFile Sem Op Lib Jvm.Free Jvm.Stand Jvm.LawKit Jvm.RoadKit Bundle Jvm.Pilot.@@N@@.Jvm.D
theorem tw {Z : State} {a0 : Array Value} (hw : ∀ d ∈ tables_1, d.before a0 Z = true) (i : Nat) {d : Jvm.Cond} (h : tables_1[i]? = some d) : d.before a0 Z = true := hw d (List.mem_of_getElem? h)
abbrev MF (l : Launch) (Z : State) (y : MethodName) (cd : Jvm.Cond) (ws : List Jvm.Cond) (rm : Room) (A : Array Value) (h0 : Heap) (Q : Option Value → Heap → List Loc → Prop) : Prop := MetFree l y (head1 (cd :: ws) rm) (fun a U => a = A ∧ Z.Warmed39 U.vm ∧ U.heap = h0) (fun _ _ _ _ _ => True) (fun _ U o U' => ∃ v L, o = .returned v ∧ Q v U'.heap L ∧ FrameEnd U o U' L rm.cells rm.slots)
def Fin (p : Program) (e : Env) (below : List Frame) (s : State) (n0 : Nat) (S0 : State) : Prop := ∃ s₂ o, Steps p.tables e below S0 s₂ ∧ s₂.status = .running ∧ Ended s₂ below o ∧ ∃ v L, o = .returned v ∧ (v = some (.int (1 : Int32)) ∧ Fr n0 L) ∧ FrameEnd s o s₂ L room_1.cells room_1.slots
theorem Fin.pre {p : Program} {e : Env} {below : List Frame} {s S0 S1 : State} {n0 : Nat} (k : ∀ t, Steps p.tables e below S1 t → Steps p.tables e below S0 t) (h : Fin p e below s n0 S1) : Fin p e below s n0 S0 := by
  obtain ⟨u, o, h1, h2⟩ := h; exact ⟨u, o, k _ h1, h2⟩
abbrev SF (p : Program) (e : Env) (below : List Frame) (T : State) (g : JFrame) (t : State) : Prop := Steps p.tables e below (T.setTop g) t
abbrev HW (Z : State) (a0 : Array Value) : Prop := ∀ d ∈ tables_1, d.before a0 Z = true
theorem own_mod18 (a : Int32) : ((a &&& (2147483647 : Int32)) % (18 : Int32)) = (0 : Int32) ∨ ((a &&& (2147483647 : Int32)) % (18 : Int32)) = (1 : Int32) ∨ ((a &&& (2147483647 : Int32)) % (18 : Int32)) = (2 : Int32) ∨ ((a &&& (2147483647 : Int32)) % (18 : Int32)) = (3 : Int32) ∨ ((a &&& (2147483647 : Int32)) % (18 : Int32)) = (4 : Int32) ∨ ((a &&& (2147483647 : Int32)) % (18 : Int32)) = (5 : Int32) ∨ ((a &&& (2147483647 : Int32)) % (18 : Int32)) = (6 : Int32) ∨ ((a &&& (2147483647 : Int32)) % (18 : Int32)) = (7 : Int32) ∨ ((a &&& (2147483647 : Int32)) % (18 : Int32)) = (8 : Int32) ∨ ((a &&& (2147483647 : Int32)) % (18 : Int32)) = (9 : Int32) ∨ ((a &&& (2147483647 : Int32)) % (18 : Int32)) = (10 : Int32) ∨ ((a &&& (2147483647 : Int32)) % (18 : Int32)) = (11 : Int32) ∨ ((a &&& (2147483647 : Int32)) % (18 : Int32)) = (12 : Int32) ∨ ((a &&& (2147483647 : Int32)) % (18 : Int32)) = (13 : Int32) ∨ ((a &&& (2147483647 : Int32)) % (18 : Int32)) = (14 : Int32) ∨ ((a &&& (2147483647 : Int32)) % (18 : Int32)) = (15 : Int32) ∨ ((a &&& (2147483647 : Int32)) % (18 : Int32)) = (16 : Int32) ∨ ((a &&& (2147483647 : Int32)) % (18 : Int32)) = (17 : Int32) := by
  have h1 := (c_and a (2147483647 : Int32)) (by decide)
  have h2 := (c_iremV (a &&& (2147483647 : Int32)) (18 : Int32)).1 h1.1 (by decide)
  have e : (18 : Int32).toInt = 18 := rfl
  rw [e] at h2
  simp only [← Int32.toInt_inj]
  show _ = (0 : Int) ∨ _ = (1 : Int) ∨ _ = (2 : Int) ∨ _ = (3 : Int) ∨ _ = (4 : Int) ∨ _ = (5 : Int) ∨ _ = (6 : Int) ∨ _ = (7 : Int) ∨ _ = (8 : Int) ∨ _ = (9 : Int) ∨ _ = (10 : Int) ∨ _ = (11 : Int) ∨ _ = (12 : Int) ∨ _ = (13 : Int) ∨ _ = (14 : Int) ∨ _ = (15 : Int) ∨ _ = (16 : Int) ∨ _ = (17 : Int)
  omega
theorem d1_0 : decode prog_252_method_5_code 0 = .ok (.aload_n 0, 1) := by decide +kernel
theorem d1_1 : decode prog_252_method_5_code 1 = .ok (.getstatic 3, 3) := by decide +kernel
theorem d1_4 : decode prog_252_method_5_code 4 = .ok (.if_acmp .eq 38, 3) := by decide +kernel
theorem d1_42 : decode prog_252_method_5_code 42 = .ok (.iconst 1, 1) := by decide +kernel
theorem d1_43 : decode prog_252_method_5_code 43 = .ok (.goto 4, 3) := by decide +kernel
theorem d1_47 : decode prog_252_method_5_code 47 = .ok (.ireturn, 1) := by decide +kernel
theorem pn_0 : plainName "com/example/edictum/edictum/io/XpathTokens$Kind" = true := by first | (simp [plainName, overriddenIn]; done) | decide +kernel
theorem ef_0 (m : MethodId) (x0 : Addr) : entryFrame m #[(.ref x0)] 1 = mkF m 0 #[.val (.ref x0)] [] := by first | (simp [entryFrame, mkF, argsToLocals, Value.category]; done) | rfl
-- XpathTokens$Kind.beginsStep 
def Q1_1 (Z : State) (w1 : Addr) (h0 : Heap) (n0 : Nat) (v : Option Value) (h : Heap) (L : List Loc) : Prop := v = some (.int 1) ∧ Fr n0 L ∧ h = h0
set_option maxRecDepth 65536 in
set_option maxHeartbeats 40000000 in
theorem rm1_1 (l : Launch) (Z : State) (a0 : Array Value) (hw : HW Z a0) (ws : List Jvm.Cond) (w1 : Addr) (h0 : Heap) (n0 : Nat) (Z0 : n0 ≤ h0.size) (Sg0 : Sta Z Z.heap "com/example/edictum/edictum/io/XpathTokens$Kind" "AT" "Lcom/example/edictum/edictum/io/XpathTokens$Kind;" (.ref w1)) (P2 : Old Z n0 h0) :
    MF l Z (⟨"com/example/edictum/edictum/io/XpathTokens$Kind", "beginsStep", "()Z"⟩ : MethodName) (Jvm.Cond.code (⟨"com/example/edictum/edictum/io/XpathTokens$Kind", "beginsStep", "()Z"⟩ : MethodName) prog_252_method_5_code 1 (some .boolean)) ws ({ frames := 0, cells := 0, slots := 0, locals := 0 } : Room) #[(.ref w1)] h0 (Q1_1 Z w1 h0 n0) := by
  refine MetFree.of_bodySF (plainFor_of_name pn_0) hisR ?_
  intro p e s m args below meth c s₁ Bd hml0 hP hK
  obtain ⟨rfl, hZ, hh⟩ := hP
  have hx := Bd.exec
  have hby := Bd.bytes
  have hml : c.maxLocals = 1 := hml0
  have hown : s.vm.findClass "com/example/edictum/edictum/io/XpathTokens$Kind" = some m.cls := findClass_of_methodNamed Bd.named
  have hnm := (name_of_methodNamed Bd.named Bd.method).1
  have X0 : Stand p l e ({ frames := 0, cells := 0, slots := 0, locals := 0 } : Room) s m #[(.ref w1)] below meth c s₁ [] 0 0 := Stand.of_body Bd
  have e0 : s₁.heap = h0 := by rw [← hh, Bd.state]; rfl
  have N0 := Fr.nil n0
  have pre0 : ∀ t, SF p e below s₁ (mkF m 0 #[rv w1] []) t → SF p e below s₁ (entryFrame m #[(.ref w1)] 1) t := fun t k => castTop (ef_0 m w1) k
  obtain ⟨T1, X1, e1, st1⟩ := getS2 X0 hx hZ hown (host := "") (Or.inl (tw hw 47 rfl)) Via.refl e0 (Sg0.ext P2.2) (g := (mkF m 1 #[rv w1] [(.ref w1)])) rfl (hb hby d1_1)
  obtain ⟨fs, hr, hrun, hended, hW, hsame⟩ := X1.leave (v := some (.int 1)) (fun h => by rw [Bd.returns] at h; cases h)
  refine ⟨_, _, pre0 _ ?_, hrun, hended, _, _, rfl, ?_, ⟨_, rfl⟩, hW, hsame.mono (by decide) (by decide)⟩
  · show SF p e below s₁ (mkF m 0 #[rv w1] []) _
    refine XS.aloadN X0.here hx rfl (hb hby d1_0) rfl rfl ?_
    show SF p e below s₁ (mkF m 1 #[rv w1] [(.ref w1)]) _
    refine st1 _ ?_
    show SF p e below T1 (mkF m 4 #[rv w1] [(.ref w1), (.ref w1)]) _
    refine Jvm.RoadKit.acmp (g := (mkF m 4 #[rv w1] [(.ref w1), (.ref w1)])) X1 hx rfl rfl rfl (pc0 := 4) (pc' := 42) (same := true) rfl (hb hby d1_4) rfl (decide_eq_true rfl) (by decide) (by decide) ?_
    show SF p e below T1 (mkF m 42 #[rv w1] []) _
    refine XS.iconst X1.here hx rfl (hb hby d1_42) ?_
    show SF p e below T1 (mkF m 43 #[rv w1] [(.int 1)]) _
    refine XS.goto X1.here hx rfl (pc0 := 43) (pc' := 47) rfl (hb hby d1_43) (by decide) (by decide) ?_
    show SF p e below T1 (mkF m 47 #[rv w1] [(.int 1)]) _
    exact retN X1 hx (t := .boolean) Bd.returns (by simp) (hb hby d1_47) hr
  · show Q1_1 Z w1 h0 n0 _ T1.heap _
    rw [e1]
    exact ⟨rfl, N0, rfl⟩
theorem pd_0 : parseMethodDescriptor "()Z" = some ⟨[], some .boolean⟩ := by decide +kernel
theorem d1_7 : decode prog_252_method_5_code 7 = .ok (.aload_n 0, 1) := by decide +kernel
theorem d1_8 : decode prog_252_method_5_code 8 = .ok (.getstatic 34, 3) := by decide +kernel
theorem d1_11 : decode prog_252_method_5_code 11 = .ok (.if_acmp .eq 31, 3) := by decide +kernel
theorem d1_14 : decode prog_252_method_5_code 14 = .ok (.aload_n 0, 1) := by decide +kernel
theorem d1_15 : decode prog_252_method_5_code 15 = .ok (.getstatic 40, 3) := by decide +kernel
theorem d1_18 : decode prog_252_method_5_code 18 = .ok (.if_acmp .eq 24, 3) := by decide +kernel
theorem d1_21 : decode prog_252_method_5_code 21 = .ok (.aload_n 0, 1) := by decide +kernel
theorem d1_22 : decode prog_252_method_5_code 22 = .ok (.getstatic 43, 3) := by decide +kernel
theorem d1_25 : decode prog_252_method_5_code 25 = .ok (.if_acmp .eq 17, 3) := by decide +kernel
theorem d1_28 : decode prog_252_method_5_code 28 = .ok (.aload_n 0, 1) := by decide +kernel
theorem d1_29 : decode prog_252_method_5_code 29 = .ok (.getstatic 46, 3) := by decide +kernel
theorem d1_32 : decode prog_252_method_5_code 32 = .ok (.if_acmp .eq 10, 3) := by decide +kernel
theorem d1_35 : decode prog_252_method_5_code 35 = .ok (.aload_n 0, 1) := by decide +kernel
theorem d1_36 : decode prog_252_method_5_code 36 = .ok (.getstatic 49, 3) := by decide +kernel
theorem d1_39 : decode prog_252_method_5_code 39 = .ok (.if_acmp .ne 7, 3) := by decide +kernel
theorem d1_46 : decode prog_252_method_5_code 46 = .ok (.iconst 0, 1) := by decide +kernel
-- XpathTokens$Kind.beginsStep 
def Q1_2 (Z : State) (w2 : Addr) (w1 : Addr) (w11 : Addr) (w13 : Addr) (w14 : Addr) (w15 : Addr) (w16 : Addr) (h0 : Heap) (n0 : Nat) (v : Option Value) (h : Heap) (L : List Loc) : Prop := v = some (.int 0) ∧ Fr n0 L ∧ h = h0
set_option maxRecDepth 65536 in
set_option maxHeartbeats 40000000 in
theorem rm1_2 (l : Launch) (Z : State) (a0 : Array Value) (hw : HW Z a0) (ws : List Jvm.Cond) (w2 : Addr) (w1 : Addr) (w11 : Addr) (w13 : Addr) (w14 : Addr) (w15 : Addr) (w16 : Addr) (h0 : Heap) (n0 : Nat) (Z0 : n0 ≤ h0.size) (Sg0 : Sta Z Z.heap "com/example/edictum/edictum/io/XpathTokens$Kind" "AT" "Lcom/example/edictum/edictum/io/XpathTokens$Kind;" (.ref w1)) (P2 : Old Z n0 h0) (F_w2_ordinal : Fld Z Z.heap w2 "java/lang/Enum" "ordinal" "I" (.int 1)) (F_w1_ordinal : Fld Z Z.heap w1 "java/lang/Enum" "ordinal" "I" (.int 0)) (Sg20 : Sta Z Z.heap "com/example/edictum/edictum/io/XpathTokens$Kind" "AXIS" "Lcom/example/edictum/edictum/io/XpathTokens$Kind;" (.ref w11)) (F_w11_ordinal : Fld Z Z.heap w11 "java/lang/Enum" "ordinal" "I" (.int 10)) (Sg24 : Sta Z Z.heap "com/example/edictum/edictum/io/XpathTokens$Kind" "NODE_TYPE" "Lcom/example/edictum/edictum/io/XpathTokens$Kind;" (.ref w13)) (F_w13_ordinal : Fld Z Z.heap w13 "java/lang/Enum" "ordinal" "I" (.int 12)) (Sg26 : Sta Z Z.heap "com/example/edictum/edictum/io/XpathTokens$Kind" "NAME_TEST" "Lcom/example/edictum/edictum/io/XpathTokens$Kind;" (.ref w14)) (F_w14_ordinal : Fld Z Z.heap w14 "java/lang/Enum" "ordinal" "I" (.int 13)) (Sg28 : Sta Z Z.heap "com/example/edictum/edictum/io/XpathTokens$Kind" "DOT" "Lcom/example/edictum/edictum/io/XpathTokens$Kind;" (.ref w15)) (F_w15_ordinal : Fld Z Z.heap w15 "java/lang/Enum" "ordinal" "I" (.int 14)) (Sg30 : Sta Z Z.heap "com/example/edictum/edictum/io/XpathTokens$Kind" "DOT_DOT" "Lcom/example/edictum/edictum/io/XpathTokens$Kind;" (.ref w16)) (F_w16_ordinal : Fld Z Z.heap w16 "java/lang/Enum" "ordinal" "I" (.int 15)) :
    MF l Z (⟨"com/example/edictum/edictum/io/XpathTokens$Kind", "beginsStep", "()Z"⟩ : MethodName) (Jvm.Cond.code (⟨"com/example/edictum/edictum/io/XpathTokens$Kind", "beginsStep", "()Z"⟩ : MethodName) prog_252_method_5_code 1 (some .boolean)) ws ({ frames := 0, cells := 0, slots := 0, locals := 0 } : Room) #[(.ref w2)] h0 (Q1_2 Z w2 w1 w11 w13 w14 w15 w16 h0 n0) := by
  refine MetFree.of_bodySF (plainFor_of_name pn_0) hisR ?_
  intro p e s m args below meth c s₁ Bd hml0 hP hK
  obtain ⟨rfl, hZ, hh⟩ := hP
  have hx := Bd.exec
  have hby := Bd.bytes
  have hml : c.maxLocals = 1 := hml0
  have hown : s.vm.findClass "com/example/edictum/edictum/io/XpathTokens$Kind" = some m.cls := findClass_of_methodNamed Bd.named
  have hnm := (name_of_methodNamed Bd.named Bd.method).1
  have X0 : Stand p l e ({ frames := 0, cells := 0, slots := 0, locals := 0 } : Room) s m #[(.ref w2)] below meth c s₁ [] 0 0 := Stand.of_body Bd
  have e0 : s₁.heap = h0 := by rw [← hh, Bd.state]; rfl
  have N0 := Fr.nil n0
  have pre0 : ∀ t, SF p e below s₁ (mkF m 0 #[rv w2] []) t → SF p e below s₁ (entryFrame m #[(.ref w2)] 1) t := fun t k => castTop (ef_0 m w2) k
  obtain ⟨T1, X1, e1, st1⟩ := getS2 X0 hx hZ hown (host := "") (Or.inl (tw hw 47 rfl)) Via.refl e0 (Sg0.ext P2.2) (g := (mkF m 1 #[rv w2] [(.ref w2)])) rfl (hb hby d1_1)
  obtain ⟨T2, X2, e2, st2⟩ := getS2 X1 hx hZ hown (host := "") (Or.inl (tw hw 48 rfl)) Via.refl e1 (Sg20.ext P2.2) (g := (mkF m 8 #[rv w2] [(.ref w2)])) rfl (hb hby d1_8)
  obtain ⟨T3, X3, e3, st3⟩ := getS2 X2 hx hZ hown (host := "") (Or.inl (tw hw 49 rfl)) Via.refl e2 (Sg24.ext P2.2) (g := (mkF m 15 #[rv w2] [(.ref w2)])) rfl (hb hby d1_15)
  obtain ⟨T4, X4, e4, st4⟩ := getS2 X3 hx hZ hown (host := "") (Or.inl (tw hw 50 rfl)) Via.refl e3 (Sg26.ext P2.2) (g := (mkF m 22 #[rv w2] [(.ref w2)])) rfl (hb hby d1_22)
  obtain ⟨T5, X5, e5, st5⟩ := getS2 X4 hx hZ hown (host := "") (Or.inl (tw hw 51 rfl)) Via.refl e4 (Sg28.ext P2.2) (g := (mkF m 29 #[rv w2] [(.ref w2)])) rfl (hb hby d1_29)
  obtain ⟨T6, X6, e6, st6⟩ := getS2 X5 hx hZ hown (host := "") (Or.inl (tw hw 52 rfl)) Via.refl e5 (Sg30.ext P2.2) (g := (mkF m 36 #[rv w2] [(.ref w2)])) rfl (hb hby d1_36)
  obtain ⟨fs, hr, hrun, hended, hW, hsame⟩ := X6.leave (v := some (.int 0)) (fun h => by rw [Bd.returns] at h; cases h)
  refine ⟨_, _, pre0 _ ?_, hrun, hended, _, _, rfl, ?_, ⟨_, rfl⟩, hW, hsame.mono (by decide) (by decide)⟩
  · show SF p e below s₁ (mkF m 0 #[rv w2] []) _
    refine XS.aloadN X0.here hx rfl (hb hby d1_0) rfl rfl ?_
    show SF p e below s₁ (mkF m 1 #[rv w2] [(.ref w2)]) _
    refine st1 _ ?_
    show SF p e below T1 (mkF m 4 #[rv w2] [(.ref w1), (.ref w2)]) _
    refine Jvm.RoadKit.acmp (g := (mkF m 4 #[rv w2] [(.ref w1), (.ref w2)])) X1 hx rfl rfl rfl (pc0 := 4) (pc' := 7) (same := false) rfl (hb hby d1_4) rfl (decide_eq_false fun q => (Fld.ne F_w2_ordinal F_w1_ordinal (by decide)) (Value.ref.inj q)) (by decide) (by decide) ?_
    show SF p e below T1 (mkF m 7 #[rv w2] []) _
    refine XS.aloadN X1.here hx rfl (hb hby d1_7) rfl rfl ?_
    show SF p e below T1 (mkF m 8 #[rv w2] [(.ref w2)]) _
    refine st2 _ ?_
    show SF p e below T2 (mkF m 11 #[rv w2] [(.ref w11), (.ref w2)]) _
    refine Jvm.RoadKit.acmp (g := (mkF m 11 #[rv w2] [(.ref w11), (.ref w2)])) X2 hx rfl rfl rfl (pc0 := 11) (pc' := 14) (same := false) rfl (hb hby d1_11) rfl (decide_eq_false fun q => (Fld.ne F_w2_ordinal F_w11_ordinal (by decide)) (Value.ref.inj q)) (by decide) (by decide) ?_
    show SF p e below T2 (mkF m 14 #[rv w2] []) _
    refine XS.aloadN X2.here hx rfl (hb hby d1_14) rfl rfl ?_
    show SF p e below T2 (mkF m 15 #[rv w2] [(.ref w2)]) _
    refine st3 _ ?_
    show SF p e below T3 (mkF m 18 #[rv w2] [(.ref w13), (.ref w2)]) _
    refine Jvm.RoadKit.acmp (g := (mkF m 18 #[rv w2] [(.ref w13), (.ref w2)])) X3 hx rfl rfl rfl (pc0 := 18) (pc' := 21) (same := false) rfl (hb hby d1_18) rfl (decide_eq_false fun q => (Fld.ne F_w2_ordinal F_w13_ordinal (by decide)) (Value.ref.inj q)) (by decide) (by decide) ?_
    show SF p e below T3 (mkF m 21 #[rv w2] []) _
    refine XS.aloadN X3.here hx rfl (hb hby d1_21) rfl rfl ?_
    show SF p e below T3 (mkF m 22 #[rv w2] [(.ref w2)]) _
    refine st4 _ ?_
    show SF p e below T4 (mkF m 25 #[rv w2] [(.ref w14), (.ref w2)]) _
    refine Jvm.RoadKit.acmp (g := (mkF m 25 #[rv w2] [(.ref w14), (.ref w2)])) X4 hx rfl rfl rfl (pc0 := 25) (pc' := 28) (same := false) rfl (hb hby d1_25) rfl (decide_eq_false fun q => (Fld.ne F_w2_ordinal F_w14_ordinal (by decide)) (Value.ref.inj q)) (by decide) (by decide) ?_
    show SF p e below T4 (mkF m 28 #[rv w2] []) _
    refine XS.aloadN X4.here hx rfl (hb hby d1_28) rfl rfl ?_
    show SF p e below T4 (mkF m 29 #[rv w2] [(.ref w2)]) _
    refine st5 _ ?_
    show SF p e below T5 (mkF m 32 #[rv w2] [(.ref w15), (.ref w2)]) _
    refine Jvm.RoadKit.acmp (g := (mkF m 32 #[rv w2] [(.ref w15), (.ref w2)])) X5 hx rfl rfl rfl (pc0 := 32) (pc' := 35) (same := false) rfl (hb hby d1_32) rfl (decide_eq_false fun q => (Fld.ne F_w2_ordinal F_w15_ordinal (by decide)) (Value.ref.inj q)) (by decide) (by decide) ?_
    show SF p e below T5 (mkF m 35 #[rv w2] []) _
    refine XS.aloadN X5.here hx rfl (hb hby d1_35) rfl rfl ?_
    show SF p e below T5 (mkF m 36 #[rv w2] [(.ref w2)]) _
    refine st6 _ ?_
    show SF p e below T6 (mkF m 39 #[rv w2] [(.ref w16), (.ref w2)]) _
    refine Jvm.RoadKit.acmp (g := (mkF m 39 #[rv w2] [(.ref w16), (.ref w2)])) X6 hx rfl rfl rfl (pc0 := 39) (pc' := 46) (same := false) rfl (hb hby d1_39) rfl (decide_eq_false fun q => (Fld.ne F_w2_ordinal F_w16_ordinal (by decide)) (Value.ref.inj q)) (by decide) (by decide) ?_
    show SF p e below T6 (mkF m 46 #[rv w2] []) _
    refine XS.iconst X6.here hx rfl (hb hby d1_46) ?_
    show SF p e below T6 (mkF m 47 #[rv w2] [(.int 0)]) _
    exact retN X6 hx (t := .boolean) Bd.returns (by simp) (hb hby d1_47) hr
  · show Q1_2 Z w2 w1 w11 w13 w14 w15 w16 h0 n0 _ T6.heap _
    rw [e6]
    exact ⟨rfl, N0, rfl⟩
-- XpathTokens$Kind.beginsStep 
def Q1_3 (Z : State) (w3 : Addr) (w1 : Addr) (w11 : Addr) (w13 : Addr) (w14 : Addr) (w15 : Addr) (w16 : Addr) (h0 : Heap) (n0 : Nat) (v : Option Value) (h : Heap) (L : List Loc) : Prop := v = some (.int 0) ∧ Fr n0 L ∧ h = h0
set_option maxRecDepth 65536 in
set_option maxHeartbeats 40000000 in
theorem rm1_3 (l : Launch) (Z : State) (a0 : Array Value) (hw : HW Z a0) (ws : List Jvm.Cond) (w3 : Addr) (w1 : Addr) (w11 : Addr) (w13 : Addr) (w14 : Addr) (w15 : Addr) (w16 : Addr) (h0 : Heap) (n0 : Nat) (Z0 : n0 ≤ h0.size) (Sg0 : Sta Z Z.heap "com/example/edictum/edictum/io/XpathTokens$Kind" "AT" "Lcom/example/edictum/edictum/io/XpathTokens$Kind;" (.ref w1)) (P2 : Old Z n0 h0) (F_w3_ordinal : Fld Z Z.heap w3 "java/lang/Enum" "ordinal" "I" (.int 2)) (F_w1_ordinal : Fld Z Z.heap w1 "java/lang/Enum" "ordinal" "I" (.int 0)) (Sg20 : Sta Z Z.heap "com/example/edictum/edictum/io/XpathTokens$Kind" "AXIS" "Lcom/example/edictum/edictum/io/XpathTokens$Kind;" (.ref w11)) (F_w11_ordinal : Fld Z Z.heap w11 "java/lang/Enum" "ordinal" "I" (.int 10)) (Sg24 : Sta Z Z.heap "com/example/edictum/edictum/io/XpathTokens$Kind" "NODE_TYPE" "Lcom/example/edictum/edictum/io/XpathTokens$Kind;" (.ref w13)) (F_w13_ordinal : Fld Z Z.heap w13 "java/lang/Enum" "ordinal" "I" (.int 12)) (Sg26 : Sta Z Z.heap "com/example/edictum/edictum/io/XpathTokens$Kind" "NAME_TEST" "Lcom/example/edictum/edictum/io/XpathTokens$Kind;" (.ref w14)) (F_w14_ordinal : Fld Z Z.heap w14 "java/lang/Enum" "ordinal" "I" (.int 13)) (Sg28 : Sta Z Z.heap "com/example/edictum/edictum/io/XpathTokens$Kind" "DOT" "Lcom/example/edictum/edictum/io/XpathTokens$Kind;" (.ref w15)) (F_w15_ordinal : Fld Z Z.heap w15 "java/lang/Enum" "ordinal" "I" (.int 14)) (Sg30 : Sta Z Z.heap "com/example/edictum/edictum/io/XpathTokens$Kind" "DOT_DOT" "Lcom/example/edictum/edictum/io/XpathTokens$Kind;" (.ref w16)) (F_w16_ordinal : Fld Z Z.heap w16 "java/lang/Enum" "ordinal" "I" (.int 15)) :
    MF l Z (⟨"com/example/edictum/edictum/io/XpathTokens$Kind", "beginsStep", "()Z"⟩ : MethodName) (Jvm.Cond.code (⟨"com/example/edictum/edictum/io/XpathTokens$Kind", "beginsStep", "()Z"⟩ : MethodName) prog_252_method_5_code 1 (some .boolean)) ws ({ frames := 0, cells := 0, slots := 0, locals := 0 } : Room) #[(.ref w3)] h0 (Q1_3 Z w3 w1 w11 w13 w14 w15 w16 h0 n0) := by
  refine MetFree.of_bodySF (plainFor_of_name pn_0) hisR ?_
  intro p e s m args below meth c s₁ Bd hml0 hP hK
  obtain ⟨rfl, hZ, hh⟩ := hP
  have hx := Bd.exec
  have hby := Bd.bytes
  have hml : c.maxLocals = 1 := hml0
  have hown : s.vm.findClass "com/example/edictum/edictum/io/XpathTokens$Kind" = some m.cls := findClass_of_methodNamed Bd.named
  have hnm := (name_of_methodNamed Bd.named Bd.method).1
  have X0 : Stand p l e ({ frames := 0, cells := 0, slots := 0, locals := 0 } : Room) s m #[(.ref w3)] below meth c s₁ [] 0 0 := Stand.of_body Bd
  have e0 : s₁.heap = h0 := by rw [← hh, Bd.state]; rfl
  have N0 := Fr.nil n0
  have pre0 : ∀ t, SF p e below s₁ (mkF m 0 #[rv w3] []) t → SF p e below s₁ (entryFrame m #[(.ref w3)] 1) t := fun t k => castTop (ef_0 m w3) k
  obtain ⟨T1, X1, e1, st1⟩ := getS2 X0 hx hZ hown (host := "") (Or.inl (tw hw 47 rfl)) Via.refl e0 (Sg0.ext P2.2) (g := (mkF m 1 #[rv w3] [(.ref w3)])) rfl (hb hby d1_1)
  obtain ⟨T2, X2, e2, st2⟩ := getS2 X1 hx hZ hown (host := "") (Or.inl (tw hw 48 rfl)) Via.refl e1 (Sg20.ext P2.2) (g := (mkF m 8 #[rv w3] [(.ref w3)])) rfl (hb hby d1_8)
  obtain ⟨T3, X3, e3, st3⟩ := getS2 X2 hx hZ hown (host := "") (Or.inl (tw hw 49 rfl)) Via.refl e2 (Sg24.ext P2.2) (g := (mkF m 15 #[rv w3] [(.ref w3)])) rfl (hb hby d1_15)
  obtain ⟨T4, X4, e4, st4⟩ := getS2 X3 hx hZ hown (host := "") (Or.inl (tw hw 50 rfl)) Via.refl e3 (Sg26.ext P2.2) (g := (mkF m 22 #[rv w3] [(.ref w3)])) rfl (hb hby d1_22)
  obtain ⟨T5, X5, e5, st5⟩ := getS2 X4 hx hZ hown (host := "") (Or.inl (tw hw 51 rfl)) Via.refl e4 (Sg28.ext P2.2) (g := (mkF m 29 #[rv w3] [(.ref w3)])) rfl (hb hby d1_29)
  obtain ⟨T6, X6, e6, st6⟩ := getS2 X5 hx hZ hown (host := "") (Or.inl (tw hw 52 rfl)) Via.refl e5 (Sg30.ext P2.2) (g := (mkF m 36 #[rv w3] [(.ref w3)])) rfl (hb hby d1_36)
  obtain ⟨fs, hr, hrun, hended, hW, hsame⟩ := X6.leave (v := some (.int 0)) (fun h => by rw [Bd.returns] at h; cases h)
  refine ⟨_, _, pre0 _ ?_, hrun, hended, _, _, rfl, ?_, ⟨_, rfl⟩, hW, hsame.mono (by decide) (by decide)⟩
  · show SF p e below s₁ (mkF m 0 #[rv w3] []) _
    refine XS.aloadN X0.here hx rfl (hb hby d1_0) rfl rfl ?_
    show SF p e below s₁ (mkF m 1 #[rv w3] [(.ref w3)]) _
    refine st1 _ ?_
    show SF p e below T1 (mkF m 4 #[rv w3] [(.ref w1), (.ref w3)]) _
    refine Jvm.RoadKit.acmp (g := (mkF m 4 #[rv w3] [(.ref w1), (.ref w3)])) X1 hx rfl rfl rfl (pc0 := 4) (pc' := 7) (same := false) rfl (hb hby d1_4) rfl (decide_eq_false fun q => (Fld.ne F_w3_ordinal F_w1_ordinal (by decide)) (Value.ref.inj q)) (by decide) (by decide) ?_
    show SF p e below T1 (mkF m 7 #[rv w3] []) _
    refine XS.aloadN X1.here hx rfl (hb hby d1_7) rfl rfl ?_
    show SF p e below T1 (mkF m 8 #[rv w3] [(.ref w3)]) _
    refine st2 _ ?_
    show SF p e below T2 (mkF m 11 #[rv w3] [(.ref w11), (.ref w3)]) _
    refine Jvm.RoadKit.acmp (g := (mkF m 11 #[rv w3] [(.ref w11), (.ref w3)])) X2 hx rfl rfl rfl (pc0 := 11) (pc' := 14) (same := false) rfl (hb hby d1_11) rfl (decide_eq_false fun q => (Fld.ne F_w3_ordinal F_w11_ordinal (by decide)) (Value.ref.inj q)) (by decide) (by decide) ?_
    show SF p e below T2 (mkF m 14 #[rv w3] []) _
    refine XS.aloadN X2.here hx rfl (hb hby d1_14) rfl rfl ?_
    show SF p e below T2 (mkF m 15 #[rv w3] [(.ref w3)]) _
    refine st3 _ ?_
    show SF p e below T3 (mkF m 18 #[rv w3] [(.ref w13), (.ref w3)]) _
    refine Jvm.RoadKit.acmp (g := (mkF m 18 #[rv w3] [(.ref w13), (.ref w3)])) X3 hx rfl rfl rfl (pc0 := 18) (pc' := 21) (same := false) rfl (hb hby d1_18) rfl (decide_eq_false fun q => (Fld.ne F_w3_ordinal F_w13_ordinal (by decide)) (Value.ref.inj q)) (by decide) (by decide) ?_
    show SF p e below T3 (mkF m 21 #[rv w3] []) _
    refine XS.aloadN X3.here hx rfl (hb hby d1_21) rfl rfl ?_
    show SF p e below T3 (mkF m 22 #[rv w3] [(.ref w3)]) _
    refine st4 _ ?_
    show SF p e below T4 (mkF m 25 #[rv w3] [(.ref w14), (.ref w3)]) _
    refine Jvm.RoadKit.acmp (g := (mkF m 25 #[rv w3] [(.ref w14), (.ref w3)])) X4 hx rfl rfl rfl (pc0 := 25) (pc' := 28) (same := false) rfl (hb hby d1_25) rfl (decide_eq_false fun q => (Fld.ne F_w3_ordinal F_w14_ordinal (by decide)) (Value.ref.inj q)) (by decide) (by decide) ?_
    show SF p e below T4 (mkF m 28 #[rv w3] []) _
    refine XS.aloadN X4.here hx rfl (hb hby d1_28) rfl rfl ?_
    show SF p e below T4 (mkF m 29 #[rv w3] [(.ref w3)]) _
    refine st5 _ ?_
    show SF p e below T5 (mkF m 32 #[rv w3] [(.ref w15), (.ref w3)]) _
    refine Jvm.RoadKit.acmp (g := (mkF m 32 #[rv w3] [(.ref w15), (.ref w3)])) X5 hx rfl rfl rfl (pc0 := 32) (pc' := 35) (same := false) rfl (hb hby d1_32) rfl (decide_eq_false fun q => (Fld.ne F_w3_ordinal F_w15_ordinal (by decide)) (Value.ref.inj q)) (by decide) (by decide) ?_
    show SF p e below T5 (mkF m 35 #[rv w3] []) _
    refine XS.aloadN X5.here hx rfl (hb hby d1_35) rfl rfl ?_
    show SF p e below T5 (mkF m 36 #[rv w3] [(.ref w3)]) _
    refine st6 _ ?_
    show SF p e below T6 (mkF m 39 #[rv w3] [(.ref w16), (.ref w3)]) _
    refine Jvm.RoadKit.acmp (g := (mkF m 39 #[rv w3] [(.ref w16), (.ref w3)])) X6 hx rfl rfl rfl (pc0 := 39) (pc' := 46) (same := false) rfl (hb hby d1_39) rfl (decide_eq_false fun q => (Fld.ne F_w3_ordinal F_w16_ordinal (by decide)) (Value.ref.inj q)) (by decide) (by decide) ?_
    show SF p e below T6 (mkF m 46 #[rv w3] []) _
    refine XS.iconst X6.here hx rfl (hb hby d1_46) ?_
    show SF p e below T6 (mkF m 47 #[rv w3] [(.int 0)]) _
    exact retN X6 hx (t := .boolean) Bd.returns (by simp) (hb hby d1_47) hr
  · show Q1_3 Z w3 w1 w11 w13 w14 w15 w16 h0 n0 _ T6.heap _
    rw [e6]
    exact ⟨rfl, N0, rfl⟩
-- XpathTokens$Kind.beginsStep 
def Q1_4 (Z : State) (w4 : Addr) (w1 : Addr) (w11 : Addr) (w13 : Addr) (w14 : Addr) (w15 : Addr) (w16 : Addr) (h0 : Heap) (n0 : Nat) (v : Option Value) (h : Heap) (L : List Loc) : Prop := v = some (.int 0) ∧ Fr n0 L ∧ h = h0
set_option maxRecDepth 65536 in
set_option maxHeartbeats 40000000 in
theorem rm1_4 (l : Launch) (Z : State) (a0 : Array Value) (hw : HW Z a0) (ws : List Jvm.Cond) (w4 : Addr) (w1 : Addr) (w11 : Addr) (w13 : Addr) (w14 : Addr) (w15 : Addr) (w16 : Addr) (h0 : Heap) (n0 : Nat) (Z0 : n0 ≤ h0.size) (Sg0 : Sta Z Z.heap "com/example/edictum/edictum/io/XpathTokens$Kind" "AT" "Lcom/example/edictum/edictum/io/XpathTokens$Kind;" (.ref w1)) (P2 : Old Z n0 h0) (F_w4_ordinal : Fld Z Z.heap w4 "java/lang/Enum" "ordinal" "I" (.int 3)) (F_w1_ordinal : Fld Z Z.heap w1 "java/lang/Enum" "ordinal" "I" (.int 0)) (Sg20 : Sta Z Z.heap "com/example/edictum/edictum/io/XpathTokens$Kind" "AXIS" "Lcom/example/edictum/edictum/io/XpathTokens$Kind;" (.ref w11)) (F_w11_ordinal : Fld Z Z.heap w11 "java/lang/Enum" "ordinal" "I" (.int 10)) (Sg24 : Sta Z Z.heap "com/example/edictum/edictum/io/XpathTokens$Kind" "NODE_TYPE" "Lcom/example/edictum/edictum/io/XpathTokens$Kind;" (.ref w13)) (F_w13_ordinal : Fld Z Z.heap w13 "java/lang/Enum" "ordinal" "I" (.int 12)) (Sg26 : Sta Z Z.heap "com/example/edictum/edictum/io/XpathTokens$Kind" "NAME_TEST" "Lcom/example/edictum/edictum/io/XpathTokens$Kind;" (.ref w14)) (F_w14_ordinal : Fld Z Z.heap w14 "java/lang/Enum" "ordinal" "I" (.int 13)) (Sg28 : Sta Z Z.heap "com/example/edictum/edictum/io/XpathTokens$Kind" "DOT" "Lcom/example/edictum/edictum/io/XpathTokens$Kind;" (.ref w15)) (F_w15_ordinal : Fld Z Z.heap w15 "java/lang/Enum" "ordinal" "I" (.int 14)) (Sg30 : Sta Z Z.heap "com/example/edictum/edictum/io/XpathTokens$Kind" "DOT_DOT" "Lcom/example/edictum/edictum/io/XpathTokens$Kind;" (.ref w16)) (F_w16_ordinal : Fld Z Z.heap w16 "java/lang/Enum" "ordinal" "I" (.int 15)) :
    MF l Z (⟨"com/example/edictum/edictum/io/XpathTokens$Kind", "beginsStep", "()Z"⟩ : MethodName) (Jvm.Cond.code (⟨"com/example/edictum/edictum/io/XpathTokens$Kind", "beginsStep", "()Z"⟩ : MethodName) prog_252_method_5_code 1 (some .boolean)) ws ({ frames := 0, cells := 0, slots := 0, locals := 0 } : Room) #[(.ref w4)] h0 (Q1_4 Z w4 w1 w11 w13 w14 w15 w16 h0 n0) := by
  refine MetFree.of_bodySF (plainFor_of_name pn_0) hisR ?_
  intro p e s m args below meth c s₁ Bd hml0 hP hK
  obtain ⟨rfl, hZ, hh⟩ := hP
  have hx := Bd.exec
  have hby := Bd.bytes
  have hml : c.maxLocals = 1 := hml0
  have hown : s.vm.findClass "com/example/edictum/edictum/io/XpathTokens$Kind" = some m.cls := findClass_of_methodNamed Bd.named
  have hnm := (name_of_methodNamed Bd.named Bd.method).1
  have X0 : Stand p l e ({ frames := 0, cells := 0, slots := 0, locals := 0 } : Room) s m #[(.ref w4)] below meth c s₁ [] 0 0 := Stand.of_body Bd
  have e0 : s₁.heap = h0 := by rw [← hh, Bd.state]; rfl
  have N0 := Fr.nil n0
  have pre0 : ∀ t, SF p e below s₁ (mkF m 0 #[rv w4] []) t → SF p e below s₁ (entryFrame m #[(.ref w4)] 1) t := fun t k => castTop (ef_0 m w4) k
  obtain ⟨T1, X1, e1, st1⟩ := getS2 X0 hx hZ hown (host := "") (Or.inl (tw hw 47 rfl)) Via.refl e0 (Sg0.ext P2.2) (g := (mkF m 1 #[rv w4] [(.ref w4)])) rfl (hb hby d1_1)
  obtain ⟨T2, X2, e2, st2⟩ := getS2 X1 hx hZ hown (host := "") (Or.inl (tw hw 48 rfl)) Via.refl e1 (Sg20.ext P2.2) (g := (mkF m 8 #[rv w4] [(.ref w4)])) rfl (hb hby d1_8)
  obtain ⟨T3, X3, e3, st3⟩ := getS2 X2 hx hZ hown (host := "") (Or.inl (tw hw 49 rfl)) Via.refl e2 (Sg24.ext P2.2) (g := (mkF m 15 #[rv w4] [(.ref w4)])) rfl (hb hby d1_15)
  obtain ⟨T4, X4, e4, st4⟩ := getS2 X3 hx hZ hown (host := "") (Or.inl (tw hw 50 rfl)) Via.refl e3 (Sg26.ext P2.2) (g := (mkF m 22 #[rv w4] [(.ref w4)])) rfl (hb hby d1_22)
  obtain ⟨T5, X5, e5, st5⟩ := getS2 X4 hx hZ hown (host := "") (Or.inl (tw hw 51 rfl)) Via.refl e4 (Sg28.ext P2.2) (g := (mkF m 29 #[rv w4] [(.ref w4)])) rfl (hb hby d1_29)
  obtain ⟨T6, X6, e6, st6⟩ := getS2 X5 hx hZ hown (host := "") (Or.inl (tw hw 52 rfl)) Via.refl e5 (Sg30.ext P2.2) (g := (mkF m 36 #[rv w4] [(.ref w4)])) rfl (hb hby d1_36)
  obtain ⟨fs, hr, hrun, hended, hW, hsame⟩ := X6.leave (v := some (.int 0)) (fun h => by rw [Bd.returns] at h; cases h)
  refine ⟨_, _, pre0 _ ?_, hrun, hended, _, _, rfl, ?_, ⟨_, rfl⟩, hW, hsame.mono (by decide) (by decide)⟩
  · show SF p e below s₁ (mkF m 0 #[rv w4] []) _
    refine XS.aloadN X0.here hx rfl (hb hby d1_0) rfl rfl ?_
    show SF p e below s₁ (mkF m 1 #[rv w4] [(.ref w4)]) _
    refine st1 _ ?_
    show SF p e below T1 (mkF m 4 #[rv w4] [(.ref w1), (.ref w4)]) _
    refine Jvm.RoadKit.acmp (g := (mkF m 4 #[rv w4] [(.ref w1), (.ref w4)])) X1 hx rfl rfl rfl (pc0 := 4) (pc' := 7) (same := false) rfl (hb hby d1_4) rfl (decide_eq_false fun q => (Fld.ne F_w4_ordinal F_w1_ordinal (by decide)) (Value.ref.inj q)) (by decide) (by decide) ?_
    show SF p e below T1 (mkF m 7 #[rv w4] []) _
    refine XS.aloadN X1.here hx rfl (hb hby d1_7) rfl rfl ?_
    show SF p e below T1 (mkF m 8 #[rv w4] [(.ref w4)]) _
    refine st2 _ ?_
    show SF p e below T2 (mkF m 11 #[rv w4] [(.ref w11), (.ref w4)]) _
    refine Jvm.RoadKit.acmp (g := (mkF m 11 #[rv w4] [(.ref w11), (.ref w4)])) X2 hx rfl rfl rfl (pc0 := 11) (pc' := 14) (same := false) rfl (hb hby d1_11) rfl (decide_eq_false fun q => (Fld.ne F_w4_ordinal F_w11_ordinal (by decide)) (Value.ref.inj q)) (by decide) (by decide) ?_
    show SF p e below T2 (mkF m 14 #[rv w4] []) _
    refine XS.aloadN X2.here hx rfl (hb hby d1_14) rfl rfl ?_
    show SF p e below T2 (mkF m 15 #[rv w4] [(.ref w4)]) _
    refine st3 _ ?_
    show SF p e below T3 (mkF m 18 #[rv w4] [(.ref w13), (.ref w4)]) _
    refine Jvm.RoadKit.acmp (g := (mkF m 18 #[rv w4] [(.ref w13), (.ref w4)])) X3 hx rfl rfl rfl (pc0 := 18) (pc' := 21) (same := false) rfl (hb hby d1_18) rfl (decide_eq_false fun q => (Fld.ne F_w4_ordinal F_w13_ordinal (by decide)) (Value.ref.inj q)) (by decide) (by decide) ?_
    show SF p e below T3 (mkF m 21 #[rv w4] []) _
    refine XS.aloadN X3.here hx rfl (hb hby d1_21) rfl rfl ?_
    show SF p e below T3 (mkF m 22 #[rv w4] [(.ref w4)]) _
    refine st4 _ ?_
    show SF p e below T4 (mkF m 25 #[rv w4] [(.ref w14), (.ref w4)]) _
    refine Jvm.RoadKit.acmp (g := (mkF m 25 #[rv w4] [(.ref w14), (.ref w4)])) X4 hx rfl rfl rfl (pc0 := 25) (pc' := 28) (same := false) rfl (hb hby d1_25) rfl (decide_eq_false fun q => (Fld.ne F_w4_ordinal F_w14_ordinal (by decide)) (Value.ref.inj q)) (by decide) (by decide) ?_
    show SF p e below T4 (mkF m 28 #[rv w4] []) _
    refine XS.aloadN X4.here hx rfl (hb hby d1_28) rfl rfl ?_
    show SF p e below T4 (mkF m 29 #[rv w4] [(.ref w4)]) _
    refine st5 _ ?_
    show SF p e below T5 (mkF m 32 #[rv w4] [(.ref w15), (.ref w4)]) _
    refine Jvm.RoadKit.acmp (g := (mkF m 32 #[rv w4] [(.ref w15), (.ref w4)])) X5 hx rfl rfl rfl (pc0 := 32) (pc' := 35) (same := false) rfl (hb hby d1_32) rfl (decide_eq_false fun q => (Fld.ne F_w4_ordinal F_w15_ordinal (by decide)) (Value.ref.inj q)) (by decide) (by decide) ?_
    show SF p e below T5 (mkF m 35 #[rv w4] []) _
    refine XS.aloadN X5.here hx rfl (hb hby d1_35) rfl rfl ?_
    show SF p e below T5 (mkF m 36 #[rv w4] [(.ref w4)]) _
    refine st6 _ ?_
    show SF p e below T6 (mkF m 39 #[rv w4] [(.ref w16), (.ref w4)]) _
    refine Jvm.RoadKit.acmp (g := (mkF m 39 #[rv w4] [(.ref w16), (.ref w4)])) X6 hx rfl rfl rfl (pc0 := 39) (pc' := 46) (same := false) rfl (hb hby d1_39) rfl (decide_eq_false fun q => (Fld.ne F_w4_ordinal F_w16_ordinal (by decide)) (Value.ref.inj q)) (by decide) (by decide) ?_
    show SF p e below T6 (mkF m 46 #[rv w4] []) _
    refine XS.iconst X6.here hx rfl (hb hby d1_46) ?_
    show SF p e below T6 (mkF m 47 #[rv w4] [(.int 0)]) _
    exact retN X6 hx (t := .boolean) Bd.returns (by simp) (hb hby d1_47) hr
  · show Q1_4 Z w4 w1 w11 w13 w14 w15 w16 h0 n0 _ T6.heap _
    rw [e6]
    exact ⟨rfl, N0, rfl⟩
-- XpathTokens$Kind.beginsStep 
def Q1_5 (Z : State) (w5 : Addr) (w1 : Addr) (w11 : Addr) (w13 : Addr) (w14 : Addr) (w15 : Addr) (w16 : Addr) (h0 : Heap) (n0 : Nat) (v : Option Value) (h : Heap) (L : List Loc) : Prop := v = some (.int 0) ∧ Fr n0 L ∧ h = h0
set_option maxRecDepth 65536 in
set_option maxHeartbeats 40000000 in
theorem rm1_5 (l : Launch) (Z : State) (a0 : Array Value) (hw : HW Z a0) (ws : List Jvm.Cond) (w5 : Addr) (w1 : Addr) (w11 : Addr) (w13 : Addr) (w14 : Addr) (w15 : Addr) (w16 : Addr) (h0 : Heap) (n0 : Nat) (Z0 : n0 ≤ h0.size) (Sg0 : Sta Z Z.heap "com/example/edictum/edictum/io/XpathTokens$Kind" "AT" "Lcom/example/edictum/edictum/io/XpathTokens$Kind;" (.ref w1)) (P2 : Old Z n0 h0) (F_w5_ordinal : Fld Z Z.heap w5 "java/lang/Enum" "ordinal" "I" (.int 4)) (F_w1_ordinal : Fld Z Z.heap w1 "java/lang/Enum" "ordinal" "I" (.int 0)) (Sg20 : Sta Z Z.heap "com/example/edictum/edictum/io/XpathTokens$Kind" "AXIS" "Lcom/example/edictum/edictum/io/XpathTokens$Kind;" (.ref w11)) (F_w11_ordinal : Fld Z Z.heap w11 "java/lang/Enum" "ordinal" "I" (.int 10)) (Sg24 : Sta Z Z.heap "com/example/edictum/edictum/io/XpathTokens$Kind" "NODE_TYPE" "Lcom/example/edictum/edictum/io/XpathTokens$Kind;" (.ref w13)) (F_w13_ordinal : Fld Z Z.heap w13 "java/lang/Enum" "ordinal" "I" (.int 12)) (Sg26 : Sta Z Z.heap "com/example/edictum/edictum/io/XpathTokens$Kind" "NAME_TEST" "Lcom/example/edictum/edictum/io/XpathTokens$Kind;" (.ref w14)) (F_w14_ordinal : Fld Z Z.heap w14 "java/lang/Enum" "ordinal" "I" (.int 13)) (Sg28 : Sta Z Z.heap "com/example/edictum/edictum/io/XpathTokens$Kind" "DOT" "Lcom/example/edictum/edictum/io/XpathTokens$Kind;" (.ref w15)) (F_w15_ordinal : Fld Z Z.heap w15 "java/lang/Enum" "ordinal" "I" (.int 14)) (Sg30 : Sta Z Z.heap "com/example/edictum/edictum/io/XpathTokens$Kind" "DOT_DOT" "Lcom/example/edictum/edictum/io/XpathTokens$Kind;" (.ref w16)) (F_w16_ordinal : Fld Z Z.heap w16 "java/lang/Enum" "ordinal" "I" (.int 15)) :
    MF l Z (⟨"com/example/edictum/edictum/io/XpathTokens$Kind", "beginsStep", "()Z"⟩ : MethodName) (Jvm.Cond.code (⟨"com/example/edictum/edictum/io/XpathTokens$Kind", "beginsStep", "()Z"⟩ : MethodName) prog_252_method_5_code 1 (some .boolean)) ws ({ frames := 0, cells := 0, slots := 0, locals := 0 } : Room) #[(.ref w5)] h0 (Q1_5 Z w5 w1 w11 w13 w14 w15 w16 h0 n0) := by
  refine MetFree.of_bodySF (plainFor_of_name pn_0) hisR ?_
  intro p e s m args below meth c s₁ Bd hml0 hP hK
  obtain ⟨rfl, hZ, hh⟩ := hP
  have hx := Bd.exec
  have hby := Bd.bytes
  have hml : c.maxLocals = 1 := hml0
  have hown : s.vm.findClass "com/example/edictum/edictum/io/XpathTokens$Kind" = some m.cls := findClass_of_methodNamed Bd.named
  have hnm := (name_of_methodNamed Bd.named Bd.method).1
  have X0 : Stand p l e ({ frames := 0, cells := 0, slots := 0, locals := 0 } : Room) s m #[(.ref w5)] below meth c s₁ [] 0 0 := Stand.of_body Bd
  have e0 : s₁.heap = h0 := by rw [← hh, Bd.state]; rfl
  have N0 := Fr.nil n0
  have pre0 : ∀ t, SF p e below s₁ (mkF m 0 #[rv w5] []) t → SF p e below s₁ (entryFrame m #[(.ref w5)] 1) t := fun t k => castTop (ef_0 m w5) k
  obtain ⟨T1, X1, e1, st1⟩ := getS2 X0 hx hZ hown (host := "") (Or.inl (tw hw 47 rfl)) Via.refl e0 (Sg0.ext P2.2) (g := (mkF m 1 #[rv w5] [(.ref w5)])) rfl (hb hby d1_1)
  obtain ⟨T2, X2, e2, st2⟩ := getS2 X1 hx hZ hown (host := "") (Or.inl (tw hw 48 rfl)) Via.refl e1 (Sg20.ext P2.2) (g := (mkF m 8 #[rv w5] [(.ref w5)])) rfl (hb hby d1_8)
  obtain ⟨T3, X3, e3, st3⟩ := getS2 X2 hx hZ hown (host := "") (Or.inl (tw hw 49 rfl)) Via.refl e2 (Sg24.ext P2.2) (g := (mkF m 15 #[rv w5] [(.ref w5)])) rfl (hb hby d1_15)
  obtain ⟨T4, X4, e4, st4⟩ := getS2 X3 hx hZ hown (host := "") (Or.inl (tw hw 50 rfl)) Via.refl e3 (Sg26.ext P2.2) (g := (mkF m 22 #[rv w5] [(.ref w5)])) rfl (hb hby d1_22)
  obtain ⟨T5, X5, e5, st5⟩ := getS2 X4 hx hZ hown (host := "") (Or.inl (tw hw 51 rfl)) Via.refl e4 (Sg28.ext P2.2) (g := (mkF m 29 #[rv w5] [(.ref w5)])) rfl (hb hby d1_29)
  obtain ⟨T6, X6, e6, st6⟩ := getS2 X5 hx hZ hown (host := "") (Or.inl (tw hw 52 rfl)) Via.refl e5 (Sg30.ext P2.2) (g := (mkF m 36 #[rv w5] [(.ref w5)])) rfl (hb hby d1_36)
  obtain ⟨fs, hr, hrun, hended, hW, hsame⟩ := X6.leave (v := some (.int 0)) (fun h => by rw [Bd.returns] at h; cases h)
  refine ⟨_, _, pre0 _ ?_, hrun, hended, _, _, rfl, ?_, ⟨_, rfl⟩, hW, hsame.mono (by decide) (by decide)⟩
  · show SF p e below s₁ (mkF m 0 #[rv w5] []) _
    refine XS.aloadN X0.here hx rfl (hb hby d1_0) rfl rfl ?_
    show SF p e below s₁ (mkF m 1 #[rv w5] [(.ref w5)]) _
    refine st1 _ ?_
    show SF p e below T1 (mkF m 4 #[rv w5] [(.ref w1), (.ref w5)]) _
    refine Jvm.RoadKit.acmp (g := (mkF m 4 #[rv w5] [(.ref w1), (.ref w5)])) X1 hx rfl rfl rfl (pc0 := 4) (pc' := 7) (same := false) rfl (hb hby d1_4) rfl (decide_eq_false fun q => (Fld.ne F_w5_ordinal F_w1_ordinal (by decide)) (Value.ref.inj q)) (by decide) (by decide) ?_
    show SF p e below T1 (mkF m 7 #[rv w5] []) _
    refine XS.aloadN X1.here hx rfl (hb hby d1_7) rfl rfl ?_
    show SF p e below T1 (mkF m 8 #[rv w5] [(.ref w5)]) _
    refine st2 _ ?_
    show SF p e below T2 (mkF m 11 #[rv w5] [(.ref w11), (.ref w5)]) _
    refine Jvm.RoadKit.acmp (g := (mkF m 11 #[rv w5] [(.ref w11), (.ref w5)])) X2 hx rfl rfl rfl (pc0 := 11) (pc' := 14) (same := false) rfl (hb hby d1_11) rfl (decide_eq_false fun q => (Fld.ne F_w5_ordinal F_w11_ordinal (by decide)) (Value.ref.inj q)) (by decide) (by decide) ?_
    show SF p e below T2 (mkF m 14 #[rv w5] []) _
    refine XS.aloadN X2.here hx rfl (hb hby d1_14) rfl rfl ?_
    show SF p e below T2 (mkF m 15 #[rv w5] [(.ref w5)]) _
    refine st3 _ ?_
    show SF p e below T3 (mkF m 18 #[rv w5] [(.ref w13), (.ref w5)]) _
    refine Jvm.RoadKit.acmp (g := (mkF m 18 #[rv w5] [(.ref w13), (.ref w5)])) X3 hx rfl rfl rfl (pc0 := 18) (pc' := 21) (same := false) rfl (hb hby d1_18) rfl (decide_eq_false fun q => (Fld.ne F_w5_ordinal F_w13_ordinal (by decide)) (Value.ref.inj q)) (by decide) (by decide) ?_
    show SF p e below T3 (mkF m 21 #[rv w5] []) _
    refine XS.aloadN X3.here hx rfl (hb hby d1_21) rfl rfl ?_
    show SF p e below T3 (mkF m 22 #[rv w5] [(.ref w5)]) _
    refine st4 _ ?_
    show SF p e below T4 (mkF m 25 #[rv w5] [(.ref w14), (.ref w5)]) _
    refine Jvm.RoadKit.acmp (g := (mkF m 25 #[rv w5] [(.ref w14), (.ref w5)])) X4 hx rfl rfl rfl (pc0 := 25) (pc' := 28) (same := false) rfl (hb hby d1_25) rfl (decide_eq_false fun q => (Fld.ne F_w5_ordinal F_w14_ordinal (by decide)) (Value.ref.inj q)) (by decide) (by decide) ?_
    show SF p e below T4 (mkF m 28 #[rv w5] []) _
    refine XS.aloadN X4.here hx rfl (hb hby d1_28) rfl rfl ?_
    show SF p e below T4 (mkF m 29 #[rv w5] [(.ref w5)]) _
    refine st5 _ ?_
    show SF p e below T5 (mkF m 32 #[rv w5] [(.ref w15), (.ref w5)]) _
    refine Jvm.RoadKit.acmp (g := (mkF m 32 #[rv w5] [(.ref w15), (.ref w5)])) X5 hx rfl rfl rfl (pc0 := 32) (pc' := 35) (same := false) rfl (hb hby d1_32) rfl (decide_eq_false fun q => (Fld.ne F_w5_ordinal F_w15_ordinal (by decide)) (Value.ref.inj q)) (by decide) (by decide) ?_
    show SF p e below T5 (mkF m 35 #[rv w5] []) _
    refine XS.aloadN X5.here hx rfl (hb hby d1_35) rfl rfl ?_
    show SF p e below T5 (mkF m 36 #[rv w5] [(.ref w5)]) _
    refine st6 _ ?_
    show SF p e below T6 (mkF m 39 #[rv w5] [(.ref w16), (.ref w5)]) _
    refine Jvm.RoadKit.acmp (g := (mkF m 39 #[rv w5] [(.ref w16), (.ref w5)])) X6 hx rfl rfl rfl (pc0 := 39) (pc' := 46) (same := false) rfl (hb hby d1_39) rfl (decide_eq_false fun q => (Fld.ne F_w5_ordinal F_w16_ordinal (by decide)) (Value.ref.inj q)) (by decide) (by decide) ?_
    show SF p e below T6 (mkF m 46 #[rv w5] []) _
    refine XS.iconst X6.here hx rfl (hb hby d1_46) ?_
    show SF p e below T6 (mkF m 47 #[rv w5] [(.int 0)]) _
    exact retN X6 hx (t := .boolean) Bd.returns (by simp) (hb hby d1_47) hr
  · show Q1_5 Z w5 w1 w11 w13 w14 w15 w16 h0 n0 _ T6.heap _
    rw [e6]
    exact ⟨rfl, N0, rfl⟩
-- XpathTokens$Kind.beginsStep 
def Q1_6 (Z : State) (w6 : Addr) (w1 : Addr) (w11 : Addr) (w13 : Addr) (w14 : Addr) (w15 : Addr) (w16 : Addr) (h0 : Heap) (n0 : Nat) (v : Option Value) (h : Heap) (L : List Loc) : Prop := v = some (.int 0) ∧ Fr n0 L ∧ h = h0
set_option maxRecDepth 65536 in
set_option maxHeartbeats 40000000 in
theorem rm1_6 (l : Launch) (Z : State) (a0 : Array Value) (hw : HW Z a0) (ws : List Jvm.Cond) (w6 : Addr) (w1 : Addr) (w11 : Addr) (w13 : Addr) (w14 : Addr) (w15 : Addr) (w16 : Addr) (h0 : Heap) (n0 : Nat) (Z0 : n0 ≤ h0.size) (Sg0 : Sta Z Z.heap "com/example/edictum/edictum/io/XpathTokens$Kind" "AT" "Lcom/example/edictum/edictum/io/XpathTokens$Kind;" (.ref w1)) (P2 : Old Z n0 h0) (F_w6_ordinal : Fld Z Z.heap w6 "java/lang/Enum" "ordinal" "I" (.int 5)) (F_w1_ordinal : Fld Z Z.heap w1 "java/lang/Enum" "ordinal" "I" (.int 0)) (Sg20 : Sta Z Z.heap "com/example/edictum/edictum/io/XpathTokens$Kind" "AXIS" "Lcom/example/edictum/edictum/io/XpathTokens$Kind;" (.ref w11)) (F_w11_ordinal : Fld Z Z.heap w11 "java/lang/Enum" "ordinal" "I" (.int 10)) (Sg24 : Sta Z Z.heap "com/example/edictum/edictum/io/XpathTokens$Kind" "NODE_TYPE" "Lcom/example/edictum/edictum/io/XpathTokens$Kind;" (.ref w13)) (F_w13_ordinal : Fld Z Z.heap w13 "java/lang/Enum" "ordinal" "I" (.int 12)) (Sg26 : Sta Z Z.heap "com/example/edictum/edictum/io/XpathTokens$Kind" "NAME_TEST" "Lcom/example/edictum/edictum/io/XpathTokens$Kind;" (.ref w14)) (F_w14_ordinal : Fld Z Z.heap w14 "java/lang/Enum" "ordinal" "I" (.int 13)) (Sg28 : Sta Z Z.heap "com/example/edictum/edictum/io/XpathTokens$Kind" "DOT" "Lcom/example/edictum/edictum/io/XpathTokens$Kind;" (.ref w15)) (F_w15_ordinal : Fld Z Z.heap w15 "java/lang/Enum" "ordinal" "I" (.int 14)) (Sg30 : Sta Z Z.heap "com/example/edictum/edictum/io/XpathTokens$Kind" "DOT_DOT" "Lcom/example/edictum/edictum/io/XpathTokens$Kind;" (.ref w16)) (F_w16_ordinal : Fld Z Z.heap w16 "java/lang/Enum" "ordinal" "I" (.int 15)) :
    MF l Z (⟨"com/example/edictum/edictum/io/XpathTokens$Kind", "beginsStep", "()Z"⟩ : MethodName) (Jvm.Cond.code (⟨"com/example/edictum/edictum/io/XpathTokens$Kind", "beginsStep", "()Z"⟩ : MethodName) prog_252_method_5_code 1 (some .boolean)) ws ({ frames := 0, cells := 0, slots := 0, locals := 0 } : Room) #[(.ref w6)] h0 (Q1_6 Z w6 w1 w11 w13 w14 w15 w16 h0 n0) := by
  refine MetFree.of_bodySF (plainFor_of_name pn_0) hisR ?_
  intro p e s m args below meth c s₁ Bd hml0 hP hK
  obtain ⟨rfl, hZ, hh⟩ := hP
  have hx := Bd.exec
  have hby := Bd.bytes
  have hml : c.maxLocals = 1 := hml0
  have hown : s.vm.findClass "com/example/edictum/edictum/io/XpathTokens$Kind" = some m.cls := findClass_of_methodNamed Bd.named
  have hnm := (name_of_methodNamed Bd.named Bd.method).1
  have X0 : Stand p l e ({ frames := 0, cells := 0, slots := 0, locals := 0 } : Room) s m #[(.ref w6)] below meth c s₁ [] 0 0 := Stand.of_body Bd
  have e0 : s₁.heap = h0 := by rw [← hh, Bd.state]; rfl
  have N0 := Fr.nil n0
  have pre0 : ∀ t, SF p e below s₁ (mkF m 0 #[rv w6] []) t → SF p e below s₁ (entryFrame m #[(.ref w6)] 1) t := fun t k => castTop (ef_0 m w6) k
  obtain ⟨T1, X1, e1, st1⟩ := getS2 X0 hx hZ hown (host := "") (Or.inl (tw hw 47 rfl)) Via.refl e0 (Sg0.ext P2.2) (g := (mkF m 1 #[rv w6] [(.ref w6)])) rfl (hb hby d1_1)
  obtain ⟨T2, X2, e2, st2⟩ := getS2 X1 hx hZ hown (host := "") (Or.inl (tw hw 48 rfl)) Via.refl e1 (Sg20.ext P2.2) (g := (mkF m 8 #[rv w6] [(.ref w6)])) rfl (hb hby d1_8)
  obtain ⟨T3, X3, e3, st3⟩ := getS2 X2 hx hZ hown (host := "") (Or.inl (tw hw 49 rfl)) Via.refl e2 (Sg24.ext P2.2) (g := (mkF m 15 #[rv w6] [(.ref w6)])) rfl (hb hby d1_15)
  obtain ⟨T4, X4, e4, st4⟩ := getS2 X3 hx hZ hown (host := "") (Or.inl (tw hw 50 rfl)) Via.refl e3 (Sg26.ext P2.2) (g := (mkF m 22 #[rv w6] [(.ref w6)])) rfl (hb hby d1_22)
  obtain ⟨T5, X5, e5, st5⟩ := getS2 X4 hx hZ hown (host := "") (Or.inl (tw hw 51 rfl)) Via.refl e4 (Sg28.ext P2.2) (g := (mkF m 29 #[rv w6] [(.ref w6)])) rfl (hb hby d1_29)
  obtain ⟨T6, X6, e6, st6⟩ := getS2 X5 hx hZ hown (host := "") (Or.inl (tw hw 52 rfl)) Via.refl e5 (Sg30.ext P2.2) (g := (mkF m 36 #[rv w6] [(.ref w6)])) rfl (hb hby d1_36)
  obtain ⟨fs, hr, hrun, hended, hW, hsame⟩ := X6.leave (v := some (.int 0)) (fun h => by rw [Bd.returns] at h; cases h)
  refine ⟨_, _, pre0 _ ?_, hrun, hended, _, _, rfl, ?_, ⟨_, rfl⟩, hW, hsame.mono (by decide) (by decide)⟩
  · show SF p e below s₁ (mkF m 0 #[rv w6] []) _
    refine XS.aloadN X0.here hx rfl (hb hby d1_0) rfl rfl ?_
    show SF p e below s₁ (mkF m 1 #[rv w6] [(.ref w6)]) _
    refine st1 _ ?_
    show SF p e below T1 (mkF m 4 #[rv w6] [(.ref w1), (.ref w6)]) _
    refine Jvm.RoadKit.acmp (g := (mkF m 4 #[rv w6] [(.ref w1), (.ref w6)])) X1 hx rfl rfl rfl (pc0 := 4) (pc' := 7) (same := false) rfl (hb hby d1_4) rfl (decide_eq_false fun q => (Fld.ne F_w6_ordinal F_w1_ordinal (by decide)) (Value.ref.inj q)) (by decide) (by decide) ?_
    show SF p e below T1 (mkF m 7 #[rv w6] []) _
    refine XS.aloadN X1.here hx rfl (hb hby d1_7) rfl rfl ?_
    show SF p e below T1 (mkF m 8 #[rv w6] [(.ref w6)]) _
    refine st2 _ ?_
    show SF p e below T2 (mkF m 11 #[rv w6] [(.ref w11), (.ref w6)]) _
    refine Jvm.RoadKit.acmp (g := (mkF m 11 #[rv w6] [(.ref w11), (.ref w6)])) X2 hx rfl rfl rfl (pc0 := 11) (pc' := 14) (same := false) rfl (hb hby d1_11) rfl (decide_eq_false fun q => (Fld.ne F_w6_ordinal F_w11_ordinal (by decide)) (Value.ref.inj q)) (by decide) (by decide) ?_
    show SF p e below T2 (mkF m 14 #[rv w6] []) _
    refine XS.aloadN X2.here hx rfl (hb hby d1_14) rfl rfl ?_
    show SF p e below T2 (mkF m 15 #[rv w6] [(.ref w6)]) _
    refine st3 _ ?_
    show SF p e below T3 (mkF m 18 #[rv w6] [(.ref w13), (.ref w6)]) _
    refine Jvm.RoadKit.acmp (g := (mkF m 18 #[rv w6] [(.ref w13), (.ref w6)])) X3 hx rfl rfl rfl (pc0 := 18) (pc' := 21) (same := false) rfl (hb hby d1_18) rfl (decide_eq_false fun q => (Fld.ne F_w6_ordinal F_w13_ordinal (by decide)) (Value.ref.inj q)) (by decide) (by decide) ?_
    show SF p e below T3 (mkF m 21 #[rv w6] []) _
    refine XS.aloadN X3.here hx rfl (hb hby d1_21) rfl rfl ?_
    show SF p e below T3 (mkF m 22 #[rv w6] [(.ref w6)]) _
    refine st4 _ ?_
    show SF p e below T4 (mkF m 25 #[rv w6] [(.ref w14), (.ref w6)]) _
    refine Jvm.RoadKit.acmp (g := (mkF m 25 #[rv w6] [(.ref w14), (.ref w6)])) X4 hx rfl rfl rfl (pc0 := 25) (pc' := 28) (same := false) rfl (hb hby d1_25) rfl (decide_eq_false fun q => (Fld.ne F_w6_ordinal F_w14_ordinal (by decide)) (Value.ref.inj q)) (by decide) (by decide) ?_
    show SF p e below T4 (mkF m 28 #[rv w6] []) _
    refine XS.aloadN X4.here hx rfl (hb hby d1_28) rfl rfl ?_
    show SF p e below T4 (mkF m 29 #[rv w6] [(.ref w6)]) _
    refine st5 _ ?_
    show SF p e below T5 (mkF m 32 #[rv w6] [(.ref w15), (.ref w6)]) _
    refine Jvm.RoadKit.acmp (g := (mkF m 32 #[rv w6] [(.ref w15), (.ref w6)])) X5 hx rfl rfl rfl (pc0 := 32) (pc' := 35) (same := false) rfl (hb hby d1_32) rfl (decide_eq_false fun q => (Fld.ne F_w6_ordinal F_w15_ordinal (by decide)) (Value.ref.inj q)) (by decide) (by decide) ?_
    show SF p e below T5 (mkF m 35 #[rv w6] []) _
    refine XS.aloadN X5.here hx rfl (hb hby d1_35) rfl rfl ?_
    show SF p e below T5 (mkF m 36 #[rv w6] [(.ref w6)]) _
    refine st6 _ ?_
    show SF p e below T6 (mkF m 39 #[rv w6] [(.ref w16), (.ref w6)]) _
    refine Jvm.RoadKit.acmp (g := (mkF m 39 #[rv w6] [(.ref w16), (.ref w6)])) X6 hx rfl rfl rfl (pc0 := 39) (pc' := 46) (same := false) rfl (hb hby d1_39) rfl (decide_eq_false fun q => (Fld.ne F_w6_ordinal F_w16_ordinal (by decide)) (Value.ref.inj q)) (by decide) (by decide) ?_
    show SF p e below T6 (mkF m 46 #[rv w6] []) _
    refine XS.iconst X6.here hx rfl (hb hby d1_46) ?_
    show SF p e below T6 (mkF m 47 #[rv w6] [(.int 0)]) _
    exact retN X6 hx (t := .boolean) Bd.returns (by simp) (hb hby d1_47) hr
  · show Q1_6 Z w6 w1 w11 w13 w14 w15 w16 h0 n0 _ T6.heap _
    rw [e6]
    exact ⟨rfl, N0, rfl⟩
-- XpathTokens$Kind.beginsStep 
def Q1_7 (Z : State) (w7 : Addr) (w1 : Addr) (w11 : Addr) (w13 : Addr) (w14 : Addr) (w15 : Addr) (w16 : Addr) (h0 : Heap) (n0 : Nat) (v : Option Value) (h : Heap) (L : List Loc) : Prop := v = some (.int 0) ∧ Fr n0 L ∧ h = h0
set_option maxRecDepth 65536 in
set_option maxHeartbeats 40000000 in
theorem rm1_7 (l : Launch) (Z : State) (a0 : Array Value) (hw : HW Z a0) (ws : List Jvm.Cond) (w7 : Addr) (w1 : Addr) (w11 : Addr) (w13 : Addr) (w14 : Addr) (w15 : Addr) (w16 : Addr) (h0 : Heap) (n0 : Nat) (Z0 : n0 ≤ h0.size) (Sg0 : Sta Z Z.heap "com/example/edictum/edictum/io/XpathTokens$Kind" "AT" "Lcom/example/edictum/edictum/io/XpathTokens$Kind;" (.ref w1)) (P2 : Old Z n0 h0) (F_w7_ordinal : Fld Z Z.heap w7 "java/lang/Enum" "ordinal" "I" (.int 6)) (F_w1_ordinal : Fld Z Z.heap w1 "java/lang/Enum" "ordinal" "I" (.int 0)) (Sg20 : Sta Z Z.heap "com/example/edictum/edictum/io/XpathTokens$Kind" "AXIS" "Lcom/example/edictum/edictum/io/XpathTokens$Kind;" (.ref w11)) (F_w11_ordinal : Fld Z Z.heap w11 "java/lang/Enum" "ordinal" "I" (.int 10)) (Sg24 : Sta Z Z.heap "com/example/edictum/edictum/io/XpathTokens$Kind" "NODE_TYPE" "Lcom/example/edictum/edictum/io/XpathTokens$Kind;" (.ref w13)) (F_w13_ordinal : Fld Z Z.heap w13 "java/lang/Enum" "ordinal" "I" (.int 12)) (Sg26 : Sta Z Z.heap "com/example/edictum/edictum/io/XpathTokens$Kind" "NAME_TEST" "Lcom/example/edictum/edictum/io/XpathTokens$Kind;" (.ref w14)) (F_w14_ordinal : Fld Z Z.heap w14 "java/lang/Enum" "ordinal" "I" (.int 13)) (Sg28 : Sta Z Z.heap "com/example/edictum/edictum/io/XpathTokens$Kind" "DOT" "Lcom/example/edictum/edictum/io/XpathTokens$Kind;" (.ref w15)) (F_w15_ordinal : Fld Z Z.heap w15 "java/lang/Enum" "ordinal" "I" (.int 14)) (Sg30 : Sta Z Z.heap "com/example/edictum/edictum/io/XpathTokens$Kind" "DOT_DOT" "Lcom/example/edictum/edictum/io/XpathTokens$Kind;" (.ref w16)) (F_w16_ordinal : Fld Z Z.heap w16 "java/lang/Enum" "ordinal" "I" (.int 15)) :
    MF l Z (⟨"com/example/edictum/edictum/io/XpathTokens$Kind", "beginsStep", "()Z"⟩ : MethodName) (Jvm.Cond.code (⟨"com/example/edictum/edictum/io/XpathTokens$Kind", "beginsStep", "()Z"⟩ : MethodName) prog_252_method_5_code 1 (some .boolean)) ws ({ frames := 0, cells := 0, slots := 0, locals := 0 } : Room) #[(.ref w7)] h0 (Q1_7 Z w7 w1 w11 w13 w14 w15 w16 h0 n0) := by
  refine MetFree.of_bodySF (plainFor_of_name pn_0) hisR ?_
  intro p e s m args below meth c s₁ Bd hml0 hP hK
  obtain ⟨rfl, hZ, hh⟩ := hP
  have hx := Bd.exec
  have hby := Bd.bytes
  have hml : c.maxLocals = 1 := hml0
  have hown : s.vm.findClass "com/example/edictum/edictum/io/XpathTokens$Kind" = some m.cls := findClass_of_methodNamed Bd.named
  have hnm := (name_of_methodNamed Bd.named Bd.method).1
  have X0 : Stand p l e ({ frames := 0, cells := 0, slots := 0, locals := 0 } : Room) s m #[(.ref w7)] below meth c s₁ [] 0 0 := Stand.of_body Bd
  have e0 : s₁.heap = h0 := by rw [← hh, Bd.state]; rfl
  have N0 := Fr.nil n0
  have pre0 : ∀ t, SF p e below s₁ (mkF m 0 #[rv w7] []) t → SF p e below s₁ (entryFrame m #[(.ref w7)] 1) t := fun t k => castTop (ef_0 m w7) k
  obtain ⟨T1, X1, e1, st1⟩ := getS2 X0 hx hZ hown (host := "") (Or.inl (tw hw 47 rfl)) Via.refl e0 (Sg0.ext P2.2) (g := (mkF m 1 #[rv w7] [(.ref w7)])) rfl (hb hby d1_1)
  obtain ⟨T2, X2, e2, st2⟩ := getS2 X1 hx hZ hown (host := "") (Or.inl (tw hw 48 rfl)) Via.refl e1 (Sg20.ext P2.2) (g := (mkF m 8 #[rv w7] [(.ref w7)])) rfl (hb hby d1_8)
  obtain ⟨T3, X3, e3, st3⟩ := getS2 X2 hx hZ hown (host := "") (Or.inl (tw hw 49 rfl)) Via.refl e2 (Sg24.ext P2.2) (g := (mkF m 15 #[rv w7] [(.ref w7)])) rfl (hb hby d1_15)
  obtain ⟨T4, X4, e4, st4⟩ := getS2 X3 hx hZ hown (host := "") (Or.inl (tw hw 50 rfl)) Via.refl e3 (Sg26.ext P2.2) (g := (mkF m 22 #[rv w7] [(.ref w7)])) rfl (hb hby d1_22)
  obtain ⟨T5, X5, e5, st5⟩ := getS2 X4 hx hZ hown (host := "") (Or.inl (tw hw 51 rfl)) Via.refl e4 (Sg28.ext P2.2) (g := (mkF m 29 #[rv w7] [(.ref w7)])) rfl (hb hby d1_29)
  obtain ⟨T6, X6, e6, st6⟩ := getS2 X5 hx hZ hown (host := "") (Or.inl (tw hw 52 rfl)) Via.refl e5 (Sg30.ext P2.2) (g := (mkF m 36 #[rv w7] [(.ref w7)])) rfl (hb hby d1_36)
  obtain ⟨fs, hr, hrun, hended, hW, hsame⟩ := X6.leave (v := some (.int 0)) (fun h => by rw [Bd.returns] at h; cases h)
  refine ⟨_, _, pre0 _ ?_, hrun, hended, _, _, rfl, ?_, ⟨_, rfl⟩, hW, hsame.mono (by decide) (by decide)⟩
  · show SF p e below s₁ (mkF m 0 #[rv w7] []) _
    refine XS.aloadN X0.here hx rfl (hb hby d1_0) rfl rfl ?_
    show SF p e below s₁ (mkF m 1 #[rv w7] [(.ref w7)]) _
    refine st1 _ ?_
    show SF p e below T1 (mkF m 4 #[rv w7] [(.ref w1), (.ref w7)]) _
    refine Jvm.RoadKit.acmp (g := (mkF m 4 #[rv w7] [(.ref w1), (.ref w7)])) X1 hx rfl rfl rfl (pc0 := 4) (pc' := 7) (same := false) rfl (hb hby d1_4) rfl (decide_eq_false fun q => (Fld.ne F_w7_ordinal F_w1_ordinal (by decide)) (Value.ref.inj q)) (by decide) (by decide) ?_
    show SF p e below T1 (mkF m 7 #[rv w7] []) _
    refine XS.aloadN X1.here hx rfl (hb hby d1_7) rfl rfl ?_
    show SF p e below T1 (mkF m 8 #[rv w7] [(.ref w7)]) _
    refine st2 _ ?_
    show SF p e below T2 (mkF m 11 #[rv w7] [(.ref w11), (.ref w7)]) _
    refine Jvm.RoadKit.acmp (g := (mkF m 11 #[rv w7] [(.ref w11), (.ref w7)])) X2 hx rfl rfl rfl (pc0 := 11) (pc' := 14) (same := false) rfl (hb hby d1_11) rfl (decide_eq_false fun q => (Fld.ne F_w7_ordinal F_w11_ordinal (by decide)) (Value.ref.inj q)) (by decide) (by decide) ?_
    show SF p e below T2 (mkF m 14 #[rv w7] []) _
    refine XS.aloadN X2.here hx rfl (hb hby d1_14) rfl rfl ?_
    show SF p e below T2 (mkF m 15 #[rv w7] [(.ref w7)]) _
    refine st3 _ ?_
    show SF p e below T3 (mkF m 18 #[rv w7] [(.ref w13), (.ref w7)]) _
    refine Jvm.RoadKit.acmp (g := (mkF m 18 #[rv w7] [(.ref w13), (.ref w7)])) X3 hx rfl rfl rfl (pc0 := 18) (pc' := 21) (same := false) rfl (hb hby d1_18) rfl (decide_eq_false fun q => (Fld.ne F_w7_ordinal F_w13_ordinal (by decide)) (Value.ref.inj q)) (by decide) (by decide) ?_
    show SF p e below T3 (mkF m 21 #[rv w7] []) _
    refine XS.aloadN X3.here hx rfl (hb hby d1_21) rfl rfl ?_
    show SF p e below T3 (mkF m 22 #[rv w7] [(.ref w7)]) _
    refine st4 _ ?_
    show SF p e below T4 (mkF m 25 #[rv w7] [(.ref w14), (.ref w7)]) _
    refine Jvm.RoadKit.acmp (g := (mkF m 25 #[rv w7] [(.ref w14), (.ref w7)])) X4 hx rfl rfl rfl (pc0 := 25) (pc' := 28) (same := false) rfl (hb hby d1_25) rfl (decide_eq_false fun q => (Fld.ne F_w7_ordinal F_w14_ordinal (by decide)) (Value.ref.inj q)) (by decide) (by decide) ?_
    show SF p e below T4 (mkF m 28 #[rv w7] []) _
    refine XS.aloadN X4.here hx rfl (hb hby d1_28) rfl rfl ?_
    show SF p e below T4 (mkF m 29 #[rv w7] [(.ref w7)]) _
    refine st5 _ ?_
    show SF p e below T5 (mkF m 32 #[rv w7] [(.ref w15), (.ref w7)]) _
    refine Jvm.RoadKit.acmp (g := (mkF m 32 #[rv w7] [(.ref w15), (.ref w7)])) X5 hx rfl rfl rfl (pc0 := 32) (pc' := 35) (same := false) rfl (hb hby d1_32) rfl (decide_eq_false fun q => (Fld.ne F_w7_ordinal F_w15_ordinal (by decide)) (Value.ref.inj q)) (by decide) (by decide) ?_
    show SF p e below T5 (mkF m 35 #[rv w7] []) _
    refine XS.aloadN X5.here hx rfl (hb hby d1_35) rfl rfl ?_
    show SF p e below T5 (mkF m 36 #[rv w7] [(.ref w7)]) _
    refine st6 _ ?_
    show SF p e below T6 (mkF m 39 #[rv w7] [(.ref w16), (.ref w7)]) _
    refine Jvm.RoadKit.acmp (g := (mkF m 39 #[rv w7] [(.ref w16), (.ref w7)])) X6 hx rfl rfl rfl (pc0 := 39) (pc' := 46) (same := false) rfl (hb hby d1_39) rfl (decide_eq_false fun q => (Fld.ne F_w7_ordinal F_w16_ordinal (by decide)) (Value.ref.inj q)) (by decide) (by decide) ?_
    show SF p e below T6 (mkF m 46 #[rv w7] []) _
    refine XS.iconst X6.here hx rfl (hb hby d1_46) ?_
    show SF p e below T6 (mkF m 47 #[rv w7] [(.int 0)]) _
    exact retN X6 hx (t := .boolean) Bd.returns (by simp) (hb hby d1_47) hr
  · show Q1_7 Z w7 w1 w11 w13 w14 w15 w16 h0 n0 _ T6.heap _
    rw [e6]
    exact ⟨rfl, N0, rfl⟩
-- XpathTokens$Kind.beginsStep 
def Q1_8 (Z : State) (w8 : Addr) (w1 : Addr) (w11 : Addr) (w13 : Addr) (w14 : Addr) (w15 : Addr) (w16 : Addr) (h0 : Heap) (n0 : Nat) (v : Option Value) (h : Heap) (L : List Loc) : Prop := v = some (.int 0) ∧ Fr n0 L ∧ h = h0
set_option maxRecDepth 65536 in
set_option maxHeartbeats 40000000 in
theorem rm1_8 (l : Launch) (Z : State) (a0 : Array Value) (hw : HW Z a0) (ws : List Jvm.Cond) (w8 : Addr) (w1 : Addr) (w11 : Addr) (w13 : Addr) (w14 : Addr) (w15 : Addr) (w16 : Addr) (h0 : Heap) (n0 : Nat) (Z0 : n0 ≤ h0.size) (Sg0 : Sta Z Z.heap "com/example/edictum/edictum/io/XpathTokens$Kind" "AT" "Lcom/example/edictum/edictum/io/XpathTokens$Kind;" (.ref w1)) (P2 : Old Z n0 h0) (F_w8_ordinal : Fld Z Z.heap w8 "java/lang/Enum" "ordinal" "I" (.int 7)) (F_w1_ordinal : Fld Z Z.heap w1 "java/lang/Enum" "ordinal" "I" (.int 0)) (Sg20 : Sta Z Z.heap "com/example/edictum/edictum/io/XpathTokens$Kind" "AXIS" "Lcom/example/edictum/edictum/io/XpathTokens$Kind;" (.ref w11)) (F_w11_ordinal : Fld Z Z.heap w11 "java/lang/Enum" "ordinal" "I" (.int 10)) (Sg24 : Sta Z Z.heap "com/example/edictum/edictum/io/XpathTokens$Kind" "NODE_TYPE" "Lcom/example/edictum/edictum/io/XpathTokens$Kind;" (.ref w13)) (F_w13_ordinal : Fld Z Z.heap w13 "java/lang/Enum" "ordinal" "I" (.int 12)) (Sg26 : Sta Z Z.heap "com/example/edictum/edictum/io/XpathTokens$Kind" "NAME_TEST" "Lcom/example/edictum/edictum/io/XpathTokens$Kind;" (.ref w14)) (F_w14_ordinal : Fld Z Z.heap w14 "java/lang/Enum" "ordinal" "I" (.int 13)) (Sg28 : Sta Z Z.heap "com/example/edictum/edictum/io/XpathTokens$Kind" "DOT" "Lcom/example/edictum/edictum/io/XpathTokens$Kind;" (.ref w15)) (F_w15_ordinal : Fld Z Z.heap w15 "java/lang/Enum" "ordinal" "I" (.int 14)) (Sg30 : Sta Z Z.heap "com/example/edictum/edictum/io/XpathTokens$Kind" "DOT_DOT" "Lcom/example/edictum/edictum/io/XpathTokens$Kind;" (.ref w16)) (F_w16_ordinal : Fld Z Z.heap w16 "java/lang/Enum" "ordinal" "I" (.int 15)) :
    MF l Z (⟨"com/example/edictum/edictum/io/XpathTokens$Kind", "beginsStep", "()Z"⟩ : MethodName) (Jvm.Cond.code (⟨"com/example/edictum/edictum/io/XpathTokens$Kind", "beginsStep", "()Z"⟩ : MethodName) prog_252_method_5_code 1 (some .boolean)) ws ({ frames := 0, cells := 0, slots := 0, locals := 0 } : Room) #[(.ref w8)] h0 (Q1_8 Z w8 w1 w11 w13 w14 w15 w16 h0 n0) := by
  refine MetFree.of_bodySF (plainFor_of_name pn_0) hisR ?_
  intro p e s m args below meth c s₁ Bd hml0 hP hK
  obtain ⟨rfl, hZ, hh⟩ := hP
  have hx := Bd.exec
  have hby := Bd.bytes
  have hml : c.maxLocals = 1 := hml0
  have hown : s.vm.findClass "com/example/edictum/edictum/io/XpathTokens$Kind" = some m.cls := findClass_of_methodNamed Bd.named
  have hnm := (name_of_methodNamed Bd.named Bd.method).1
  have X0 : Stand p l e ({ frames := 0, cells := 0, slots := 0, locals := 0 } : Room) s m #[(.ref w8)] below meth c s₁ [] 0 0 := Stand.of_body Bd
  have e0 : s₁.heap = h0 := by rw [← hh, Bd.state]; rfl
  have N0 := Fr.nil n0
  have pre0 : ∀ t, SF p e below s₁ (mkF m 0 #[rv w8] []) t → SF p e below s₁ (entryFrame m #[(.ref w8)] 1) t := fun t k => castTop (ef_0 m w8) k
  obtain ⟨T1, X1, e1, st1⟩ := getS2 X0 hx hZ hown (host := "") (Or.inl (tw hw 47 rfl)) Via.refl e0 (Sg0.ext P2.2) (g := (mkF m 1 #[rv w8] [(.ref w8)])) rfl (hb hby d1_1)
  obtain ⟨T2, X2, e2, st2⟩ := getS2 X1 hx hZ hown (host := "") (Or.inl (tw hw 48 rfl)) Via.refl e1 (Sg20.ext P2.2) (g := (mkF m 8 #[rv w8] [(.ref w8)])) rfl (hb hby d1_8)
  obtain ⟨T3, X3, e3, st3⟩ := getS2 X2 hx hZ hown (host := "") (Or.inl (tw hw 49 rfl)) Via.refl e2 (Sg24.ext P2.2) (g := (mkF m 15 #[rv w8] [(.ref w8)])) rfl (hb hby d1_15)
  obtain ⟨T4, X4, e4, st4⟩ := getS2 X3 hx hZ hown (host := "") (Or.inl (tw hw 50 rfl)) Via.refl e3 (Sg26.ext P2.2) (g := (mkF m 22 #[rv w8] [(.ref w8)])) rfl (hb hby d1_22)
  obtain ⟨T5, X5, e5, st5⟩ := getS2 X4 hx hZ hown (host := "") (Or.inl (tw hw 51 rfl)) Via.refl e4 (Sg28.ext P2.2) (g := (mkF m 29 #[rv w8] [(.ref w8)])) rfl (hb hby d1_29)
  obtain ⟨T6, X6, e6, st6⟩ := getS2 X5 hx hZ hown (host := "") (Or.inl (tw hw 52 rfl)) Via.refl e5 (Sg30.ext P2.2) (g := (mkF m 36 #[rv w8] [(.ref w8)])) rfl (hb hby d1_36)
  obtain ⟨fs, hr, hrun, hended, hW, hsame⟩ := X6.leave (v := some (.int 0)) (fun h => by rw [Bd.returns] at h; cases h)
  refine ⟨_, _, pre0 _ ?_, hrun, hended, _, _, rfl, ?_, ⟨_, rfl⟩, hW, hsame.mono (by decide) (by decide)⟩
  · show SF p e below s₁ (mkF m 0 #[rv w8] []) _
    refine XS.aloadN X0.here hx rfl (hb hby d1_0) rfl rfl ?_
    show SF p e below s₁ (mkF m 1 #[rv w8] [(.ref w8)]) _
    refine st1 _ ?_
    show SF p e below T1 (mkF m 4 #[rv w8] [(.ref w1), (.ref w8)]) _
    refine Jvm.RoadKit.acmp (g := (mkF m 4 #[rv w8] [(.ref w1), (.ref w8)])) X1 hx rfl rfl rfl (pc0 := 4) (pc' := 7) (same := false) rfl (hb hby d1_4) rfl (decide_eq_false fun q => (Fld.ne F_w8_ordinal F_w1_ordinal (by decide)) (Value.ref.inj q)) (by decide) (by decide) ?_
    show SF p e below T1 (mkF m 7 #[rv w8] []) _
    refine XS.aloadN X1.here hx rfl (hb hby d1_7) rfl rfl ?_
    show SF p e below T1 (mkF m 8 #[rv w8] [(.ref w8)]) _
    refine st2 _ ?_
    show SF p e below T2 (mkF m 11 #[rv w8] [(.ref w11), (.ref w8)]) _
    refine Jvm.RoadKit.acmp (g := (mkF m 11 #[rv w8] [(.ref w11), (.ref w8)])) X2 hx rfl rfl rfl (pc0 := 11) (pc' := 14) (same := false) rfl (hb hby d1_11) rfl (decide_eq_false fun q => (Fld.ne F_w8_ordinal F_w11_ordinal (by decide)) (Value.ref.inj q)) (by decide) (by decide) ?_
    show SF p e below T2 (mkF m 14 #[rv w8] []) _
    refine XS.aloadN X2.here hx rfl (hb hby d1_14) rfl rfl ?_
    show SF p e below T2 (mkF m 15 #[rv w8] [(.ref w8)]) _
    refine st3 _ ?_
    show SF p e below T3 (mkF m 18 #[rv w8] [(.ref w13), (.ref w8)]) _
    refine Jvm.RoadKit.acmp (g := (mkF m 18 #[rv w8] [(.ref w13), (.ref w8)])) X3 hx rfl rfl rfl (pc0 := 18) (pc' := 21) (same := false) rfl (hb hby d1_18) rfl (decide_eq_false fun q => (Fld.ne F_w8_ordinal F_w13_ordinal (by decide)) (Value.ref.inj q)) (by decide) (by decide) ?_
    show SF p e below T3 (mkF m 21 #[rv w8] []) _
    refine XS.aloadN X3.here hx rfl (hb hby d1_21) rfl rfl ?_
    show SF p e below T3 (mkF m 22 #[rv w8] [(.ref w8)]) _
    refine st4 _ ?_
    show SF p e below T4 (mkF m 25 #[rv w8] [(.ref w14), (.ref w8)]) _
    refine Jvm.RoadKit.acmp (g := (mkF m 25 #[rv w8] [(.ref w14), (.ref w8)])) X4 hx rfl rfl rfl (pc0 := 25) (pc' := 28) (same := false) rfl (hb hby d1_25) rfl (decide_eq_false fun q => (Fld.ne F_w8_ordinal F_w14_ordinal (by decide)) (Value.ref.inj q)) (by decide) (by decide) ?_
    show SF p e below T4 (mkF m 28 #[rv w8] []) _
    refine XS.aloadN X4.here hx rfl (hb hby d1_28) rfl rfl ?_
    show SF p e below T4 (mkF m 29 #[rv w8] [(.ref w8)]) _
    refine st5 _ ?_
    show SF p e below T5 (mkF m 32 #[rv w8] [(.ref w15), (.ref w8)]) _
    refine Jvm.RoadKit.acmp (g := (mkF m 32 #[rv w8] [(.ref w15), (.ref w8)])) X5 hx rfl rfl rfl (pc0 := 32) (pc' := 35) (same := false) rfl (hb hby d1_32) rfl (decide_eq_false fun q => (Fld.ne F_w8_ordinal F_w15_ordinal (by decide)) (Value.ref.inj q)) (by decide) (by decide) ?_
    show SF p e below T5 (mkF m 35 #[rv w8] []) _
    refine XS.aloadN X5.here hx rfl (hb hby d1_35) rfl rfl ?_
    show SF p e below T5 (mkF m 36 #[rv w8] [(.ref w8)]) _
    refine st6 _ ?_
    show SF p e below T6 (mkF m 39 #[rv w8] [(.ref w16), (.ref w8)]) _
    refine Jvm.RoadKit.acmp (g := (mkF m 39 #[rv w8] [(.ref w16), (.ref w8)])) X6 hx rfl rfl rfl (pc0 := 39) (pc' := 46) (same := false) rfl (hb hby d1_39) rfl (decide_eq_false fun q => (Fld.ne F_w8_ordinal F_w16_ordinal (by decide)) (Value.ref.inj q)) (by decide) (by decide) ?_
    show SF p e below T6 (mkF m 46 #[rv w8] []) _
    refine XS.iconst X6.here hx rfl (hb hby d1_46) ?_
    show SF p e below T6 (mkF m 47 #[rv w8] [(.int 0)]) _
    exact retN X6 hx (t := .boolean) Bd.returns (by simp) (hb hby d1_47) hr
  · show Q1_8 Z w8 w1 w11 w13 w14 w15 w16 h0 n0 _ T6.heap _
    rw [e6]
    exact ⟨rfl, N0, rfl⟩
-- XpathTokens$Kind.beginsStep 
def Q1_9 (Z : State) (w9 : Addr) (w1 : Addr) (w11 : Addr) (w13 : Addr) (w14 : Addr) (w15 : Addr) (w16 : Addr) (h0 : Heap) (n0 : Nat) (v : Option Value) (h : Heap) (L : List Loc) : Prop := v = some (.int 0) ∧ Fr n0 L ∧ h = h0
set_option maxRecDepth 65536 in
set_option maxHeartbeats 40000000 in
theorem rm1_9 (l : Launch) (Z : State) (a0 : Array Value) (hw : HW Z a0) (ws : List Jvm.Cond) (w9 : Addr) (w1 : Addr) (w11 : Addr) (w13 : Addr) (w14 : Addr) (w15 : Addr) (w16 : Addr) (h0 : Heap) (n0 : Nat) (Z0 : n0 ≤ h0.size) (Sg0 : Sta Z Z.heap "com/example/edictum/edictum/io/XpathTokens$Kind" "AT" "Lcom/example/edictum/edictum/io/XpathTokens$Kind;" (.ref w1)) (P2 : Old Z n0 h0) (F_w9_ordinal : Fld Z Z.heap w9 "java/lang/Enum" "ordinal" "I" (.int 8)) (F_w1_ordinal : Fld Z Z.heap w1 "java/lang/Enum" "ordinal" "I" (.int 0)) (Sg20 : Sta Z Z.heap "com/example/edictum/edictum/io/XpathTokens$Kind" "AXIS" "Lcom/example/edictum/edictum/io/XpathTokens$Kind;" (.ref w11)) (F_w11_ordinal : Fld Z Z.heap w11 "java/lang/Enum" "ordinal" "I" (.int 10)) (Sg24 : Sta Z Z.heap "com/example/edictum/edictum/io/XpathTokens$Kind" "NODE_TYPE" "Lcom/example/edictum/edictum/io/XpathTokens$Kind;" (.ref w13)) (F_w13_ordinal : Fld Z Z.heap w13 "java/lang/Enum" "ordinal" "I" (.int 12)) (Sg26 : Sta Z Z.heap "com/example/edictum/edictum/io/XpathTokens$Kind" "NAME_TEST" "Lcom/example/edictum/edictum/io/XpathTokens$Kind;" (.ref w14)) (F_w14_ordinal : Fld Z Z.heap w14 "java/lang/Enum" "ordinal" "I" (.int 13)) (Sg28 : Sta Z Z.heap "com/example/edictum/edictum/io/XpathTokens$Kind" "DOT" "Lcom/example/edictum/edictum/io/XpathTokens$Kind;" (.ref w15)) (F_w15_ordinal : Fld Z Z.heap w15 "java/lang/Enum" "ordinal" "I" (.int 14)) (Sg30 : Sta Z Z.heap "com/example/edictum/edictum/io/XpathTokens$Kind" "DOT_DOT" "Lcom/example/edictum/edictum/io/XpathTokens$Kind;" (.ref w16)) (F_w16_ordinal : Fld Z Z.heap w16 "java/lang/Enum" "ordinal" "I" (.int 15)) :
    MF l Z (⟨"com/example/edictum/edictum/io/XpathTokens$Kind", "beginsStep", "()Z"⟩ : MethodName) (Jvm.Cond.code (⟨"com/example/edictum/edictum/io/XpathTokens$Kind", "beginsStep", "()Z"⟩ : MethodName) prog_252_method_5_code 1 (some .boolean)) ws ({ frames := 0, cells := 0, slots := 0, locals := 0 } : Room) #[(.ref w9)] h0 (Q1_9 Z w9 w1 w11 w13 w14 w15 w16 h0 n0) := by
  refine MetFree.of_bodySF (plainFor_of_name pn_0) hisR ?_
  intro p e s m args below meth c s₁ Bd hml0 hP hK
  obtain ⟨rfl, hZ, hh⟩ := hP
  have hx := Bd.exec
  have hby := Bd.bytes
  have hml : c.maxLocals = 1 := hml0
  have hown : s.vm.findClass "com/example/edictum/edictum/io/XpathTokens$Kind" = some m.cls := findClass_of_methodNamed Bd.named
  have hnm := (name_of_methodNamed Bd.named Bd.method).1
  have X0 : Stand p l e ({ frames := 0, cells := 0, slots := 0, locals := 0 } : Room) s m #[(.ref w9)] below meth c s₁ [] 0 0 := Stand.of_body Bd
  have e0 : s₁.heap = h0 := by rw [← hh, Bd.state]; rfl
  have N0 := Fr.nil n0
  have pre0 : ∀ t, SF p e below s₁ (mkF m 0 #[rv w9] []) t → SF p e below s₁ (entryFrame m #[(.ref w9)] 1) t := fun t k => castTop (ef_0 m w9) k
  obtain ⟨T1, X1, e1, st1⟩ := getS2 X0 hx hZ hown (host := "") (Or.inl (tw hw 47 rfl)) Via.refl e0 (Sg0.ext P2.2) (g := (mkF m 1 #[rv w9] [(.ref w9)])) rfl (hb hby d1_1)
  obtain ⟨T2, X2, e2, st2⟩ := getS2 X1 hx hZ hown (host := "") (Or.inl (tw hw 48 rfl)) Via.refl e1 (Sg20.ext P2.2) (g := (mkF m 8 #[rv w9] [(.ref w9)])) rfl (hb hby d1_8)
  obtain ⟨T3, X3, e3, st3⟩ := getS2 X2 hx hZ hown (host := "") (Or.inl (tw hw 49 rfl)) Via.refl e2 (Sg24.ext P2.2) (g := (mkF m 15 #[rv w9] [(.ref w9)])) rfl (hb hby d1_15)
  obtain ⟨T4, X4, e4, st4⟩ := getS2 X3 hx hZ hown (host := "") (Or.inl (tw hw 50 rfl)) Via.refl e3 (Sg26.ext P2.2) (g := (mkF m 22 #[rv w9] [(.ref w9)])) rfl (hb hby d1_22)
  obtain ⟨T5, X5, e5, st5⟩ := getS2 X4 hx hZ hown (host := "") (Or.inl (tw hw 51 rfl)) Via.refl e4 (Sg28.ext P2.2) (g := (mkF m 29 #[rv w9] [(.ref w9)])) rfl (hb hby d1_29)
  obtain ⟨T6, X6, e6, st6⟩ := getS2 X5 hx hZ hown (host := "") (Or.inl (tw hw 52 rfl)) Via.refl e5 (Sg30.ext P2.2) (g := (mkF m 36 #[rv w9] [(.ref w9)])) rfl (hb hby d1_36)
  obtain ⟨fs, hr, hrun, hended, hW, hsame⟩ := X6.leave (v := some (.int 0)) (fun h => by rw [Bd.returns] at h; cases h)
  refine ⟨_, _, pre0 _ ?_, hrun, hended, _, _, rfl, ?_, ⟨_, rfl⟩, hW, hsame.mono (by decide) (by decide)⟩
  · show SF p e below s₁ (mkF m 0 #[rv w9] []) _
    refine XS.aloadN X0.here hx rfl (hb hby d1_0) rfl rfl ?_
    show SF p e below s₁ (mkF m 1 #[rv w9] [(.ref w9)]) _
    refine st1 _ ?_
    show SF p e below T1 (mkF m 4 #[rv w9] [(.ref w1), (.ref w9)]) _
    refine Jvm.RoadKit.acmp (g := (mkF m 4 #[rv w9] [(.ref w1), (.ref w9)])) X1 hx rfl rfl rfl (pc0 := 4) (pc' := 7) (same := false) rfl (hb hby d1_4) rfl (decide_eq_false fun q => (Fld.ne F_w9_ordinal F_w1_ordinal (by decide)) (Value.ref.inj q)) (by decide) (by decide) ?_
    show SF p e below T1 (mkF m 7 #[rv w9] []) _
    refine XS.aloadN X1.here hx rfl (hb hby d1_7) rfl rfl ?_
    show SF p e below T1 (mkF m 8 #[rv w9] [(.ref w9)]) _
    refine st2 _ ?_
    show SF p e below T2 (mkF m 11 #[rv w9] [(.ref w11), (.ref w9)]) _
    refine Jvm.RoadKit.acmp (g := (mkF m 11 #[rv w9] [(.ref w11), (.ref w9)])) X2 hx rfl rfl rfl (pc0 := 11) (pc' := 14) (same := false) rfl (hb hby d1_11) rfl (decide_eq_false fun q => (Fld.ne F_w9_ordinal F_w11_ordinal (by decide)) (Value.ref.inj q)) (by decide) (by decide) ?_
    show SF p e below T2 (mkF m 14 #[rv w9] []) _
    refine XS.aloadN X2.here hx rfl (hb hby d1_14) rfl rfl ?_
    show SF p e below T2 (mkF m 15 #[rv w9] [(.ref w9)]) _
    refine st3 _ ?_
    show SF p e below T3 (mkF m 18 #[rv w9] [(.ref w13), (.ref w9)]) _
    refine Jvm.RoadKit.acmp (g := (mkF m 18 #[rv w9] [(.ref w13), (.ref w9)])) X3 hx rfl rfl rfl (pc0 := 18) (pc' := 21) (same := false) rfl (hb hby d1_18) rfl (decide_eq_false fun q => (Fld.ne F_w9_ordinal F_w13_ordinal (by decide)) (Value.ref.inj q)) (by decide) (by decide) ?_
    show SF p e below T3 (mkF m 21 #[rv w9] []) _
    refine XS.aloadN X3.here hx rfl (hb hby d1_21) rfl rfl ?_
    show SF p e below T3 (mkF m 22 #[rv w9] [(.ref w9)]) _
    refine st4 _ ?_
    show SF p e below T4 (mkF m 25 #[rv w9] [(.ref w14), (.ref w9)]) _
    refine Jvm.RoadKit.acmp (g := (mkF m 25 #[rv w9] [(.ref w14), (.ref w9)])) X4 hx rfl rfl rfl (pc0 := 25) (pc' := 28) (same := false) rfl (hb hby d1_25) rfl (decide_eq_false fun q => (Fld.ne F_w9_ordinal F_w14_ordinal (by decide)) (Value.ref.inj q)) (by decide) (by decide) ?_
    show SF p e below T4 (mkF m 28 #[rv w9] []) _
    refine XS.aloadN X4.here hx rfl (hb hby d1_28) rfl rfl ?_
    show SF p e below T4 (mkF m 29 #[rv w9] [(.ref w9)]) _
    refine st5 _ ?_
    show SF p e below T5 (mkF m 32 #[rv w9] [(.ref w15), (.ref w9)]) _
    refine Jvm.RoadKit.acmp (g := (mkF m 32 #[rv w9] [(.ref w15), (.ref w9)])) X5 hx rfl rfl rfl (pc0 := 32) (pc' := 35) (same := false) rfl (hb hby d1_32) rfl (decide_eq_false fun q => (Fld.ne F_w9_ordinal F_w15_ordinal (by decide)) (Value.ref.inj q)) (by decide) (by decide) ?_
    show SF p e below T5 (mkF m 35 #[rv w9] []) _
    refine XS.aloadN X5.here hx rfl (hb hby d1_35) rfl rfl ?_
    show SF p e below T5 (mkF m 36 #[rv w9] [(.ref w9)]) _
    refine st6 _ ?_
    show SF p e below T6 (mkF m 39 #[rv w9] [(.ref w16), (.ref w9)]) _
    refine Jvm.RoadKit.acmp (g := (mkF m 39 #[rv w9] [(.ref w16), (.ref w9)])) X6 hx rfl rfl rfl (pc0 := 39) (pc' := 46) (same := false) rfl (hb hby d1_39) rfl (decide_eq_false fun q => (Fld.ne F_w9_ordinal F_w16_ordinal (by decide)) (Value.ref.inj q)) (by decide) (by decide) ?_
    show SF p e below T6 (mkF m 46 #[rv w9] []) _
    refine XS.iconst X6.here hx rfl (hb hby d1_46) ?_
    show SF p e below T6 (mkF m 47 #[rv w9] [(.int 0)]) _
    exact retN X6 hx (t := .boolean) Bd.returns (by simp) (hb hby d1_47) hr
  · show Q1_9 Z w9 w1 w11 w13 w14 w15 w16 h0 n0 _ T6.heap _
    rw [e6]
    exact ⟨rfl, N0, rfl⟩
-- XpathTokens$Kind.beginsStep 
def Q1_10 (Z : State) (w10 : Addr) (w1 : Addr) (w11 : Addr) (w13 : Addr) (w14 : Addr) (w15 : Addr) (w16 : Addr) (h0 : Heap) (n0 : Nat) (v : Option Value) (h : Heap) (L : List Loc) : Prop := v = some (.int 0) ∧ Fr n0 L ∧ h = h0
set_option maxRecDepth 65536 in
set_option maxHeartbeats 40000000 in
theorem rm1_10 (l : Launch) (Z : State) (a0 : Array Value) (hw : HW Z a0) (ws : List Jvm.Cond) (w10 : Addr) (w1 : Addr) (w11 : Addr) (w13 : Addr) (w14 : Addr) (w15 : Addr) (w16 : Addr) (h0 : Heap) (n0 : Nat) (Z0 : n0 ≤ h0.size) (Sg0 : Sta Z Z.heap "com/example/edictum/edictum/io/XpathTokens$Kind" "AT" "Lcom/example/edictum/edictum/io/XpathTokens$Kind;" (.ref w1)) (P2 : Old Z n0 h0) (F_w10_ordinal : Fld Z Z.heap w10 "java/lang/Enum" "ordinal" "I" (.int 9)) (F_w1_ordinal : Fld Z Z.heap w1 "java/lang/Enum" "ordinal" "I" (.int 0)) (Sg20 : Sta Z Z.heap "com/example/edictum/edictum/io/XpathTokens$Kind" "AXIS" "Lcom/example/edictum/edictum/io/XpathTokens$Kind;" (.ref w11)) (F_w11_ordinal : Fld Z Z.heap w11 "java/lang/Enum" "ordinal" "I" (.int 10)) (Sg24 : Sta Z Z.heap "com/example/edictum/edictum/io/XpathTokens$Kind" "NODE_TYPE" "Lcom/example/edictum/edictum/io/XpathTokens$Kind;" (.ref w13)) (F_w13_ordinal : Fld Z Z.heap w13 "java/lang/Enum" "ordinal" "I" (.int 12)) (Sg26 : Sta Z Z.heap "com/example/edictum/edictum/io/XpathTokens$Kind" "NAME_TEST" "Lcom/example/edictum/edictum/io/XpathTokens$Kind;" (.ref w14)) (F_w14_ordinal : Fld Z Z.heap w14 "java/lang/Enum" "ordinal" "I" (.int 13)) (Sg28 : Sta Z Z.heap "com/example/edictum/edictum/io/XpathTokens$Kind" "DOT" "Lcom/example/edictum/edictum/io/XpathTokens$Kind;" (.ref w15)) (F_w15_ordinal : Fld Z Z.heap w15 "java/lang/Enum" "ordinal" "I" (.int 14)) (Sg30 : Sta Z Z.heap "com/example/edictum/edictum/io/XpathTokens$Kind" "DOT_DOT" "Lcom/example/edictum/edictum/io/XpathTokens$Kind;" (.ref w16)) (F_w16_ordinal : Fld Z Z.heap w16 "java/lang/Enum" "ordinal" "I" (.int 15)) :
    MF l Z (⟨"com/example/edictum/edictum/io/XpathTokens$Kind", "beginsStep", "()Z"⟩ : MethodName) (Jvm.Cond.code (⟨"com/example/edictum/edictum/io/XpathTokens$Kind", "beginsStep", "()Z"⟩ : MethodName) prog_252_method_5_code 1 (some .boolean)) ws ({ frames := 0, cells := 0, slots := 0, locals := 0 } : Room) #[(.ref w10)] h0 (Q1_10 Z w10 w1 w11 w13 w14 w15 w16 h0 n0) := by
  refine MetFree.of_bodySF (plainFor_of_name pn_0) hisR ?_
  intro p e s m args below meth c s₁ Bd hml0 hP hK
  obtain ⟨rfl, hZ, hh⟩ := hP
  have hx := Bd.exec
  have hby := Bd.bytes
  have hml : c.maxLocals = 1 := hml0
  have hown : s.vm.findClass "com/example/edictum/edictum/io/XpathTokens$Kind" = some m.cls := findClass_of_methodNamed Bd.named
  have hnm := (name_of_methodNamed Bd.named Bd.method).1
  have X0 : Stand p l e ({ frames := 0, cells := 0, slots := 0, locals := 0 } : Room) s m #[(.ref w10)] below meth c s₁ [] 0 0 := Stand.of_body Bd
  have e0 : s₁.heap = h0 := by rw [← hh, Bd.state]; rfl
  have N0 := Fr.nil n0
  have pre0 : ∀ t, SF p e below s₁ (mkF m 0 #[rv w10] []) t → SF p e below s₁ (entryFrame m #[(.ref w10)] 1) t := fun t k => castTop (ef_0 m w10) k
  obtain ⟨T1, X1, e1, st1⟩ := getS2 X0 hx hZ hown (host := "") (Or.inl (tw hw 47 rfl)) Via.refl e0 (Sg0.ext P2.2) (g := (mkF m 1 #[rv w10] [(.ref w10)])) rfl (hb hby d1_1)
  obtain ⟨T2, X2, e2, st2⟩ := getS2 X1 hx hZ hown (host := "") (Or.inl (tw hw 48 rfl)) Via.refl e1 (Sg20.ext P2.2) (g := (mkF m 8 #[rv w10] [(.ref w10)])) rfl (hb hby d1_8)
  obtain ⟨T3, X3, e3, st3⟩ := getS2 X2 hx hZ hown (host := "") (Or.inl (tw hw 49 rfl)) Via.refl e2 (Sg24.ext P2.2) (g := (mkF m 15 #[rv w10] [(.ref w10)])) rfl (hb hby d1_15)
  obtain ⟨T4, X4, e4, st4⟩ := getS2 X3 hx hZ hown (host := "") (Or.inl (tw hw 50 rfl)) Via.refl e3 (Sg26.ext P2.2) (g := (mkF m 22 #[rv w10] [(.ref w10)])) rfl (hb hby d1_22)
  obtain ⟨T5, X5, e5, st5⟩ := getS2 X4 hx hZ hown (host := "") (Or.inl (tw hw 51 rfl)) Via.refl e4 (Sg28.ext P2.2) (g := (mkF m 29 #[rv w10] [(.ref w10)])) rfl (hb hby d1_29)
  obtain ⟨T6, X6, e6, st6⟩ := getS2 X5 hx hZ hown (host := "") (Or.inl (tw hw 52 rfl)) Via.refl e5 (Sg30.ext P2.2) (g := (mkF m 36 #[rv w10] [(.ref w10)])) rfl (hb hby d1_36)
  obtain ⟨fs, hr, hrun, hended, hW, hsame⟩ := X6.leave (v := some (.int 0)) (fun h => by rw [Bd.returns] at h; cases h)
  refine ⟨_, _, pre0 _ ?_, hrun, hended, _, _, rfl, ?_, ⟨_, rfl⟩, hW, hsame.mono (by decide) (by decide)⟩
  · show SF p e below s₁ (mkF m 0 #[rv w10] []) _
    refine XS.aloadN X0.here hx rfl (hb hby d1_0) rfl rfl ?_
    show SF p e below s₁ (mkF m 1 #[rv w10] [(.ref w10)]) _
    refine st1 _ ?_
    show SF p e below T1 (mkF m 4 #[rv w10] [(.ref w1), (.ref w10)]) _
    refine Jvm.RoadKit.acmp (g := (mkF m 4 #[rv w10] [(.ref w1), (.ref w10)])) X1 hx rfl rfl rfl (pc0 := 4) (pc' := 7) (same := false) rfl (hb hby d1_4) rfl (decide_eq_false fun q => (Fld.ne F_w10_ordinal F_w1_ordinal (by decide)) (Value.ref.inj q)) (by decide) (by decide) ?_
    show SF p e below T1 (mkF m 7 #[rv w10] []) _
    refine XS.aloadN X1.here hx rfl (hb hby d1_7) rfl rfl ?_
    show SF p e below T1 (mkF m 8 #[rv w10] [(.ref w10)]) _
    refine st2 _ ?_
    show SF p e below T2 (mkF m 11 #[rv w10] [(.ref w11), (.ref w10)]) _
    refine Jvm.RoadKit.acmp (g := (mkF m 11 #[rv w10] [(.ref w11), (.ref w10)])) X2 hx rfl rfl rfl (pc0 := 11) (pc' := 14) (same := false) rfl (hb hby d1_11) rfl (decide_eq_false fun q => (Fld.ne F_w10_ordinal F_w11_ordinal (by decide)) (Value.ref.inj q)) (by decide) (by decide) ?_
    show SF p e below T2 (mkF m 14 #[rv w10] []) _
    refine XS.aloadN X2.here hx rfl (hb hby d1_14) rfl rfl ?_
    show SF p e below T2 (mkF m 15 #[rv w10] [(.ref w10)]) _
    refine st3 _ ?_
    show SF p e below T3 (mkF m 18 #[rv w10] [(.ref w13), (.ref w10)]) _
    refine Jvm.RoadKit.acmp (g := (mkF m 18 #[rv w10] [(.ref w13), (.ref w10)])) X3 hx rfl rfl rfl (pc0 := 18) (pc' := 21) (same := false) rfl (hb hby d1_18) rfl (decide_eq_false fun q => (Fld.ne F_w10_ordinal F_w13_ordinal (by decide)) (Value.ref.inj q)) (by decide) (by decide) ?_
    show SF p e below T3 (mkF m 21 #[rv w10] []) _
    refine XS.aloadN X3.here hx rfl (hb hby d1_21) rfl rfl ?_
    show SF p e below T3 (mkF m 22 #[rv w10] [(.ref w10)]) _
    refine st4 _ ?_
    show SF p e below T4 (mkF m 25 #[rv w10] [(.ref w14), (.ref w10)]) _
    refine Jvm.RoadKit.acmp (g := (mkF m 25 #[rv w10] [(.ref w14), (.ref w10)])) X4 hx rfl rfl rfl (pc0 := 25) (pc' := 28) (same := false) rfl (hb hby d1_25) rfl (decide_eq_false fun q => (Fld.ne F_w10_ordinal F_w14_ordinal (by decide)) (Value.ref.inj q)) (by decide) (by decide) ?_
    show SF p e below T4 (mkF m 28 #[rv w10] []) _
    refine XS.aloadN X4.here hx rfl (hb hby d1_28) rfl rfl ?_
    show SF p e below T4 (mkF m 29 #[rv w10] [(.ref w10)]) _
    refine st5 _ ?_
    show SF p e below T5 (mkF m 32 #[rv w10] [(.ref w15), (.ref w10)]) _
    refine Jvm.RoadKit.acmp (g := (mkF m 32 #[rv w10] [(.ref w15), (.ref w10)])) X5 hx rfl rfl rfl (pc0 := 32) (pc' := 35) (same := false) rfl (hb hby d1_32) rfl (decide_eq_false fun q => (Fld.ne F_w10_ordinal F_w15_ordinal (by decide)) (Value.ref.inj q)) (by decide) (by decide) ?_
    show SF p e below T5 (mkF m 35 #[rv w10] []) _
    refine XS.aloadN X5.here hx rfl (hb hby d1_35) rfl rfl ?_
    show SF p e below T5 (mkF m 36 #[rv w10] [(.ref w10)]) _
    refine st6 _ ?_
    show SF p e below T6 (mkF m 39 #[rv w10] [(.ref w16), (.ref w10)]) _
    refine Jvm.RoadKit.acmp (g := (mkF m 39 #[rv w10] [(.ref w16), (.ref w10)])) X6 hx rfl rfl rfl (pc0 := 39) (pc' := 46) (same := false) rfl (hb hby d1_39) rfl (decide_eq_false fun q => (Fld.ne F_w10_ordinal F_w16_ordinal (by decide)) (Value.ref.inj q)) (by decide) (by decide) ?_
    show SF p e below T6 (mkF m 46 #[rv w10] []) _
    refine XS.iconst X6.here hx rfl (hb hby d1_46) ?_
    show SF p e below T6 (mkF m 47 #[rv w10] [(.int 0)]) _
    exact retN X6 hx (t := .boolean) Bd.returns (by simp) (hb hby d1_47) hr
  · show Q1_10 Z w10 w1 w11 w13 w14 w15 w16 h0 n0 _ T6.heap _
    rw [e6]
    exact ⟨rfl, N0, rfl⟩
-- XpathTokens$Kind.beginsStep 
def Q1_11 (Z : State) (w11 : Addr) (w1 : Addr) (h0 : Heap) (n0 : Nat) (v : Option Value) (h : Heap) (L : List Loc) : Prop := v = some (.int 1) ∧ Fr n0 L ∧ h = h0
set_option maxRecDepth 65536 in
set_option maxHeartbeats 40000000 in
theorem rm1_11 (l : Launch) (Z : State) (a0 : Array Value) (hw : HW Z a0) (ws : List Jvm.Cond) (w11 : Addr) (w1 : Addr) (h0 : Heap) (n0 : Nat) (Z0 : n0 ≤ h0.size) (Sg0 : Sta Z Z.heap "com/example/edictum/edictum/io/XpathTokens$Kind" "AT" "Lcom/example/edictum/edictum/io/XpathTokens$Kind;" (.ref w1)) (P2 : Old Z n0 h0) (F_w11_ordinal : Fld Z Z.heap w11 "java/lang/Enum" "ordinal" "I" (.int 10)) (F_w1_ordinal : Fld Z Z.heap w1 "java/lang/Enum" "ordinal" "I" (.int 0)) (Sg20 : Sta Z Z.heap "com/example/edictum/edictum/io/XpathTokens$Kind" "AXIS" "Lcom/example/edictum/edictum/io/XpathTokens$Kind;" (.ref w11)) :
    MF l Z (⟨"com/example/edictum/edictum/io/XpathTokens$Kind", "beginsStep", "()Z"⟩ : MethodName) (Jvm.Cond.code (⟨"com/example/edictum/edictum/io/XpathTokens$Kind", "beginsStep", "()Z"⟩ : MethodName) prog_252_method_5_code 1 (some .boolean)) ws ({ frames := 0, cells := 0, slots := 0, locals := 0 } : Room) #[(.ref w11)] h0 (Q1_11 Z w11 w1 h0 n0) := by
  refine MetFree.of_bodySF (plainFor_of_name pn_0) hisR ?_
  intro p e s m args below meth c s₁ Bd hml0 hP hK
  obtain ⟨rfl, hZ, hh⟩ := hP
  have hx := Bd.exec
  have hby := Bd.bytes
  have hml : c.maxLocals = 1 := hml0
  have hown : s.vm.findClass "com/example/edictum/edictum/io/XpathTokens$Kind" = some m.cls := findClass_of_methodNamed Bd.named
  have hnm := (name_of_methodNamed Bd.named Bd.method).1
  have X0 : Stand p l e ({ frames := 0, cells := 0, slots := 0, locals := 0 } : Room) s m #[(.ref w11)] below meth c s₁ [] 0 0 := Stand.of_body Bd
  have e0 : s₁.heap = h0 := by rw [← hh, Bd.state]; rfl
  have N0 := Fr.nil n0
  have pre0 : ∀ t, SF p e below s₁ (mkF m 0 #[rv w11] []) t → SF p e below s₁ (entryFrame m #[(.ref w11)] 1) t := fun t k => castTop (ef_0 m w11) k
  obtain ⟨T1, X1, e1, st1⟩ := getS2 X0 hx hZ hown (host := "") (Or.inl (tw hw 47 rfl)) Via.refl e0 (Sg0.ext P2.2) (g := (mkF m 1 #[rv w11] [(.ref w11)])) rfl (hb hby d1_1)
  obtain ⟨T2, X2, e2, st2⟩ := getS2 X1 hx hZ hown (host := "") (Or.inl (tw hw 48 rfl)) Via.refl e1 (Sg20.ext P2.2) (g := (mkF m 8 #[rv w11] [(.ref w11)])) rfl (hb hby d1_8)
  obtain ⟨fs, hr, hrun, hended, hW, hsame⟩ := X2.leave (v := some (.int 1)) (fun h => by rw [Bd.returns] at h; cases h)
  refine ⟨_, _, pre0 _ ?_, hrun, hended, _, _, rfl, ?_, ⟨_, rfl⟩, hW, hsame.mono (by decide) (by decide)⟩
  · show SF p e below s₁ (mkF m 0 #[rv w11] []) _
    refine XS.aloadN X0.here hx rfl (hb hby d1_0) rfl rfl ?_
    show SF p e below s₁ (mkF m 1 #[rv w11] [(.ref w11)]) _
    refine st1 _ ?_
    show SF p e below T1 (mkF m 4 #[rv w11] [(.ref w1), (.ref w11)]) _
    refine Jvm.RoadKit.acmp (g := (mkF m 4 #[rv w11] [(.ref w1), (.ref w11)])) X1 hx rfl rfl rfl (pc0 := 4) (pc' := 7) (same := false) rfl (hb hby d1_4) rfl (decide_eq_false fun q => (Fld.ne F_w11_ordinal F_w1_ordinal (by decide)) (Value.ref.inj q)) (by decide) (by decide) ?_
    show SF p e below T1 (mkF m 7 #[rv w11] []) _
    refine XS.aloadN X1.here hx rfl (hb hby d1_7) rfl rfl ?_
    show SF p e below T1 (mkF m 8 #[rv w11] [(.ref w11)]) _
    refine st2 _ ?_
    show SF p e below T2 (mkF m 11 #[rv w11] [(.ref w11), (.ref w11)]) _
    refine Jvm.RoadKit.acmp (g := (mkF m 11 #[rv w11] [(.ref w11), (.ref w11)])) X2 hx rfl rfl rfl (pc0 := 11) (pc' := 42) (same := true) rfl (hb hby d1_11) rfl (decide_eq_true rfl) (by decide) (by decide) ?_
    show SF p e below T2 (mkF m 42 #[rv w11] []) _
    refine XS.iconst X2.here hx rfl (hb hby d1_42) ?_
    show SF p e below T2 (mkF m 43 #[rv w11] [(.int 1)]) _
    refine XS.goto X2.here hx rfl (pc0 := 43) (pc' := 47) rfl (hb hby d1_43) (by decide) (by decide) ?_
    show SF p e below T2 (mkF m 47 #[rv w11] [(.int 1)]) _
    exact retN X2 hx (t := .boolean) Bd.returns (by simp) (hb hby d1_47) hr
  · show Q1_11 Z w11 w1 h0 n0 _ T2.heap _
    rw [e2]
    exact ⟨rfl, N0, rfl⟩
-- XpathTokens$Kind.beginsStep 
def Q1_12 (Z : State) (w12 : Addr) (w1 : Addr) (w11 : Addr) (w13 : Addr) (w14 : Addr) (w15 : Addr) (w16 : Addr) (h0 : Heap) (n0 : Nat) (v : Option Value) (h : Heap) (L : List Loc) : Prop := v = some (.int 0) ∧ Fr n0 L ∧ h = h0
set_option maxRecDepth 65536 in
set_option maxHeartbeats 40000000 in
theorem rm1_12 (l : Launch) (Z : State) (a0 : Array Value) (hw : HW Z a0) (ws : List Jvm.Cond) (w12 : Addr) (w1 : Addr) (w11 : Addr) (w13 : Addr) (w14 : Addr) (w15 : Addr) (w16 : Addr) (h0 : Heap) (n0 : Nat) (Z0 : n0 ≤ h0.size) (Sg0 : Sta Z Z.heap "com/example/edictum/edictum/io/XpathTokens$Kind" "AT" "Lcom/example/edictum/edictum/io/XpathTokens$Kind;" (.ref w1)) (P2 : Old Z n0 h0) (F_w12_ordinal : Fld Z Z.heap w12 "java/lang/Enum" "ordinal" "I" (.int 11)) (F_w1_ordinal : Fld Z Z.heap w1 "java/lang/Enum" "ordinal" "I" (.int 0)) (Sg20 : Sta Z Z.heap "com/example/edictum/edictum/io/XpathTokens$Kind" "AXIS" "Lcom/example/edictum/edictum/io/XpathTokens$Kind;" (.ref w11)) (F_w11_ordinal : Fld Z Z.heap w11 "java/lang/Enum" "ordinal" "I" (.int 10)) (Sg24 : Sta Z Z.heap "com/example/edictum/edictum/io/XpathTokens$Kind" "NODE_TYPE" "Lcom/example/edictum/edictum/io/XpathTokens$Kind;" (.ref w13)) (F_w13_ordinal : Fld Z Z.heap w13 "java/lang/Enum" "ordinal" "I" (.int 12)) (Sg26 : Sta Z Z.heap "com/example/edictum/edictum/io/XpathTokens$Kind" "NAME_TEST" "Lcom/example/edictum/edictum/io/XpathTokens$Kind;" (.ref w14)) (F_w14_ordinal : Fld Z Z.heap w14 "java/lang/Enum" "ordinal" "I" (.int 13)) (Sg28 : Sta Z Z.heap "com/example/edictum/edictum/io/XpathTokens$Kind" "DOT" "Lcom/example/edictum/edictum/io/XpathTokens$Kind;" (.ref w15)) (F_w15_ordinal : Fld Z Z.heap w15 "java/lang/Enum" "ordinal" "I" (.int 14)) (Sg30 : Sta Z Z.heap "com/example/edictum/edictum/io/XpathTokens$Kind" "DOT_DOT" "Lcom/example/edictum/edictum/io/XpathTokens$Kind;" (.ref w16)) (F_w16_ordinal : Fld Z Z.heap w16 "java/lang/Enum" "ordinal" "I" (.int 15)) :
    MF l Z (⟨"com/example/edictum/edictum/io/XpathTokens$Kind", "beginsStep", "()Z"⟩ : MethodName) (Jvm.Cond.code (⟨"com/example/edictum/edictum/io/XpathTokens$Kind", "beginsStep", "()Z"⟩ : MethodName) prog_252_method_5_code 1 (some .boolean)) ws ({ frames := 0, cells := 0, slots := 0, locals := 0 } : Room) #[(.ref w12)] h0 (Q1_12 Z w12 w1 w11 w13 w14 w15 w16 h0 n0) := by
  refine MetFree.of_bodySF (plainFor_of_name pn_0) hisR ?_
  intro p e s m args below meth c s₁ Bd hml0 hP hK
  obtain ⟨rfl, hZ, hh⟩ := hP
  have hx := Bd.exec
  have hby := Bd.bytes
  have hml : c.maxLocals = 1 := hml0
  have hown : s.vm.findClass "com/example/edictum/edictum/io/XpathTokens$Kind" = some m.cls := findClass_of_methodNamed Bd.named
  have hnm := (name_of_methodNamed Bd.named Bd.method).1
  have X0 : Stand p l e ({ frames := 0, cells := 0, slots := 0, locals := 0 } : Room) s m #[(.ref w12)] below meth c s₁ [] 0 0 := Stand.of_body Bd
  have e0 : s₁.heap = h0 := by rw [← hh, Bd.state]; rfl
  have N0 := Fr.nil n0
  have pre0 : ∀ t, SF p e below s₁ (mkF m 0 #[rv w12] []) t → SF p e below s₁ (entryFrame m #[(.ref w12)] 1) t := fun t k => castTop (ef_0 m w12) k
  obtain ⟨T1, X1, e1, st1⟩ := getS2 X0 hx hZ hown (host := "") (Or.inl (tw hw 47 rfl)) Via.refl e0 (Sg0.ext P2.2) (g := (mkF m 1 #[rv w12] [(.ref w12)])) rfl (hb hby d1_1)
  obtain ⟨T2, X2, e2, st2⟩ := getS2 X1 hx hZ hown (host := "") (Or.inl (tw hw 48 rfl)) Via.refl e1 (Sg20.ext P2.2) (g := (mkF m 8 #[rv w12] [(.ref w12)])) rfl (hb hby d1_8)
  obtain ⟨T3, X3, e3, st3⟩ := getS2 X2 hx hZ hown (host := "") (Or.inl (tw hw 49 rfl)) Via.refl e2 (Sg24.ext P2.2) (g := (mkF m 15 #[rv w12] [(.ref w12)])) rfl (hb hby d1_15)
  obtain ⟨T4, X4, e4, st4⟩ := getS2 X3 hx hZ hown (host := "") (Or.inl (tw hw 50 rfl)) Via.refl e3 (Sg26.ext P2.2) (g := (mkF m 22 #[rv w12] [(.ref w12)])) rfl (hb hby d1_22)
  obtain ⟨T5, X5, e5, st5⟩ := getS2 X4 hx hZ hown (host := "") (Or.inl (tw hw 51 rfl)) Via.refl e4 (Sg28.ext P2.2) (g := (mkF m 29 #[rv w12] [(.ref w12)])) rfl (hb hby d1_29)
  obtain ⟨T6, X6, e6, st6⟩ := getS2 X5 hx hZ hown (host := "") (Or.inl (tw hw 52 rfl)) Via.refl e5 (Sg30.ext P2.2) (g := (mkF m 36 #[rv w12] [(.ref w12)])) rfl (hb hby d1_36)
  obtain ⟨fs, hr, hrun, hended, hW, hsame⟩ := X6.leave (v := some (.int 0)) (fun h => by rw [Bd.returns] at h; cases h)
  refine ⟨_, _, pre0 _ ?_, hrun, hended, _, _, rfl, ?_, ⟨_, rfl⟩, hW, hsame.mono (by decide) (by decide)⟩
  · show SF p e below s₁ (mkF m 0 #[rv w12] []) _
    refine XS.aloadN X0.here hx rfl (hb hby d1_0) rfl rfl ?_
    show SF p e below s₁ (mkF m 1 #[rv w12] [(.ref w12)]) _
    refine st1 _ ?_
    show SF p e below T1 (mkF m 4 #[rv w12] [(.ref w1), (.ref w12)]) _
    refine Jvm.RoadKit.acmp (g := (mkF m 4 #[rv w12] [(.ref w1), (.ref w12)])) X1 hx rfl rfl rfl (pc0 := 4) (pc' := 7) (same := false) rfl (hb hby d1_4) rfl (decide_eq_false fun q => (Fld.ne F_w12_ordinal F_w1_ordinal (by decide)) (Value.ref.inj q)) (by decide) (by decide) ?_
    show SF p e below T1 (mkF m 7 #[rv w12] []) _
    refine XS.aloadN X1.here hx rfl (hb hby d1_7) rfl rfl ?_
    show SF p e below T1 (mkF m 8 #[rv w12] [(.ref w12)]) _
    refine st2 _ ?_
    show SF p e below T2 (mkF m 11 #[rv w12] [(.ref w11), (.ref w12)]) _
    refine Jvm.RoadKit.acmp (g := (mkF m 11 #[rv w12] [(.ref w11), (.ref w12)])) X2 hx rfl rfl rfl (pc0 := 11) (pc' := 14) (same := false) rfl (hb hby d1_11) rfl (decide_eq_false fun q => (Fld.ne F_w12_ordinal F_w11_ordinal (by decide)) (Value.ref.inj q)) (by decide) (by decide) ?_
    show SF p e below T2 (mkF m 14 #[rv w12] []) _
    refine XS.aloadN X2.here hx rfl (hb hby d1_14) rfl rfl ?_
    show SF p e below T2 (mkF m 15 #[rv w12] [(.ref w12)]) _
    refine st3 _ ?_
    show SF p e below T3 (mkF m 18 #[rv w12] [(.ref w13), (.ref w12)]) _
    refine Jvm.RoadKit.acmp (g := (mkF m 18 #[rv w12] [(.ref w13), (.ref w12)])) X3 hx rfl rfl rfl (pc0 := 18) (pc' := 21) (same := false) rfl (hb hby d1_18) rfl (decide_eq_false fun q => (Fld.ne F_w12_ordinal F_w13_ordinal (by decide)) (Value.ref.inj q)) (by decide) (by decide) ?_
    show SF p e below T3 (mkF m 21 #[rv w12] []) _
    refine XS.aloadN X3.here hx rfl (hb hby d1_21) rfl rfl ?_
    show SF p e below T3 (mkF m 22 #[rv w12] [(.ref w12)]) _
    refine st4 _ ?_
    show SF p e below T4 (mkF m 25 #[rv w12] [(.ref w14), (.ref w12)]) _
    refine Jvm.RoadKit.acmp (g := (mkF m 25 #[rv w12] [(.ref w14), (.ref w12)])) X4 hx rfl rfl rfl (pc0 := 25) (pc' := 28) (same := false) rfl (hb hby d1_25) rfl (decide_eq_false fun q => (Fld.ne F_w12_ordinal F_w14_ordinal (by decide)) (Value.ref.inj q)) (by decide) (by decide) ?_
    show SF p e below T4 (mkF m 28 #[rv w12] []) _
    refine XS.aloadN X4.here hx rfl (hb hby d1_28) rfl rfl ?_
    show SF p e below T4 (mkF m 29 #[rv w12] [(.ref w12)]) _
    refine st5 _ ?_
    show SF p e below T5 (mkF m 32 #[rv w12] [(.ref w15), (.ref w12)]) _
    refine Jvm.RoadKit.acmp (g := (mkF m 32 #[rv w12] [(.ref w15), (.ref w12)])) X5 hx rfl rfl rfl (pc0 := 32) (pc' := 35) (same := false) rfl (hb hby d1_32) rfl (decide_eq_false fun q => (Fld.ne F_w12_ordinal F_w15_ordinal (by decide)) (Value.ref.inj q)) (by decide) (by decide) ?_
    show SF p e below T5 (mkF m 35 #[rv w12] []) _
    refine XS.aloadN X5.here hx rfl (hb hby d1_35) rfl rfl ?_
    show SF p e below T5 (mkF m 36 #[rv w12] [(.ref w12)]) _
    refine st6 _ ?_
    show SF p e below T6 (mkF m 39 #[rv w12] [(.ref w16), (.ref w12)]) _
    refine Jvm.RoadKit.acmp (g := (mkF m 39 #[rv w12] [(.ref w16), (.ref w12)])) X6 hx rfl rfl rfl (pc0 := 39) (pc' := 46) (same := false) rfl (hb hby d1_39) rfl (decide_eq_false fun q => (Fld.ne F_w12_ordinal F_w16_ordinal (by decide)) (Value.ref.inj q)) (by decide) (by decide) ?_
    show SF p e below T6 (mkF m 46 #[rv w12] []) _
    refine XS.iconst X6.here hx rfl (hb hby d1_46) ?_
    show SF p e below T6 (mkF m 47 #[rv w12] [(.int 0)]) _
    exact retN X6 hx (t := .boolean) Bd.returns (by simp) (hb hby d1_47) hr
  · show Q1_12 Z w12 w1 w11 w13 w14 w15 w16 h0 n0 _ T6.heap _
    rw [e6]
    exact ⟨rfl, N0, rfl⟩
-- XpathTokens$Kind.beginsStep 
def Q1_13 (Z : State) (w13 : Addr) (w1 : Addr) (w11 : Addr) (h0 : Heap) (n0 : Nat) (v : Option Value) (h : Heap) (L : List Loc) : Prop := v = some (.int 1) ∧ Fr n0 L ∧ h = h0
set_option maxRecDepth 65536 in
set_option maxHeartbeats 40000000 in
theorem rm1_13 (l : Launch) (Z : State) (a0 : Array Value) (hw : HW Z a0) (ws : List Jvm.Cond) (w13 : Addr) (w1 : Addr) (w11 : Addr) (h0 : Heap) (n0 : Nat) (Z0 : n0 ≤ h0.size) (Sg0 : Sta Z Z.heap "com/example/edictum/edictum/io/XpathTokens$Kind" "AT" "Lcom/example/edictum/edictum/io/XpathTokens$Kind;" (.ref w1)) (P2 : Old Z n0 h0) (F_w13_ordinal : Fld Z Z.heap w13 "java/lang/Enum" "ordinal" "I" (.int 12)) (F_w1_ordinal : Fld Z Z.heap w1 "java/lang/Enum" "ordinal" "I" (.int 0)) (Sg20 : Sta Z Z.heap "com/example/edictum/edictum/io/XpathTokens$Kind" "AXIS" "Lcom/example/edictum/edictum/io/XpathTokens$Kind;" (.ref w11)) (F_w11_ordinal : Fld Z Z.heap w11 "java/lang/Enum" "ordinal" "I" (.int 10)) (Sg24 : Sta Z Z.heap "com/example/edictum/edictum/io/XpathTokens$Kind" "NODE_TYPE" "Lcom/example/edictum/edictum/io/XpathTokens$Kind;" (.ref w13)) :
    MF l Z (⟨"com/example/edictum/edictum/io/XpathTokens$Kind", "beginsStep", "()Z"⟩ : MethodName) (Jvm.Cond.code (⟨"com/example/edictum/edictum/io/XpathTokens$Kind", "beginsStep", "()Z"⟩ : MethodName) prog_252_method_5_code 1 (some .boolean)) ws ({ frames := 0, cells := 0, slots := 0, locals := 0 } : Room) #[(.ref w13)] h0 (Q1_13 Z w13 w1 w11 h0 n0) := by
  refine MetFree.of_bodySF (plainFor_of_name pn_0) hisR ?_
  intro p e s m args below meth c s₁ Bd hml0 hP hK
  obtain ⟨rfl, hZ, hh⟩ := hP
  have hx := Bd.exec
  have hby := Bd.bytes
  have hml : c.maxLocals = 1 := hml0
  have hown : s.vm.findClass "com/example/edictum/edictum/io/XpathTokens$Kind" = some m.cls := findClass_of_methodNamed Bd.named
  have hnm := (name_of_methodNamed Bd.named Bd.method).1
  have X0 : Stand p l e ({ frames := 0, cells := 0, slots := 0, locals := 0 } : Room) s m #[(.ref w13)] below meth c s₁ [] 0 0 := Stand.of_body Bd
  have e0 : s₁.heap = h0 := by rw [← hh, Bd.state]; rfl
  have N0 := Fr.nil n0
  have pre0 : ∀ t, SF p e below s₁ (mkF m 0 #[rv w13] []) t → SF p e below s₁ (entryFrame m #[(.ref w13)] 1) t := fun t k => castTop (ef_0 m w13) k
  obtain ⟨T1, X1, e1, st1⟩ := getS2 X0 hx hZ hown (host := "") (Or.inl (tw hw 47 rfl)) Via.refl e0 (Sg0.ext P2.2) (g := (mkF m 1 #[rv w13] [(.ref w13)])) rfl (hb hby d1_1)
  obtain ⟨T2, X2, e2, st2⟩ := getS2 X1 hx hZ hown (host := "") (Or.inl (tw hw 48 rfl)) Via.refl e1 (Sg20.ext P2.2) (g := (mkF m 8 #[rv w13] [(.ref w13)])) rfl (hb hby d1_8)
  obtain ⟨T3, X3, e3, st3⟩ := getS2 X2 hx hZ hown (host := "") (Or.inl (tw hw 49 rfl)) Via.refl e2 (Sg24.ext P2.2) (g := (mkF m 15 #[rv w13] [(.ref w13)])) rfl (hb hby d1_15)
  obtain ⟨fs, hr, hrun, hended, hW, hsame⟩ := X3.leave (v := some (.int 1)) (fun h => by rw [Bd.returns] at h; cases h)
  refine ⟨_, _, pre0 _ ?_, hrun, hended, _, _, rfl, ?_, ⟨_, rfl⟩, hW, hsame.mono (by decide) (by decide)⟩
  · show SF p e below s₁ (mkF m 0 #[rv w13] []) _
    refine XS.aloadN X0.here hx rfl (hb hby d1_0) rfl rfl ?_
    show SF p e below s₁ (mkF m 1 #[rv w13] [(.ref w13)]) _
    refine st1 _ ?_
    show SF p e below T1 (mkF m 4 #[rv w13] [(.ref w1), (.ref w13)]) _
    refine Jvm.RoadKit.acmp (g := (mkF m 4 #[rv w13] [(.ref w1), (.ref w13)])) X1 hx rfl rfl rfl (pc0 := 4) (pc' := 7) (same := false) rfl (hb hby d1_4) rfl (decide_eq_false fun q => (Fld.ne F_w13_ordinal F_w1_ordinal (by decide)) (Value.ref.inj q)) (by decide) (by decide) ?_
    show SF p e below T1 (mkF m 7 #[rv w13] []) _
    refine XS.aloadN X1.here hx rfl (hb hby d1_7) rfl rfl ?_
    show SF p e below T1 (mkF m 8 #[rv w13] [(.ref w13)]) _
    refine st2 _ ?_
    show SF p e below T2 (mkF m 11 #[rv w13] [(.ref w11), (.ref w13)]) _
    refine Jvm.RoadKit.acmp (g := (mkF m 11 #[rv w13] [(.ref w11), (.ref w13)])) X2 hx rfl rfl rfl (pc0 := 11) (pc' := 14) (same := false) rfl (hb hby d1_11) rfl (decide_eq_false fun q => (Fld.ne F_w13_ordinal F_w11_ordinal (by decide)) (Value.ref.inj q)) (by decide) (by decide) ?_
    show SF p e below T2 (mkF m 14 #[rv w13] []) _
    refine XS.aloadN X2.here hx rfl (hb hby d1_14) rfl rfl ?_
    show SF p e below T2 (mkF m 15 #[rv w13] [(.ref w13)]) _
    refine st3 _ ?_
    show SF p e below T3 (mkF m 18 #[rv w13] [(.ref w13), (.ref w13)]) _
    refine Jvm.RoadKit.acmp (g := (mkF m 18 #[rv w13] [(.ref w13), (.ref w13)])) X3 hx rfl rfl rfl (pc0 := 18) (pc' := 42) (same := true) rfl (hb hby d1_18) rfl (decide_eq_true rfl) (by decide) (by decide) ?_
    show SF p e below T3 (mkF m 42 #[rv w13] []) _
    refine XS.iconst X3.here hx rfl (hb hby d1_42) ?_
    show SF p e below T3 (mkF m 43 #[rv w13] [(.int 1)]) _
    refine XS.goto X3.here hx rfl (pc0 := 43) (pc' := 47) rfl (hb hby d1_43) (by decide) (by decide) ?_
    show SF p e below T3 (mkF m 47 #[rv w13] [(.int 1)]) _
    exact retN X3 hx (t := .boolean) Bd.returns (by simp) (hb hby d1_47) hr
  · show Q1_13 Z w13 w1 w11 h0 n0 _ T3.heap _
    rw [e3]
    exact ⟨rfl, N0, rfl⟩
-- XpathTokens$Kind.beginsStep 
def Q1_14 (Z : State) (w14 : Addr) (w1 : Addr) (w11 : Addr) (w13 : Addr) (h0 : Heap) (n0 : Nat) (v : Option Value) (h : Heap) (L : List Loc) : Prop := v = some (.int 1) ∧ Fr n0 L ∧ h = h0
set_option maxRecDepth 65536 in
set_option maxHeartbeats 40000000 in
theorem rm1_14 (l : Launch) (Z : State) (a0 : Array Value) (hw : HW Z a0) (ws : List Jvm.Cond) (w14 : Addr) (w1 : Addr) (w11 : Addr) (w13 : Addr) (h0 : Heap) (n0 : Nat) (Z0 : n0 ≤ h0.size) (Sg0 : Sta Z Z.heap "com/example/edictum/edictum/io/XpathTokens$Kind" "AT" "Lcom/example/edictum/edictum/io/XpathTokens$Kind;" (.ref w1)) (P2 : Old Z n0 h0) (F_w14_ordinal : Fld Z Z.heap w14 "java/lang/Enum" "ordinal" "I" (.int 13)) (F_w1_ordinal : Fld Z Z.heap w1 "java/lang/Enum" "ordinal" "I" (.int 0)) (Sg20 : Sta Z Z.heap "com/example/edictum/edictum/io/XpathTokens$Kind" "AXIS" "Lcom/example/edictum/edictum/io/XpathTokens$Kind;" (.ref w11)) (F_w11_ordinal : Fld Z Z.heap w11 "java/lang/Enum" "ordinal" "I" (.int 10)) (Sg24 : Sta Z Z.heap "com/example/edictum/edictum/io/XpathTokens$Kind" "NODE_TYPE" "Lcom/example/edictum/edictum/io/XpathTokens$Kind;" (.ref w13)) (F_w13_ordinal : Fld Z Z.heap w13 "java/lang/Enum" "ordinal" "I" (.int 12)) (Sg26 : Sta Z Z.heap "com/example/edictum/edictum/io/XpathTokens$Kind" "NAME_TEST" "Lcom/example/edictum/edictum/io/XpathTokens$Kind;" (.ref w14)) :
    MF l Z (⟨"com/example/edictum/edictum/io/XpathTokens$Kind", "beginsStep", "()Z"⟩ : MethodName) (Jvm.Cond.code (⟨"com/example/edictum/edictum/io/XpathTokens$Kind", "beginsStep", "()Z"⟩ : MethodName) prog_252_method_5_code 1 (some .boolean)) ws ({ frames := 0, cells := 0, slots := 0, locals := 0 } : Room) #[(.ref w14)] h0 (Q1_14 Z w14 w1 w11 w13 h0 n0) := by
  refine MetFree.of_bodySF (plainFor_of_name pn_0) hisR ?_
  intro p e s m args below meth c s₁ Bd hml0 hP hK
  obtain ⟨rfl, hZ, hh⟩ := hP
  have hx := Bd.exec
  have hby := Bd.bytes
  have hml : c.maxLocals = 1 := hml0
  have hown : s.vm.findClass "com/example/edictum/edictum/io/XpathTokens$Kind" = some m.cls := findClass_of_methodNamed Bd.named
  have hnm := (name_of_methodNamed Bd.named Bd.method).1
  have X0 : Stand p l e ({ frames := 0, cells := 0, slots := 0, locals := 0 } : Room) s m #[(.ref w14)] below meth c s₁ [] 0 0 := Stand.of_body Bd
  have e0 : s₁.heap = h0 := by rw [← hh, Bd.state]; rfl
  have N0 := Fr.nil n0
  have pre0 : ∀ t, SF p e below s₁ (mkF m 0 #[rv w14] []) t → SF p e below s₁ (entryFrame m #[(.ref w14)] 1) t := fun t k => castTop (ef_0 m w14) k
  obtain ⟨T1, X1, e1, st1⟩ := getS2 X0 hx hZ hown (host := "") (Or.inl (tw hw 47 rfl)) Via.refl e0 (Sg0.ext P2.2) (g := (mkF m 1 #[rv w14] [(.ref w14)])) rfl (hb hby d1_1)
  obtain ⟨T2, X2, e2, st2⟩ := getS2 X1 hx hZ hown (host := "") (Or.inl (tw hw 48 rfl)) Via.refl e1 (Sg20.ext P2.2) (g := (mkF m 8 #[rv w14] [(.ref w14)])) rfl (hb hby d1_8)
  obtain ⟨T3, X3, e3, st3⟩ := getS2 X2 hx hZ hown (host := "") (Or.inl (tw hw 49 rfl)) Via.refl e2 (Sg24.ext P2.2) (g := (mkF m 15 #[rv w14] [(.ref w14)])) rfl (hb hby d1_15)
  obtain ⟨T4, X4, e4, st4⟩ := getS2 X3 hx hZ hown (host := "") (Or.inl (tw hw 50 rfl)) Via.refl e3 (Sg26.ext P2.2) (g := (mkF m 22 #[rv w14] [(.ref w14)])) rfl (hb hby d1_22)
  obtain ⟨fs, hr, hrun, hended, hW, hsame⟩ := X4.leave (v := some (.int 1)) (fun h => by rw [Bd.returns] at h; cases h)
  refine ⟨_, _, pre0 _ ?_, hrun, hended, _, _, rfl, ?_, ⟨_, rfl⟩, hW, hsame.mono (by decide) (by decide)⟩
  · show SF p e below s₁ (mkF m 0 #[rv w14] []) _
    refine XS.aloadN X0.here hx rfl (hb hby d1_0) rfl rfl ?_
    show SF p e below s₁ (mkF m 1 #[rv w14] [(.ref w14)]) _
    refine st1 _ ?_
    show SF p e below T1 (mkF m 4 #[rv w14] [(.ref w1), (.ref w14)]) _
    refine Jvm.RoadKit.acmp (g := (mkF m 4 #[rv w14] [(.ref w1), (.ref w14)])) X1 hx rfl rfl rfl (pc0 := 4) (pc' := 7) (same := false) rfl (hb hby d1_4) rfl (decide_eq_false fun q => (Fld.ne F_w14_ordinal F_w1_ordinal (by decide)) (Value.ref.inj q)) (by decide) (by decide) ?_
    show SF p e below T1 (mkF m 7 #[rv w14] []) _
    refine XS.aloadN X1.here hx rfl (hb hby d1_7) rfl rfl ?_
    show SF p e below T1 (mkF m 8 #[rv w14] [(.ref w14)]) _
    refine st2 _ ?_
    show SF p e below T2 (mkF m 11 #[rv w14] [(.ref w11), (.ref w14)]) _
    refine Jvm.RoadKit.acmp (g := (mkF m 11 #[rv w14] [(.ref w11), (.ref w14)])) X2 hx rfl rfl rfl (pc0 := 11) (pc' := 14) (same := false) rfl (hb hby d1_11) rfl (decide_eq_false fun q => (Fld.ne F_w14_ordinal F_w11_ordinal (by decide)) (Value.ref.inj q)) (by decide) (by decide) ?_
    show SF p e below T2 (mkF m 14 #[rv w14] []) _
    refine XS.aloadN X2.here hx rfl (hb hby d1_14) rfl rfl ?_
    show SF p e below T2 (mkF m 15 #[rv w14] [(.ref w14)]) _
    refine st3 _ ?_
    show SF p e below T3 (mkF m 18 #[rv w14] [(.ref w13), (.ref w14)]) _
    refine Jvm.RoadKit.acmp (g := (mkF m 18 #[rv w14] [(.ref w13), (.ref w14)])) X3 hx rfl rfl rfl (pc0 := 18) (pc' := 21) (same := false) rfl (hb hby d1_18) rfl (decide_eq_false fun q => (Fld.ne F_w14_ordinal F_w13_ordinal (by decide)) (Value.ref.inj q)) (by decide) (by decide) ?_
    show SF p e below T3 (mkF m 21 #[rv w14] []) _
    refine XS.aloadN X3.here hx rfl (hb hby d1_21) rfl rfl ?_
    show SF p e below T3 (mkF m 22 #[rv w14] [(.ref w14)]) _
    refine st4 _ ?_
    show SF p e below T4 (mkF m 25 #[rv w14] [(.ref w14), (.ref w14)]) _
    refine Jvm.RoadKit.acmp (g := (mkF m 25 #[rv w14] [(.ref w14), (.ref w14)])) X4 hx rfl rfl rfl (pc0 := 25) (pc' := 42) (same := true) rfl (hb hby d1_25) rfl (decide_eq_true rfl) (by decide) (by decide) ?_
    show SF p e below T4 (mkF m 42 #[rv w14] []) _
    refine XS.iconst X4.here hx rfl (hb hby d1_42) ?_
    show SF p e below T4 (mkF m 43 #[rv w14] [(.int 1)]) _
    refine XS.goto X4.here hx rfl (pc0 := 43) (pc' := 47) rfl (hb hby d1_43) (by decide) (by decide) ?_
    show SF p e below T4 (mkF m 47 #[rv w14] [(.int 1)]) _
    exact retN X4 hx (t := .boolean) Bd.returns (by simp) (hb hby d1_47) hr
  · show Q1_14 Z w14 w1 w11 w13 h0 n0 _ T4.heap _
    rw [e4]
    exact ⟨rfl, N0, rfl⟩
-- XpathTokens$Kind.beginsStep 
def Q1_15 (Z : State) (w15 : Addr) (w1 : Addr) (w11 : Addr) (w13 : Addr) (w14 : Addr) (h0 : Heap) (n0 : Nat) (v : Option Value) (h : Heap) (L : List Loc) : Prop := v = some (.int 1) ∧ Fr n0 L ∧ h = h0
set_option maxRecDepth 65536 in
set_option maxHeartbeats 40000000 in
theorem rm1_15 (l : Launch) (Z : State) (a0 : Array Value) (hw : HW Z a0) (ws : List Jvm.Cond) (w15 : Addr) (w1 : Addr) (w11 : Addr) (w13 : Addr) (w14 : Addr) (h0 : Heap) (n0 : Nat) (Z0 : n0 ≤ h0.size) (Sg0 : Sta Z Z.heap "com/example/edictum/edictum/io/XpathTokens$Kind" "AT" "Lcom/example/edictum/edictum/io/XpathTokens$Kind;" (.ref w1)) (P2 : Old Z n0 h0) (F_w15_ordinal : Fld Z Z.heap w15 "java/lang/Enum" "ordinal" "I" (.int 14)) (F_w1_ordinal : Fld Z Z.heap w1 "java/lang/Enum" "ordinal" "I" (.int 0)) (Sg20 : Sta Z Z.heap "com/example/edictum/edictum/io/XpathTokens$Kind" "AXIS" "Lcom/example/edictum/edictum/io/XpathTokens$Kind;" (.ref w11)) (F_w11_ordinal : Fld Z Z.heap w11 "java/lang/Enum" "ordinal" "I" (.int 10)) (Sg24 : Sta Z Z.heap "com/example/edictum/edictum/io/XpathTokens$Kind" "NODE_TYPE" "Lcom/example/edictum/edictum/io/XpathTokens$Kind;" (.ref w13)) (F_w13_ordinal : Fld Z Z.heap w13 "java/lang/Enum" "ordinal" "I" (.int 12)) (Sg26 : Sta Z Z.heap "com/example/edictum/edictum/io/XpathTokens$Kind" "NAME_TEST" "Lcom/example/edictum/edictum/io/XpathTokens$Kind;" (.ref w14)) (F_w14_ordinal : Fld Z Z.heap w14 "java/lang/Enum" "ordinal" "I" (.int 13)) (Sg28 : Sta Z Z.heap "com/example/edictum/edictum/io/XpathTokens$Kind" "DOT" "Lcom/example/edictum/edictum/io/XpathTokens$Kind;" (.ref w15)) :
    MF l Z (⟨"com/example/edictum/edictum/io/XpathTokens$Kind", "beginsStep", "()Z"⟩ : MethodName) (Jvm.Cond.code (⟨"com/example/edictum/edictum/io/XpathTokens$Kind", "beginsStep", "()Z"⟩ : MethodName) prog_252_method_5_code 1 (some .boolean)) ws ({ frames := 0, cells := 0, slots := 0, locals := 0 } : Room) #[(.ref w15)] h0 (Q1_15 Z w15 w1 w11 w13 w14 h0 n0) := by
  refine MetFree.of_bodySF (plainFor_of_name pn_0) hisR ?_
  intro p e s m args below meth c s₁ Bd hml0 hP hK
  obtain ⟨rfl, hZ, hh⟩ := hP
  have hx := Bd.exec
  have hby := Bd.bytes
  have hml : c.maxLocals = 1 := hml0
  have hown : s.vm.findClass "com/example/edictum/edictum/io/XpathTokens$Kind" = some m.cls := findClass_of_methodNamed Bd.named
  have hnm := (name_of_methodNamed Bd.named Bd.method).1
  have X0 : Stand p l e ({ frames := 0, cells := 0, slots := 0, locals := 0 } : Room) s m #[(.ref w15)] below meth c s₁ [] 0 0 := Stand.of_body Bd
  have e0 : s₁.heap = h0 := by rw [← hh, Bd.state]; rfl
  have N0 := Fr.nil n0
  have pre0 : ∀ t, SF p e below s₁ (mkF m 0 #[rv w15] []) t → SF p e below s₁ (entryFrame m #[(.ref w15)] 1) t := fun t k => castTop (ef_0 m w15) k
  obtain ⟨T1, X1, e1, st1⟩ := getS2 X0 hx hZ hown (host := "") (Or.inl (tw hw 47 rfl)) Via.refl e0 (Sg0.ext P2.2) (g := (mkF m 1 #[rv w15] [(.ref w15)])) rfl (hb hby d1_1)
  obtain ⟨T2, X2, e2, st2⟩ := getS2 X1 hx hZ hown (host := "") (Or.inl (tw hw 48 rfl)) Via.refl e1 (Sg20.ext P2.2) (g := (mkF m 8 #[rv w15] [(.ref w15)])) rfl (hb hby d1_8)
  obtain ⟨T3, X3, e3, st3⟩ := getS2 X2 hx hZ hown (host := "") (Or.inl (tw hw 49 rfl)) Via.refl e2 (Sg24.ext P2.2) (g := (mkF m 15 #[rv w15] [(.ref w15)])) rfl (hb hby d1_15)
  obtain ⟨T4, X4, e4, st4⟩ := getS2 X3 hx hZ hown (host := "") (Or.inl (tw hw 50 rfl)) Via.refl e3 (Sg26.ext P2.2) (g := (mkF m 22 #[rv w15] [(.ref w15)])) rfl (hb hby d1_22)
  obtain ⟨T5, X5, e5, st5⟩ := getS2 X4 hx hZ hown (host := "") (Or.inl (tw hw 51 rfl)) Via.refl e4 (Sg28.ext P2.2) (g := (mkF m 29 #[rv w15] [(.ref w15)])) rfl (hb hby d1_29)
  obtain ⟨fs, hr, hrun, hended, hW, hsame⟩ := X5.leave (v := some (.int 1)) (fun h => by rw [Bd.returns] at h; cases h)
  refine ⟨_, _, pre0 _ ?_, hrun, hended, _, _, rfl, ?_, ⟨_, rfl⟩, hW, hsame.mono (by decide) (by decide)⟩
  · show SF p e below s₁ (mkF m 0 #[rv w15] []) _
    refine XS.aloadN X0.here hx rfl (hb hby d1_0) rfl rfl ?_
    show SF p e below s₁ (mkF m 1 #[rv w15] [(.ref w15)]) _
    refine st1 _ ?_
    show SF p e below T1 (mkF m 4 #[rv w15] [(.ref w1), (.ref w15)]) _
    refine Jvm.RoadKit.acmp (g := (mkF m 4 #[rv w15] [(.ref w1), (.ref w15)])) X1 hx rfl rfl rfl (pc0 := 4) (pc' := 7) (same := false) rfl (hb hby d1_4) rfl (decide_eq_false fun q => (Fld.ne F_w15_ordinal F_w1_ordinal (by decide)) (Value.ref.inj q)) (by decide) (by decide) ?_
    show SF p e below T1 (mkF m 7 #[rv w15] []) _
    refine XS.aloadN X1.here hx rfl (hb hby d1_7) rfl rfl ?_
    show SF p e below T1 (mkF m 8 #[rv w15] [(.ref w15)]) _
    refine st2 _ ?_
    show SF p e below T2 (mkF m 11 #[rv w15] [(.ref w11), (.ref w15)]) _
    refine Jvm.RoadKit.acmp (g := (mkF m 11 #[rv w15] [(.ref w11), (.ref w15)])) X2 hx rfl rfl rfl (pc0 := 11) (pc' := 14) (same := false) rfl (hb hby d1_11) rfl (decide_eq_false fun q => (Fld.ne F_w15_ordinal F_w11_ordinal (by decide)) (Value.ref.inj q)) (by decide) (by decide) ?_
    show SF p e below T2 (mkF m 14 #[rv w15] []) _
    refine XS.aloadN X2.here hx rfl (hb hby d1_14) rfl rfl ?_
    show SF p e below T2 (mkF m 15 #[rv w15] [(.ref w15)]) _
    refine st3 _ ?_
    show SF p e below T3 (mkF m 18 #[rv w15] [(.ref w13), (.ref w15)]) _
    refine Jvm.RoadKit.acmp (g := (mkF m 18 #[rv w15] [(.ref w13), (.ref w15)])) X3 hx rfl rfl rfl (pc0 := 18) (pc' := 21) (same := false) rfl (hb hby d1_18) rfl (decide_eq_false fun q => (Fld.ne F_w15_ordinal F_w13_ordinal (by decide)) (Value.ref.inj q)) (by decide) (by decide) ?_
    show SF p e below T3 (mkF m 21 #[rv w15] []) _
    refine XS.aloadN X3.here hx rfl (hb hby d1_21) rfl rfl ?_
    show SF p e below T3 (mkF m 22 #[rv w15] [(.ref w15)]) _
    refine st4 _ ?_
    show SF p e below T4 (mkF m 25 #[rv w15] [(.ref w14), (.ref w15)]) _
    refine Jvm.RoadKit.acmp (g := (mkF m 25 #[rv w15] [(.ref w14), (.ref w15)])) X4 hx rfl rfl rfl (pc0 := 25) (pc' := 28) (same := false) rfl (hb hby d1_25) rfl (decide_eq_false fun q => (Fld.ne F_w15_ordinal F_w14_ordinal (by decide)) (Value.ref.inj q)) (by decide) (by decide) ?_
    show SF p e below T4 (mkF m 28 #[rv w15] []) _
    refine XS.aloadN X4.here hx rfl (hb hby d1_28) rfl rfl ?_
    show SF p e below T4 (mkF m 29 #[rv w15] [(.ref w15)]) _
    refine st5 _ ?_
    show SF p e below T5 (mkF m 32 #[rv w15] [(.ref w15), (.ref w15)]) _
    refine Jvm.RoadKit.acmp (g := (mkF m 32 #[rv w15] [(.ref w15), (.ref w15)])) X5 hx rfl rfl rfl (pc0 := 32) (pc' := 42) (same := true) rfl (hb hby d1_32) rfl (decide_eq_true rfl) (by decide) (by decide) ?_
    show SF p e below T5 (mkF m 42 #[rv w15] []) _
    refine XS.iconst X5.here hx rfl (hb hby d1_42) ?_
    show SF p e below T5 (mkF m 43 #[rv w15] [(.int 1)]) _
    refine XS.goto X5.here hx rfl (pc0 := 43) (pc' := 47) rfl (hb hby d1_43) (by decide) (by decide) ?_
    show SF p e below T5 (mkF m 47 #[rv w15] [(.int 1)]) _
    exact retN X5 hx (t := .boolean) Bd.returns (by simp) (hb hby d1_47) hr
  · show Q1_15 Z w15 w1 w11 w13 w14 h0 n0 _ T5.heap _
    rw [e5]
    exact ⟨rfl, N0, rfl⟩
-- XpathTokens$Kind.beginsStep 
def Q1_16 (Z : State) (w16 : Addr) (w1 : Addr) (w11 : Addr) (w13 : Addr) (w14 : Addr) (w15 : Addr) (h0 : Heap) (n0 : Nat) (v : Option Value) (h : Heap) (L : List Loc) : Prop := v = some (.int 1) ∧ Fr n0 L ∧ h = h0
set_option maxRecDepth 65536 in
set_option maxHeartbeats 40000000 in
theorem rm1_16 (l : Launch) (Z : State) (a0 : Array Value) (hw : HW Z a0) (ws : List Jvm.Cond) (w16 : Addr) (w1 : Addr) (w11 : Addr) (w13 : Addr) (w14 : Addr) (w15 : Addr) (h0 : Heap) (n0 : Nat) (Z0 : n0 ≤ h0.size) (Sg0 : Sta Z Z.heap "com/example/edictum/edictum/io/XpathTokens$Kind" "AT" "Lcom/example/edictum/edictum/io/XpathTokens$Kind;" (.ref w1)) (P2 : Old Z n0 h0) (F_w16_ordinal : Fld Z Z.heap w16 "java/lang/Enum" "ordinal" "I" (.int 15)) (F_w1_ordinal : Fld Z Z.heap w1 "java/lang/Enum" "ordinal" "I" (.int 0)) (Sg20 : Sta Z Z.heap "com/example/edictum/edictum/io/XpathTokens$Kind" "AXIS" "Lcom/example/edictum/edictum/io/XpathTokens$Kind;" (.ref w11)) (F_w11_ordinal : Fld Z Z.heap w11 "java/lang/Enum" "ordinal" "I" (.int 10)) (Sg24 : Sta Z Z.heap "com/example/edictum/edictum/io/XpathTokens$Kind" "NODE_TYPE" "Lcom/example/edictum/edictum/io/XpathTokens$Kind;" (.ref w13)) (F_w13_ordinal : Fld Z Z.heap w13 "java/lang/Enum" "ordinal" "I" (.int 12)) (Sg26 : Sta Z Z.heap "com/example/edictum/edictum/io/XpathTokens$Kind" "NAME_TEST" "Lcom/example/edictum/edictum/io/XpathTokens$Kind;" (.ref w14)) (F_w14_ordinal : Fld Z Z.heap w14 "java/lang/Enum" "ordinal" "I" (.int 13)) (Sg28 : Sta Z Z.heap "com/example/edictum/edictum/io/XpathTokens$Kind" "DOT" "Lcom/example/edictum/edictum/io/XpathTokens$Kind;" (.ref w15)) (F_w15_ordinal : Fld Z Z.heap w15 "java/lang/Enum" "ordinal" "I" (.int 14)) (Sg30 : Sta Z Z.heap "com/example/edictum/edictum/io/XpathTokens$Kind" "DOT_DOT" "Lcom/example/edictum/edictum/io/XpathTokens$Kind;" (.ref w16)) :
    MF l Z (⟨"com/example/edictum/edictum/io/XpathTokens$Kind", "beginsStep", "()Z"⟩ : MethodName) (Jvm.Cond.code (⟨"com/example/edictum/edictum/io/XpathTokens$Kind", "beginsStep", "()Z"⟩ : MethodName) prog_252_method_5_code 1 (some .boolean)) ws ({ frames := 0, cells := 0, slots := 0, locals := 0 } : Room) #[(.ref w16)] h0 (Q1_16 Z w16 w1 w11 w13 w14 w15 h0 n0) := by
  refine MetFree.of_bodySF (plainFor_of_name pn_0) hisR ?_
  intro p e s m args below meth c s₁ Bd hml0 hP hK
  obtain ⟨rfl, hZ, hh⟩ := hP
  have hx := Bd.exec
  have hby := Bd.bytes
  have hml : c.maxLocals = 1 := hml0
  have hown : s.vm.findClass "com/example/edictum/edictum/io/XpathTokens$Kind" = some m.cls := findClass_of_methodNamed Bd.named
  have hnm := (name_of_methodNamed Bd.named Bd.method).1
  have X0 : Stand p l e ({ frames := 0, cells := 0, slots := 0, locals := 0 } : Room) s m #[(.ref w16)] below meth c s₁ [] 0 0 := Stand.of_body Bd
  have e0 : s₁.heap = h0 := by rw [← hh, Bd.state]; rfl
  have N0 := Fr.nil n0
  have pre0 : ∀ t, SF p e below s₁ (mkF m 0 #[rv w16] []) t → SF p e below s₁ (entryFrame m #[(.ref w16)] 1) t := fun t k => castTop (ef_0 m w16) k
  obtain ⟨T1, X1, e1, st1⟩ := getS2 X0 hx hZ hown (host := "") (Or.inl (tw hw 47 rfl)) Via.refl e0 (Sg0.ext P2.2) (g := (mkF m 1 #[rv w16] [(.ref w16)])) rfl (hb hby d1_1)
  obtain ⟨T2, X2, e2, st2⟩ := getS2 X1 hx hZ hown (host := "") (Or.inl (tw hw 48 rfl)) Via.refl e1 (Sg20.ext P2.2) (g := (mkF m 8 #[rv w16] [(.ref w16)])) rfl (hb hby d1_8)
  obtain ⟨T3, X3, e3, st3⟩ := getS2 X2 hx hZ hown (host := "") (Or.inl (tw hw 49 rfl)) Via.refl e2 (Sg24.ext P2.2) (g := (mkF m 15 #[rv w16] [(.ref w16)])) rfl (hb hby d1_15)
  obtain ⟨T4, X4, e4, st4⟩ := getS2 X3 hx hZ hown (host := "") (Or.inl (tw hw 50 rfl)) Via.refl e3 (Sg26.ext P2.2) (g := (mkF m 22 #[rv w16] [(.ref w16)])) rfl (hb hby d1_22)
  obtain ⟨T5, X5, e5, st5⟩ := getS2 X4 hx hZ hown (host := "") (Or.inl (tw hw 51 rfl)) Via.refl e4 (Sg28.ext P2.2) (g := (mkF m 29 #[rv w16] [(.ref w16)])) rfl (hb hby d1_29)
  obtain ⟨T6, X6, e6, st6⟩ := getS2 X5 hx hZ hown (host := "") (Or.inl (tw hw 52 rfl)) Via.refl e5 (Sg30.ext P2.2) (g := (mkF m 36 #[rv w16] [(.ref w16)])) rfl (hb hby d1_36)
  obtain ⟨fs, hr, hrun, hended, hW, hsame⟩ := X6.leave (v := some (.int 1)) (fun h => by rw [Bd.returns] at h; cases h)
  refine ⟨_, _, pre0 _ ?_, hrun, hended, _, _, rfl, ?_, ⟨_, rfl⟩, hW, hsame.mono (by decide) (by decide)⟩
  · show SF p e below s₁ (mkF m 0 #[rv w16] []) _
    refine XS.aloadN X0.here hx rfl (hb hby d1_0) rfl rfl ?_
    show SF p e below s₁ (mkF m 1 #[rv w16] [(.ref w16)]) _
    refine st1 _ ?_
    show SF p e below T1 (mkF m 4 #[rv w16] [(.ref w1), (.ref w16)]) _
    refine Jvm.RoadKit.acmp (g := (mkF m 4 #[rv w16] [(.ref w1), (.ref w16)])) X1 hx rfl rfl rfl (pc0 := 4) (pc' := 7) (same := false) rfl (hb hby d1_4) rfl (decide_eq_false fun q => (Fld.ne F_w16_ordinal F_w1_ordinal (by decide)) (Value.ref.inj q)) (by decide) (by decide) ?_
    show SF p e below T1 (mkF m 7 #[rv w16] []) _
    refine XS.aloadN X1.here hx rfl (hb hby d1_7) rfl rfl ?_
    show SF p e below T1 (mkF m 8 #[rv w16] [(.ref w16)]) _
    refine st2 _ ?_
    show SF p e below T2 (mkF m 11 #[rv w16] [(.ref w11), (.ref w16)]) _
    refine Jvm.RoadKit.acmp (g := (mkF m 11 #[rv w16] [(.ref w11), (.ref w16)])) X2 hx rfl rfl rfl (pc0 := 11) (pc' := 14) (same := false) rfl (hb hby d1_11) rfl (decide_eq_false fun q => (Fld.ne F_w16_ordinal F_w11_ordinal (by decide)) (Value.ref.inj q)) (by decide) (by decide) ?_
    show SF p e below T2 (mkF m 14 #[rv w16] []) _
    refine XS.aloadN X2.here hx rfl (hb hby d1_14) rfl rfl ?_
    show SF p e below T2 (mkF m 15 #[rv w16] [(.ref w16)]) _
    refine st3 _ ?_
    show SF p e below T3 (mkF m 18 #[rv w16] [(.ref w13), (.ref w16)]) _
    refine Jvm.RoadKit.acmp (g := (mkF m 18 #[rv w16] [(.ref w13), (.ref w16)])) X3 hx rfl rfl rfl (pc0 := 18) (pc' := 21) (same := false) rfl (hb hby d1_18) rfl (decide_eq_false fun q => (Fld.ne F_w16_ordinal F_w13_ordinal (by decide)) (Value.ref.inj q)) (by decide) (by decide) ?_
    show SF p e below T3 (mkF m 21 #[rv w16] []) _
    refine XS.aloadN X3.here hx rfl (hb hby d1_21) rfl rfl ?_
    show SF p e below T3 (mkF m 22 #[rv w16] [(.ref w16)]) _
    refine st4 _ ?_
    show SF p e below T4 (mkF m 25 #[rv w16] [(.ref w14), (.ref w16)]) _
    refine Jvm.RoadKit.acmp (g := (mkF m 25 #[rv w16] [(.ref w14), (.ref w16)])) X4 hx rfl rfl rfl (pc0 := 25) (pc' := 28) (same := false) rfl (hb hby d1_25) rfl (decide_eq_false fun q => (Fld.ne F_w16_ordinal F_w14_ordinal (by decide)) (Value.ref.inj q)) (by decide) (by decide) ?_
    show SF p e below T4 (mkF m 28 #[rv w16] []) _
    refine XS.aloadN X4.here hx rfl (hb hby d1_28) rfl rfl ?_
    show SF p e below T4 (mkF m 29 #[rv w16] [(.ref w16)]) _
    refine st5 _ ?_
    show SF p e below T5 (mkF m 32 #[rv w16] [(.ref w15), (.ref w16)]) _
    refine Jvm.RoadKit.acmp (g := (mkF m 32 #[rv w16] [(.ref w15), (.ref w16)])) X5 hx rfl rfl rfl (pc0 := 32) (pc' := 35) (same := false) rfl (hb hby d1_32) rfl (decide_eq_false fun q => (Fld.ne F_w16_ordinal F_w15_ordinal (by decide)) (Value.ref.inj q)) (by decide) (by decide) ?_
    show SF p e below T5 (mkF m 35 #[rv w16] []) _
    refine XS.aloadN X5.here hx rfl (hb hby d1_35) rfl rfl ?_
    show SF p e below T5 (mkF m 36 #[rv w16] [(.ref w16)]) _
    refine st6 _ ?_
    show SF p e below T6 (mkF m 39 #[rv w16] [(.ref w16), (.ref w16)]) _
    refine Jvm.RoadKit.acmp (g := (mkF m 39 #[rv w16] [(.ref w16), (.ref w16)])) X6 hx rfl rfl rfl (pc0 := 39) (pc' := 42) (same := true) rfl (hb hby d1_39) rfl (decide_eq_true rfl) (by decide) (by decide) ?_
    show SF p e below T6 (mkF m 42 #[rv w16] []) _
    refine XS.iconst X6.here hx rfl (hb hby d1_42) ?_
    show SF p e below T6 (mkF m 43 #[rv w16] [(.int 1)]) _
    refine XS.goto X6.here hx rfl (pc0 := 43) (pc' := 47) rfl (hb hby d1_43) (by decide) (by decide) ?_
    show SF p e below T6 (mkF m 47 #[rv w16] [(.int 1)]) _
    exact retN X6 hx (t := .boolean) Bd.returns (by simp) (hb hby d1_47) hr
  · show Q1_16 Z w16 w1 w11 w13 w14 w15 h0 n0 _ T6.heap _
    rw [e6]
    exact ⟨rfl, N0, rfl⟩
-- XpathTokens$Kind.beginsStep 
def Q1_17 (Z : State) (w17 : Addr) (w1 : Addr) (w11 : Addr) (w13 : Addr) (w14 : Addr) (w15 : Addr) (w16 : Addr) (h0 : Heap) (n0 : Nat) (v : Option Value) (h : Heap) (L : List Loc) : Prop := v = some (.int 0) ∧ Fr n0 L ∧ h = h0
set_option maxRecDepth 65536 in
set_option maxHeartbeats 40000000 in
theorem rm1_17 (l : Launch) (Z : State) (a0 : Array Value) (hw : HW Z a0) (ws : List Jvm.Cond) (w17 : Addr) (w1 : Addr) (w11 : Addr) (w13 : Addr) (w14 : Addr) (w15 : Addr) (w16 : Addr) (h0 : Heap) (n0 : Nat) (Z0 : n0 ≤ h0.size) (Sg0 : Sta Z Z.heap "com/example/edictum/edictum/io/XpathTokens$Kind" "AT" "Lcom/example/edictum/edictum/io/XpathTokens$Kind;" (.ref w1)) (P2 : Old Z n0 h0) (F_w17_ordinal : Fld Z Z.heap w17 "java/lang/Enum" "ordinal" "I" (.int 16)) (F_w1_ordinal : Fld Z Z.heap w1 "java/lang/Enum" "ordinal" "I" (.int 0)) (Sg20 : Sta Z Z.heap "com/example/edictum/edictum/io/XpathTokens$Kind" "AXIS" "Lcom/example/edictum/edictum/io/XpathTokens$Kind;" (.ref w11)) (F_w11_ordinal : Fld Z Z.heap w11 "java/lang/Enum" "ordinal" "I" (.int 10)) (Sg24 : Sta Z Z.heap "com/example/edictum/edictum/io/XpathTokens$Kind" "NODE_TYPE" "Lcom/example/edictum/edictum/io/XpathTokens$Kind;" (.ref w13)) (F_w13_ordinal : Fld Z Z.heap w13 "java/lang/Enum" "ordinal" "I" (.int 12)) (Sg26 : Sta Z Z.heap "com/example/edictum/edictum/io/XpathTokens$Kind" "NAME_TEST" "Lcom/example/edictum/edictum/io/XpathTokens$Kind;" (.ref w14)) (F_w14_ordinal : Fld Z Z.heap w14 "java/lang/Enum" "ordinal" "I" (.int 13)) (Sg28 : Sta Z Z.heap "com/example/edictum/edictum/io/XpathTokens$Kind" "DOT" "Lcom/example/edictum/edictum/io/XpathTokens$Kind;" (.ref w15)) (F_w15_ordinal : Fld Z Z.heap w15 "java/lang/Enum" "ordinal" "I" (.int 14)) (Sg30 : Sta Z Z.heap "com/example/edictum/edictum/io/XpathTokens$Kind" "DOT_DOT" "Lcom/example/edictum/edictum/io/XpathTokens$Kind;" (.ref w16)) (F_w16_ordinal : Fld Z Z.heap w16 "java/lang/Enum" "ordinal" "I" (.int 15)) :
    MF l Z (⟨"com/example/edictum/edictum/io/XpathTokens$Kind", "beginsStep", "()Z"⟩ : MethodName) (Jvm.Cond.code (⟨"com/example/edictum/edictum/io/XpathTokens$Kind", "beginsStep", "()Z"⟩ : MethodName) prog_252_method_5_code 1 (some .boolean)) ws ({ frames := 0, cells := 0, slots := 0, locals := 0 } : Room) #[(.ref w17)] h0 (Q1_17 Z w17 w1 w11 w13 w14 w15 w16 h0 n0) := by
  refine MetFree.of_bodySF (plainFor_of_name pn_0) hisR ?_
  intro p e s m args below meth c s₁ Bd hml0 hP hK
  obtain ⟨rfl, hZ, hh⟩ := hP
  have hx := Bd.exec
  have hby := Bd.bytes
  have hml : c.maxLocals = 1 := hml0
  have hown : s.vm.findClass "com/example/edictum/edictum/io/XpathTokens$Kind" = some m.cls := findClass_of_methodNamed Bd.named
  have hnm := (name_of_methodNamed Bd.named Bd.method).1
  have X0 : Stand p l e ({ frames := 0, cells := 0, slots := 0, locals := 0 } : Room) s m #[(.ref w17)] below meth c s₁ [] 0 0 := Stand.of_body Bd
  have e0 : s₁.heap = h0 := by rw [← hh, Bd.state]; rfl
  have N0 := Fr.nil n0
  have pre0 : ∀ t, SF p e below s₁ (mkF m 0 #[rv w17] []) t → SF p e below s₁ (entryFrame m #[(.ref w17)] 1) t := fun t k => castTop (ef_0 m w17) k
  obtain ⟨T1, X1, e1, st1⟩ := getS2 X0 hx hZ hown (host := "") (Or.inl (tw hw 47 rfl)) Via.refl e0 (Sg0.ext P2.2) (g := (mkF m 1 #[rv w17] [(.ref w17)])) rfl (hb hby d1_1)
  obtain ⟨T2, X2, e2, st2⟩ := getS2 X1 hx hZ hown (host := "") (Or.inl (tw hw 48 rfl)) Via.refl e1 (Sg20.ext P2.2) (g := (mkF m 8 #[rv w17] [(.ref w17)])) rfl (hb hby d1_8)
  obtain ⟨T3, X3, e3, st3⟩ := getS2 X2 hx hZ hown (host := "") (Or.inl (tw hw 49 rfl)) Via.refl e2 (Sg24.ext P2.2) (g := (mkF m 15 #[rv w17] [(.ref w17)])) rfl (hb hby d1_15)
  obtain ⟨T4, X4, e4, st4⟩ := getS2 X3 hx hZ hown (host := "") (Or.inl (tw hw 50 rfl)) Via.refl e3 (Sg26.ext P2.2) (g := (mkF m 22 #[rv w17] [(.ref w17)])) rfl (hb hby d1_22)
  obtain ⟨T5, X5, e5, st5⟩ := getS2 X4 hx hZ hown (host := "") (Or.inl (tw hw 51 rfl)) Via.refl e4 (Sg28.ext P2.2) (g := (mkF m 29 #[rv w17] [(.ref w17)])) rfl (hb hby d1_29)
  obtain ⟨T6, X6, e6, st6⟩ := getS2 X5 hx hZ hown (host := "") (Or.inl (tw hw 52 rfl)) Via.refl e5 (Sg30.ext P2.2) (g := (mkF m 36 #[rv w17] [(.ref w17)])) rfl (hb hby d1_36)
  obtain ⟨fs, hr, hrun, hended, hW, hsame⟩ := X6.leave (v := some (.int 0)) (fun h => by rw [Bd.returns] at h; cases h)
  refine ⟨_, _, pre0 _ ?_, hrun, hended, _, _, rfl, ?_, ⟨_, rfl⟩, hW, hsame.mono (by decide) (by decide)⟩
  · show SF p e below s₁ (mkF m 0 #[rv w17] []) _
    refine XS.aloadN X0.here hx rfl (hb hby d1_0) rfl rfl ?_
    show SF p e below s₁ (mkF m 1 #[rv w17] [(.ref w17)]) _
    refine st1 _ ?_
    show SF p e below T1 (mkF m 4 #[rv w17] [(.ref w1), (.ref w17)]) _
    refine Jvm.RoadKit.acmp (g := (mkF m 4 #[rv w17] [(.ref w1), (.ref w17)])) X1 hx rfl rfl rfl (pc0 := 4) (pc' := 7) (same := false) rfl (hb hby d1_4) rfl (decide_eq_false fun q => (Fld.ne F_w17_ordinal F_w1_ordinal (by decide)) (Value.ref.inj q)) (by decide) (by decide) ?_
    show SF p e below T1 (mkF m 7 #[rv w17] []) _
    refine XS.aloadN X1.here hx rfl (hb hby d1_7) rfl rfl ?_
    show SF p e below T1 (mkF m 8 #[rv w17] [(.ref w17)]) _
    refine st2 _ ?_
    show SF p e below T2 (mkF m 11 #[rv w17] [(.ref w11), (.ref w17)]) _
    refine Jvm.RoadKit.acmp (g := (mkF m 11 #[rv w17] [(.ref w11), (.ref w17)])) X2 hx rfl rfl rfl (pc0 := 11) (pc' := 14) (same := false) rfl (hb hby d1_11) rfl (decide_eq_false fun q => (Fld.ne F_w17_ordinal F_w11_ordinal (by decide)) (Value.ref.inj q)) (by decide) (by decide) ?_
    show SF p e below T2 (mkF m 14 #[rv w17] []) _
    refine XS.aloadN X2.here hx rfl (hb hby d1_14) rfl rfl ?_
    show SF p e below T2 (mkF m 15 #[rv w17] [(.ref w17)]) _
    refine st3 _ ?_
    show SF p e below T3 (mkF m 18 #[rv w17] [(.ref w13), (.ref w17)]) _
    refine Jvm.RoadKit.acmp (g := (mkF m 18 #[rv w17] [(.ref w13), (.ref w17)])) X3 hx rfl rfl rfl (pc0 := 18) (pc' := 21) (same := false) rfl (hb hby d1_18) rfl (decide_eq_false fun q => (Fld.ne F_w17_ordinal F_w13_ordinal (by decide)) (Value.ref.inj q)) (by decide) (by decide) ?_
    show SF p e below T3 (mkF m 21 #[rv w17] []) _
    refine XS.aloadN X3.here hx rfl (hb hby d1_21) rfl rfl ?_
    show SF p e below T3 (mkF m 22 #[rv w17] [(.ref w17)]) _
    refine st4 _ ?_
    show SF p e below T4 (mkF m 25 #[rv w17] [(.ref w14), (.ref w17)]) _
    refine Jvm.RoadKit.acmp (g := (mkF m 25 #[rv w17] [(.ref w14), (.ref w17)])) X4 hx rfl rfl rfl (pc0 := 25) (pc' := 28) (same := false) rfl (hb hby d1_25) rfl (decide_eq_false fun q => (Fld.ne F_w17_ordinal F_w14_ordinal (by decide)) (Value.ref.inj q)) (by decide) (by decide) ?_
    show SF p e below T4 (mkF m 28 #[rv w17] []) _
    refine XS.aloadN X4.here hx rfl (hb hby d1_28) rfl rfl ?_
    show SF p e below T4 (mkF m 29 #[rv w17] [(.ref w17)]) _
    refine st5 _ ?_
    show SF p e below T5 (mkF m 32 #[rv w17] [(.ref w15), (.ref w17)]) _
    refine Jvm.RoadKit.acmp (g := (mkF m 32 #[rv w17] [(.ref w15), (.ref w17)])) X5 hx rfl rfl rfl (pc0 := 32) (pc' := 35) (same := false) rfl (hb hby d1_32) rfl (decide_eq_false fun q => (Fld.ne F_w17_ordinal F_w15_ordinal (by decide)) (Value.ref.inj q)) (by decide) (by decide) ?_
    show SF p e below T5 (mkF m 35 #[rv w17] []) _
    refine XS.aloadN X5.here hx rfl (hb hby d1_35) rfl rfl ?_
    show SF p e below T5 (mkF m 36 #[rv w17] [(.ref w17)]) _
    refine st6 _ ?_
    show SF p e below T6 (mkF m 39 #[rv w17] [(.ref w16), (.ref w17)]) _
    refine Jvm.RoadKit.acmp (g := (mkF m 39 #[rv w17] [(.ref w16), (.ref w17)])) X6 hx rfl rfl rfl (pc0 := 39) (pc' := 46) (same := false) rfl (hb hby d1_39) rfl (decide_eq_false fun q => (Fld.ne F_w17_ordinal F_w16_ordinal (by decide)) (Value.ref.inj q)) (by decide) (by decide) ?_
    show SF p e below T6 (mkF m 46 #[rv w17] []) _
    refine XS.iconst X6.here hx rfl (hb hby d1_46) ?_
    show SF p e below T6 (mkF m 47 #[rv w17] [(.int 0)]) _
    exact retN X6 hx (t := .boolean) Bd.returns (by simp) (hb hby d1_47) hr
  · show Q1_17 Z w17 w1 w11 w13 w14 w15 w16 h0 n0 _ T6.heap _
    rw [e6]
    exact ⟨rfl, N0, rfl⟩
-- XpathTokens$Kind.beginsStep 
def Q1_18 (Z : State) (w18 : Addr) (w1 : Addr) (w11 : Addr) (w13 : Addr) (w14 : Addr) (w15 : Addr) (w16 : Addr) (h0 : Heap) (n0 : Nat) (v : Option Value) (h : Heap) (L : List Loc) : Prop := v = some (.int 0) ∧ Fr n0 L ∧ h = h0
set_option maxRecDepth 65536 in
set_option maxHeartbeats 40000000 in
theorem rm1_18 (l : Launch) (Z : State) (a0 : Array Value) (hw : HW Z a0) (ws : List Jvm.Cond) (w18 : Addr) (w1 : Addr) (w11 : Addr) (w13 : Addr) (w14 : Addr) (w15 : Addr) (w16 : Addr) (h0 : Heap) (n0 : Nat) (Z0 : n0 ≤ h0.size) (Sg0 : Sta Z Z.heap "com/example/edictum/edictum/io/XpathTokens$Kind" "AT" "Lcom/example/edictum/edictum/io/XpathTokens$Kind;" (.ref w1)) (P2 : Old Z n0 h0) (F_w18_ordinal : Fld Z Z.heap w18 "java/lang/Enum" "ordinal" "I" (.int 17)) (F_w1_ordinal : Fld Z Z.heap w1 "java/lang/Enum" "ordinal" "I" (.int 0)) (Sg20 : Sta Z Z.heap "com/example/edictum/edictum/io/XpathTokens$Kind" "AXIS" "Lcom/example/edictum/edictum/io/XpathTokens$Kind;" (.ref w11)) (F_w11_ordinal : Fld Z Z.heap w11 "java/lang/Enum" "ordinal" "I" (.int 10)) (Sg24 : Sta Z Z.heap "com/example/edictum/edictum/io/XpathTokens$Kind" "NODE_TYPE" "Lcom/example/edictum/edictum/io/XpathTokens$Kind;" (.ref w13)) (F_w13_ordinal : Fld Z Z.heap w13 "java/lang/Enum" "ordinal" "I" (.int 12)) (Sg26 : Sta Z Z.heap "com/example/edictum/edictum/io/XpathTokens$Kind" "NAME_TEST" "Lcom/example/edictum/edictum/io/XpathTokens$Kind;" (.ref w14)) (F_w14_ordinal : Fld Z Z.heap w14 "java/lang/Enum" "ordinal" "I" (.int 13)) (Sg28 : Sta Z Z.heap "com/example/edictum/edictum/io/XpathTokens$Kind" "DOT" "Lcom/example/edictum/edictum/io/XpathTokens$Kind;" (.ref w15)) (F_w15_ordinal : Fld Z Z.heap w15 "java/lang/Enum" "ordinal" "I" (.int 14)) (Sg30 : Sta Z Z.heap "com/example/edictum/edictum/io/XpathTokens$Kind" "DOT_DOT" "Lcom/example/edictum/edictum/io/XpathTokens$Kind;" (.ref w16)) (F_w16_ordinal : Fld Z Z.heap w16 "java/lang/Enum" "ordinal" "I" (.int 15)) :
    MF l Z (⟨"com/example/edictum/edictum/io/XpathTokens$Kind", "beginsStep", "()Z"⟩ : MethodName) (Jvm.Cond.code (⟨"com/example/edictum/edictum/io/XpathTokens$Kind", "beginsStep", "()Z"⟩ : MethodName) prog_252_method_5_code 1 (some .boolean)) ws ({ frames := 0, cells := 0, slots := 0, locals := 0 } : Room) #[(.ref w18)] h0 (Q1_18 Z w18 w1 w11 w13 w14 w15 w16 h0 n0) := by
  refine MetFree.of_bodySF (plainFor_of_name pn_0) hisR ?_
  intro p e s m args below meth c s₁ Bd hml0 hP hK
  obtain ⟨rfl, hZ, hh⟩ := hP
  have hx := Bd.exec
  have hby := Bd.bytes
  have hml : c.maxLocals = 1 := hml0
  have hown : s.vm.findClass "com/example/edictum/edictum/io/XpathTokens$Kind" = some m.cls := findClass_of_methodNamed Bd.named
  have hnm := (name_of_methodNamed Bd.named Bd.method).1
  have X0 : Stand p l e ({ frames := 0, cells := 0, slots := 0, locals := 0 } : Room) s m #[(.ref w18)] below meth c s₁ [] 0 0 := Stand.of_body Bd
  have e0 : s₁.heap = h0 := by rw [← hh, Bd.state]; rfl
  have N0 := Fr.nil n0
  have pre0 : ∀ t, SF p e below s₁ (mkF m 0 #[rv w18] []) t → SF p e below s₁ (entryFrame m #[(.ref w18)] 1) t := fun t k => castTop (ef_0 m w18) k
  obtain ⟨T1, X1, e1, st1⟩ := getS2 X0 hx hZ hown (host := "") (Or.inl (tw hw 47 rfl)) Via.refl e0 (Sg0.ext P2.2) (g := (mkF m 1 #[rv w18] [(.ref w18)])) rfl (hb hby d1_1)
  obtain ⟨T2, X2, e2, st2⟩ := getS2 X1 hx hZ hown (host := "") (Or.inl (tw hw 48 rfl)) Via.refl e1 (Sg20.ext P2.2) (g := (mkF m 8 #[rv w18] [(.ref w18)])) rfl (hb hby d1_8)
  obtain ⟨T3, X3, e3, st3⟩ := getS2 X2 hx hZ hown (host := "") (Or.inl (tw hw 49 rfl)) Via.refl e2 (Sg24.ext P2.2) (g := (mkF m 15 #[rv w18] [(.ref w18)])) rfl (hb hby d1_15)
  obtain ⟨T4, X4, e4, st4⟩ := getS2 X3 hx hZ hown (host := "") (Or.inl (tw hw 50 rfl)) Via.refl e3 (Sg26.ext P2.2) (g := (mkF m 22 #[rv w18] [(.ref w18)])) rfl (hb hby d1_22)
  obtain ⟨T5, X5, e5, st5⟩ := getS2 X4 hx hZ hown (host := "") (Or.inl (tw hw 51 rfl)) Via.refl e4 (Sg28.ext P2.2) (g := (mkF m 29 #[rv w18] [(.ref w18)])) rfl (hb hby d1_29)
  obtain ⟨T6, X6, e6, st6⟩ := getS2 X5 hx hZ hown (host := "") (Or.inl (tw hw 52 rfl)) Via.refl e5 (Sg30.ext P2.2) (g := (mkF m 36 #[rv w18] [(.ref w18)])) rfl (hb hby d1_36)
  obtain ⟨fs, hr, hrun, hended, hW, hsame⟩ := X6.leave (v := some (.int 0)) (fun h => by rw [Bd.returns] at h; cases h)
  refine ⟨_, _, pre0 _ ?_, hrun, hended, _, _, rfl, ?_, ⟨_, rfl⟩, hW, hsame.mono (by decide) (by decide)⟩
  · show SF p e below s₁ (mkF m 0 #[rv w18] []) _
    refine XS.aloadN X0.here hx rfl (hb hby d1_0) rfl rfl ?_
    show SF p e below s₁ (mkF m 1 #[rv w18] [(.ref w18)]) _
    refine st1 _ ?_
    show SF p e below T1 (mkF m 4 #[rv w18] [(.ref w1), (.ref w18)]) _
    refine Jvm.RoadKit.acmp (g := (mkF m 4 #[rv w18] [(.ref w1), (.ref w18)])) X1 hx rfl rfl rfl (pc0 := 4) (pc' := 7) (same := false) rfl (hb hby d1_4) rfl (decide_eq_false fun q => (Fld.ne F_w18_ordinal F_w1_ordinal (by decide)) (Value.ref.inj q)) (by decide) (by decide) ?_
    show SF p e below T1 (mkF m 7 #[rv w18] []) _
    refine XS.aloadN X1.here hx rfl (hb hby d1_7) rfl rfl ?_
    show SF p e below T1 (mkF m 8 #[rv w18] [(.ref w18)]) _
    refine st2 _ ?_
    show SF p e below T2 (mkF m 11 #[rv w18] [(.ref w11), (.ref w18)]) _
    refine Jvm.RoadKit.acmp (g := (mkF m 11 #[rv w18] [(.ref w11), (.ref w18)])) X2 hx rfl rfl rfl (pc0 := 11) (pc' := 14) (same := false) rfl (hb hby d1_11) rfl (decide_eq_false fun q => (Fld.ne F_w18_ordinal F_w11_ordinal (by decide)) (Value.ref.inj q)) (by decide) (by decide) ?_
    show SF p e below T2 (mkF m 14 #[rv w18] []) _
    refine XS.aloadN X2.here hx rfl (hb hby d1_14) rfl rfl ?_
    show SF p e below T2 (mkF m 15 #[rv w18] [(.ref w18)]) _
    refine st3 _ ?_
    show SF p e below T3 (mkF m 18 #[rv w18] [(.ref w13), (.ref w18)]) _
    refine Jvm.RoadKit.acmp (g := (mkF m 18 #[rv w18] [(.ref w13), (.ref w18)])) X3 hx rfl rfl rfl (pc0 := 18) (pc' := 21) (same := false) rfl (hb hby d1_18) rfl (decide_eq_false fun q => (Fld.ne F_w18_ordinal F_w13_ordinal (by decide)) (Value.ref.inj q)) (by decide) (by decide) ?_
    show SF p e below T3 (mkF m 21 #[rv w18] []) _
    refine XS.aloadN X3.here hx rfl (hb hby d1_21) rfl rfl ?_
    show SF p e below T3 (mkF m 22 #[rv w18] [(.ref w18)]) _
    refine st4 _ ?_
    show SF p e below T4 (mkF m 25 #[rv w18] [(.ref w14), (.ref w18)]) _
    refine Jvm.RoadKit.acmp (g := (mkF m 25 #[rv w18] [(.ref w14), (.ref w18)])) X4 hx rfl rfl rfl (pc0 := 25) (pc' := 28) (same := false) rfl (hb hby d1_25) rfl (decide_eq_false fun q => (Fld.ne F_w18_ordinal F_w14_ordinal (by decide)) (Value.ref.inj q)) (by decide) (by decide) ?_
    show SF p e below T4 (mkF m 28 #[rv w18] []) _
    refine XS.aloadN X4.here hx rfl (hb hby d1_28) rfl rfl ?_
    show SF p e below T4 (mkF m 29 #[rv w18] [(.ref w18)]) _
    refine st5 _ ?_
    show SF p e below T5 (mkF m 32 #[rv w18] [(.ref w15), (.ref w18)]) _
    refine Jvm.RoadKit.acmp (g := (mkF m 32 #[rv w18] [(.ref w15), (.ref w18)])) X5 hx rfl rfl rfl (pc0 := 32) (pc' := 35) (same := false) rfl (hb hby d1_32) rfl (decide_eq_false fun q => (Fld.ne F_w18_ordinal F_w15_ordinal (by decide)) (Value.ref.inj q)) (by decide) (by decide) ?_
    show SF p e below T5 (mkF m 35 #[rv w18] []) _
    refine XS.aloadN X5.here hx rfl (hb hby d1_35) rfl rfl ?_
    show SF p e below T5 (mkF m 36 #[rv w18] [(.ref w18)]) _
    refine st6 _ ?_
    show SF p e below T6 (mkF m 39 #[rv w18] [(.ref w16), (.ref w18)]) _
    refine Jvm.RoadKit.acmp (g := (mkF m 39 #[rv w18] [(.ref w16), (.ref w18)])) X6 hx rfl rfl rfl (pc0 := 39) (pc' := 46) (same := false) rfl (hb hby d1_39) rfl (decide_eq_false fun q => (Fld.ne F_w18_ordinal F_w16_ordinal (by decide)) (Value.ref.inj q)) (by decide) (by decide) ?_
    show SF p e below T6 (mkF m 46 #[rv w18] []) _
    refine XS.iconst X6.here hx rfl (hb hby d1_46) ?_
    show SF p e below T6 (mkF m 47 #[rv w18] [(.int 0)]) _
    exact retN X6 hx (t := .boolean) Bd.returns (by simp) (hb hby d1_47) hr
  · show Q1_18 Z w18 w1 w11 w13 w14 w15 w16 h0 n0 _ T6.heap _
    rw [e6]
    exact ⟨rfl, N0, rfl⟩
set_option maxRecDepth 65536 in
set_option maxHeartbeats 400000000 in
theorem pc_9 {p : Program} {l : Launch} {e : Env} {s : State} {m : MethodId} {below : List Frame} {meth : Method} {c : Code} {T0 : State} {locs : List Loc} {Z : State} {a0 : Array Value} {h0 : Heap} {n0 : Nat} {p0s : Int32} {w1 : Addr} {w2 : Addr} {w3 : Addr} {w4 : Addr} {w5 : Addr} {w6 : Addr} {w7 : Addr} {w8 : Addr} {w9 : Addr} {w10 : Addr} {w11 : Addr} {w12 : Addr} {w13 : Addr} {w14 : Addr} {w15 : Addr} {w16 : Addr} {w17 : Addr} {w18 : Addr} {o1 : Addr} {o2 : Addr} {kk1 : ClassId} {kk2 : ClassId} (X0 : Stand p l e room_1 s m #[(.int p0s)] below meth c T0 locs 2 36) (hx : p.tables.exec = Jvm.exec) (hZ : Z.Warmed39 s.vm) (hw : HW Z a0) (hby : c.code = code) (hml : c.maxLocals = 4) (hown : s.vm.findClass "com/example/edictum/edictum/io/KindBeginsStepPinLaw" = some m.cls) (hre : meth.sig.returnType = some .boolean) (hlk : meth.locks = false) (e0 : T0.heap = h0) (N0 : Fr n0 locs) (Z0 : n0 ≤ h0.size) (O0 : Old Z n0 h0) (Sg0 : Sta Z Z.heap "com/example/edictum/edictum/io/XpathTokens$Kind" "AT" "Lcom/example/edictum/edictum/io/XpathTokens$Kind;" (.ref w1)) (E_w1 : Exa Z Z.heap w1 "com/example/edictum/edictum/io/XpathTokens$Kind") (Sg2 : Sta Z Z.heap "com/example/edictum/edictum/io/XpathTokens$Kind" "AXIS_SEPARATOR" "Lcom/example/edictum/edictum/io/XpathTokens$Kind;" (.ref w2)) (E_w2 : Exa Z Z.heap w2 "com/example/edictum/edictum/io/XpathTokens$Kind") (Sg4 : Sta Z Z.heap "com/example/edictum/edictum/io/XpathTokens$Kind" "LEFT_PAREN" "Lcom/example/edictum/edictum/io/XpathTokens$Kind;" (.ref w3)) (E_w3 : Exa Z Z.heap w3 "com/example/edictum/edictum/io/XpathTokens$Kind") (Sg6 : Sta Z Z.heap "com/example/edictum/edictum/io/XpathTokens$Kind" "LEFT_BRACKET" "Lcom/example/edictum/edictum/io/XpathTokens$Kind;" (.ref w4)) (E_w4 : Exa Z Z.heap w4 "com/example/edictum/edictum/io/XpathTokens$Kind") (Sg8 : Sta Z Z.heap "com/example/edictum/edictum/io/XpathTokens$Kind" "COMMA" "Lcom/example/edictum/edictum/io/XpathTokens$Kind;" (.ref w5)) (E_w5 : Exa Z Z.heap w5 "com/example/edictum/edictum/io/XpathTokens$Kind") (Sg10 : Sta Z Z.heap "com/example/edictum/edictum/io/XpathTokens$Kind" "RIGHT_PAREN" "Lcom/example/edictum/edictum/io/XpathTokens$Kind;" (.ref w6)) (E_w6 : Exa Z Z.heap w6 "com/example/edictum/edictum/io/XpathTokens$Kind") (Sg12 : Sta Z Z.heap "com/example/edictum/edictum/io/XpathTokens$Kind" "RIGHT_BRACKET" "Lcom/example/edictum/edictum/io/XpathTokens$Kind;" (.ref w7)) (E_w7 : Exa Z Z.heap w7 "com/example/edictum/edictum/io/XpathTokens$Kind") (Sg14 : Sta Z Z.heap "com/example/edictum/edictum/io/XpathTokens$Kind" "SLASH" "Lcom/example/edictum/edictum/io/XpathTokens$Kind;" (.ref w8)) (E_w8 : Exa Z Z.heap w8 "com/example/edictum/edictum/io/XpathTokens$Kind") (Sg16 : Sta Z Z.heap "com/example/edictum/edictum/io/XpathTokens$Kind" "DOUBLE_SLASH" "Lcom/example/edictum/edictum/io/XpathTokens$Kind;" (.ref w9)) (E_w9 : Exa Z Z.heap w9 "com/example/edictum/edictum/io/XpathTokens$Kind") (Sg18 : Sta Z Z.heap "com/example/edictum/edictum/io/XpathTokens$Kind" "OPERATOR" "Lcom/example/edictum/edictum/io/XpathTokens$Kind;" (.ref w10)) (E_w10 : Exa Z Z.heap w10 "com/example/edictum/edictum/io/XpathTokens$Kind") (Sg20 : Sta Z Z.heap "com/example/edictum/edictum/io/XpathTokens$Kind" "AXIS" "Lcom/example/edictum/edictum/io/XpathTokens$Kind;" (.ref w11)) (E_w11 : Exa Z Z.heap w11 "com/example/edictum/edictum/io/XpathTokens$Kind") (Sg22 : Sta Z Z.heap "com/example/edictum/edictum/io/XpathTokens$Kind" "FUNCTION" "Lcom/example/edictum/edictum/io/XpathTokens$Kind;" (.ref w12)) (E_w12 : Exa Z Z.heap w12 "com/example/edictum/edictum/io/XpathTokens$Kind") (Sg24 : Sta Z Z.heap "com/example/edictum/edictum/io/XpathTokens$Kind" "NODE_TYPE" "Lcom/example/edictum/edictum/io/XpathTokens$Kind;" (.ref w13)) (E_w13 : Exa Z Z.heap w13 "com/example/edictum/edictum/io/XpathTokens$Kind") (Sg26 : Sta Z Z.heap "com/example/edictum/edictum/io/XpathTokens$Kind" "NAME_TEST" "Lcom/example/edictum/edictum/io/XpathTokens$Kind;" (.ref w14)) (E_w14 : Exa Z Z.heap w14 "com/example/edictum/edictum/io/XpathTokens$Kind") (Sg28 : Sta Z Z.heap "com/example/edictum/edictum/io/XpathTokens$Kind" "DOT" "Lcom/example/edictum/edictum/io/XpathTokens$Kind;" (.ref w15)) (E_w15 : Exa Z Z.heap w15 "com/example/edictum/edictum/io/XpathTokens$Kind") (Sg30 : Sta Z Z.heap "com/example/edictum/edictum/io/XpathTokens$Kind" "DOT_DOT" "Lcom/example/edictum/edictum/io/XpathTokens$Kind;" (.ref w16)) (E_w16 : Exa Z Z.heap w16 "com/example/edictum/edictum/io/XpathTokens$Kind") (Sg32 : Sta Z Z.heap "com/example/edictum/edictum/io/XpathTokens$Kind" "LITERAL" "Lcom/example/edictum/edictum/io/XpathTokens$Kind;" (.ref w17)) (E_w17 : Exa Z Z.heap w17 "com/example/edictum/edictum/io/XpathTokens$Kind") (Sg34 : Sta Z Z.heap "com/example/edictum/edictum/io/XpathTokens$Kind" "NUMBER" "Lcom/example/edictum/edictum/io/XpathTokens$Kind;" (.ref w18)) (E_w18 : Exa Z Z.heap w18 "com/example/edictum/edictum/io/XpathTokens$Kind") (F_w4_ordinal : Fld Z Z.heap w4 "java/lang/Enum" "ordinal" "I" (.int 3)) (F_w1_ordinal : Fld Z Z.heap w1 "java/lang/Enum" "ordinal" "I" (.int 0)) (F_w11_ordinal : Fld Z Z.heap w11 "java/lang/Enum" "ordinal" "I" (.int 10)) (F_w13_ordinal : Fld Z Z.heap w13 "java/lang/Enum" "ordinal" "I" (.int 12)) (F_w14_ordinal : Fld Z Z.heap w14 "java/lang/Enum" "ordinal" "I" (.int 13)) (F_w15_ordinal : Fld Z Z.heap w15 "java/lang/Enum" "ordinal" "I" (.int 14)) (F_w16_ordinal : Fld Z Z.heap w16 "java/lang/Enum" "ordinal" "I" (.int 15)) (F_w3_ordinal : Fld Z Z.heap w3 "java/lang/Enum" "ordinal" "I" (.int 2)) (F_w2_ordinal : Fld Z Z.heap w2 "java/lang/Enum" "ordinal" "I" (.int 1)) (F_w8_ordinal : Fld Z Z.heap w8 "java/lang/Enum" "ordinal" "I" (.int 7)) (F_w12_ordinal : Fld Z Z.heap w12 "java/lang/Enum" "ordinal" "I" (.int 11)) (F_w5_ordinal : Fld Z Z.heap w5 "java/lang/Enum" "ordinal" "I" (.int 4)) (F_w9_ordinal : Fld Z Z.heap w9 "java/lang/Enum" "ordinal" "I" (.int 8)) (F_w17_ordinal : Fld Z Z.heap w17 "java/lang/Enum" "ordinal" "I" (.int 16)) (F_w7_ordinal : Fld Z Z.heap w7 "java/lang/Enum" "ordinal" "I" (.int 6)) (F_w18_ordinal : Fld Z Z.heap w18 "java/lang/Enum" "ordinal" "I" (.int 17)) (F_w6_ordinal : Fld Z Z.heap w6 "java/lang/Enum" "ordinal" "I" (.int 5)) (F_w10_ordinal : Fld Z Z.heap w10 "java/lang/Enum" "ordinal" "I" (.int 9)) (P1 : Arv Z h0 o1 kk1 (.object "com/example/edictum/edictum/io/XpathTokens$Kind") (18 : Int32) [(.ref w1), (.ref w2), (.ref w3), (.ref w4), (.ref w5), (.ref w6), (.ref w7), (.ref w8), (.ref w9), (.ref w10), (.ref w11), (.ref w12), (.ref w13), (.ref w14), (.ref w15), (.ref w16), (.ref w17), (.ref w18)] .null) (P2 : Ovr Z kk1 "com/example/edictum/edictum/io/XpathTokens$Kind") (P3 : Arv Z h0 o2 kk2 .boolean (18 : Int32) [(.int 1), (.int 0), (.int 0), (.int 0), (.int 0), (.int 0), (.int 0), (.int 0), (.int 0), (.int 0), (.int 1), (.int 0), (.int 1), (.int 1), (.int 1), (.int 1), (.int 0), (.int 0)] (.int (0 : Int32))) (P4 : n0 ≤ o1) (P5 : o1 < h0.size) (P6 : n0 ≤ o2) (P7 : o2 < h0.size) (P8 : o1 ≠ o2) :
    Fin p e below s n0 (T0.setTop (mkF m 215 #[iv p0s, rv o1, rv o2, .unset] [])) := by
  have pre0 : ∀ t, SF p e below T0 (mkF m 222 #[iv p0s, rv o1, rv o2, .unset] [(.int ((p0s &&& (2147483647 : Int32)) % (18 : Int32)))]) t → SF p e below T0 (mkF m 215 #[iv p0s, rv o1, rv o2, .unset] []) t := fun t k => by
    show SF p e below T0 (mkF m 215 #[iv p0s, rv o1, rv o2, .unset] []) _
    refine XS.iloadN X0.here hx rfl (hb hby at_215) rfl ?_
    show SF p e below T0 (mkF m 216 #[iv p0s, rv o1, rv o2, .unset] [(.int p0s)]) _
    refine X0.ldcInt hx hown (mvT hZ (tw hw 41 rfl)) (g := (mkF m 216 #[iv p0s, rv o1, rv o2, .unset] [(.int p0s)])) rfl (hb hby at_216) _ ?_
    show SF p e below T0 (mkF m 218 #[iv p0s, rv o1, rv o2, .unset] [(.int 2147483647), (.int p0s)]) _
    refine XS.iand X0.here hx rfl (hb hby at_218) rfl ?_
    show SF p e below T0 (mkF m 219 #[iv p0s, rv o1, rv o2, .unset] [(.int (p0s &&& (2147483647 : Int32)))]) _
    refine XS.bipush X0.here hx rfl (hb hby at_219) ?_
    show SF p e below T0 (mkF m 221 #[iv p0s, rv o1, rv o2, .unset] [(.int 18), (.int (p0s &&& (2147483647 : Int32)))]) _
    refine iremM X0 hx rfl (hb hby at_221) rfl (by decide) ?_
    exact k
  rcases own_mod18 p0s with hc1 | hc1 | hc1 | hc1 | hc1 | hc1 | hc1 | hc1 | hc1 | hc1 | hc1 | hc1 | hc1 | hc1 | hc1 | hc1 | hc1 | hc1
  · obtain ⟨cl1, Ar1, q1, S1, N1z, H1, G1⟩ := P1
    have hin1 : ¬ ((0 : Int32) < 0 ∨ cl1.slots.size ≤ ((0 : Int32)).toNatClampNeg) := inb_of S1 ⟨by decide, by decide⟩
    have hat1 : cl1.slots[((0 : Int32)).toNatClampNeg]? = some (.ref w1) := Has.at H1 hin1 rfl
    obtain ⟨cq2, kq2, q2a, q2b, q2c⟩ := isOf hZ e0 (E_w1.ext O0.2)
    obtain ⟨_, _, ⟨T2, L2, k2x, n2⟩, -, X2, ⟨Lc2, hQ2, l2, y2, z2⟩, st2⟩ := X0.virtualBack hx (y := (⟨"com/example/edictum/edictum/io/XpathTokens$Kind", "beginsStep", "()Z"⟩ : MethodName)) (z := (⟨"com/example/edictum/edictum/io/XpathTokens$Kind", "beginsStep", "()Z"⟩ : MethodName)) hown (mvT hZ (tw hw 42 rfl)) (mvT hZ (tw hw 43 rfl)) (notFace_of_selects (args := #[]) (mvT hZ (tw hw 45 rfl))) (mvT hZ (tw hw 45 rfl)) (mvT hZ (tw hw 44 rfl)) (by decide) (backOf (W := 0) (rm1_1 l Z a0 hw [] w1 h0 n0 Z0 Sg0 O0) hZ (tw hw 46 rfl) (tw hw 3 rfl) (by decide) (by decide)) q2a q2c (g := (mkF m 226 #[iv p0s, rv o1, rv o2, iv 0] [(.ref w1)])) rfl (by rw [hml]; rfl) (Steps.refl _) (argsL := []) (rest := []) (lenOf pd_0 rfl) rfl (by show 2 * 0 + _ ≤ _; exact Nat.le_of_eq rfl) (hb hby at_226) (fun _ _ => ⟨rfl, e0, (by decide : 2 + 0 ≤ _), (by decide : 36 + 0 ≤ _)⟩)
    dsimp only [Pt.U, Pt.locs, Pt.cells, Pt.slots] at X2 l2 y2 z2 st2 hQ2
    subst l2 y2 z2
    obtain ⟨rfl, N2q, e2⟩ := hQ2
    have N2 := Fr.app N0 N2q
    obtain ⟨cl3, Ar3, q3, S3, N3z, H3, G3⟩ := P3
    have hin3 : ¬ ((0 : Int32) < 0 ∨ cl3.slots.size ≤ ((0 : Int32)).toNatClampNeg) := inb_of S3 ⟨by decide, by decide⟩
    have hat3 : cl3.slots[((0 : Int32)).toNatClampNeg]? = some (.int 1) := Has.at H3 hin3 rfl
    obtain ⟨fs, hr, hrun, hended, hW, hsame⟩ := X2.leave (v := some (.int (1 : Int32))) (fun h => by rw [hre] at h; cases h)
    refine ⟨_, _, pre0 _ (?_), hrun, hended, _, _, rfl, ?_, ⟨_, rfl⟩, hW, hsame.mono (by decide) (by decide)⟩
    · show SF p e below T0 (mkF m 222 #[iv p0s, rv o1, rv o2, .unset] [(.int ((p0s &&& (2147483647 : Int32)) % (18 : Int32)))]) _
      rw [hc1]
      show SF p e below T0 (mkF m 222 #[iv p0s, rv o1, rv o2, .unset] [(.int 0)]) _
      refine XS.istoreN X0.here hx rfl (hb hby at_222) rfl (l' := #[iv p0s, rv o1, rv o2, iv 0]) rfl ?_
      show SF p e below T0 (mkF m 223 #[iv p0s, rv o1, rv o2, iv 0] []) _
      refine XS.aloadN X0.here hx rfl (hb hby at_223) rfl rfl ?_
      show SF p e below T0 (mkF m 224 #[iv p0s, rv o1, rv o2, iv 0] [(.ref o1)]) _
      refine XS.iloadN X0.here hx rfl (hb hby at_224) rfl ?_
      show SF p e below T0 (mkF m 225 #[iv p0s, rv o1, rv o2, iv 0] [(.int 0), (.ref o1)]) _
      refine X0.aaload hx (j := (0 : Int32)) (v := (.ref w1)) (by rw [e0]; exact Ar1.1) (State.isArrayOf_alike hZ.alike Ar1.2.1) rfl Ar1.2.2 hin1 hat1 (g := (mkF m 225 #[iv p0s, rv o1, rv o2, iv 0] [(.int 0), (.ref o1)])) rfl rfl (hb hby at_225) _ ?_
      show SF p e below T0 (mkF m 226 #[iv p0s, rv o1, rv o2, iv 0] [(.ref w1)]) _
      refine st2.trans ?_
      show SF p e below T2 (mkF m 229 #[iv p0s, rv o1, rv o2, iv 0] [(.int 1)]) _
      refine XS.aloadN X2.here hx rfl (hb hby at_229) rfl rfl ?_
      show SF p e below T2 (mkF m 230 #[iv p0s, rv o1, rv o2, iv 0] [(.ref o2), (.int 1)]) _
      refine XS.iloadN X2.here hx rfl (hb hby at_230) rfl ?_
      show SF p e below T2 (mkF m 231 #[iv p0s, rv o1, rv o2, iv 0] [(.int 0), (.ref o2), (.int 1)]) _
      refine X2.baloadBooleans hx (j := (0 : Int32)) (v := (.int 1)) (by rw [e2]; exact Ar3.1) (State.isArrayOf_alike hZ.alike Ar3.2.1) Ar3.2.2 hin3 hat3 (g := (mkF m 231 #[iv p0s, rv o1, rv o2, iv 0] [(.int 0), (.ref o2), (.int 1)])) rfl rfl (hb hby at_231) _ ?_
      show SF p e below T2 (mkF m 232 #[iv p0s, rv o1, rv o2, iv 0] [(.int 1), (.int 1)]) _
      refine XS.icmpNo X2.here hx rfl (hb hby at_232) rfl (teq (by decide : (1 : Int32) = (1 : Int32))).2 ?_
      show SF p e below T2 (mkF m 235 #[iv p0s, rv o1, rv o2, iv 0] []) _
      refine XS.iconst X2.here hx rfl (hb hby at_235) ?_
      show SF p e below T2 (mkF m 236 #[iv p0s, rv o1, rv o2, iv 0] [(.int 1)]) _
      refine XS.goto X2.here hx rfl (pc0 := 236) (pc' := 240) rfl (hb hby at_236) (by decide) (by decide) ?_
      show SF p e below T2 (mkF m 240 #[iv p0s, rv o1, rv o2, iv 0] [(.int 1)]) _
      exact retN X2 hx (t := .boolean) hre (by simp) (hb hby at_240) hr
    · exact ⟨rfl, N2⟩
  · obtain ⟨cl1, Ar1, q1, S1, N1z, H1, G1⟩ := P1
    have hin1 : ¬ ((1 : Int32) < 0 ∨ cl1.slots.size ≤ ((1 : Int32)).toNatClampNeg) := inb_of S1 ⟨by decide, by decide⟩
    have hat1 : cl1.slots[((1 : Int32)).toNatClampNeg]? = some (.ref w2) := Has.at H1 hin1 rfl
    obtain ⟨cq2, kq2, q2a, q2b, q2c⟩ := isOf hZ e0 (E_w2.ext O0.2)
    obtain ⟨_, _, ⟨T2, L2, k2x, n2⟩, -, X2, ⟨Lc2, hQ2, l2, y2, z2⟩, st2⟩ := X0.virtualBack hx (y := (⟨"com/example/edictum/edictum/io/XpathTokens$Kind", "beginsStep", "()Z"⟩ : MethodName)) (z := (⟨"com/example/edictum/edictum/io/XpathTokens$Kind", "beginsStep", "()Z"⟩ : MethodName)) hown (mvT hZ (tw hw 42 rfl)) (mvT hZ (tw hw 43 rfl)) (notFace_of_selects (args := #[]) (mvT hZ (tw hw 45 rfl))) (mvT hZ (tw hw 45 rfl)) (mvT hZ (tw hw 44 rfl)) (by decide) (backOf (W := 0) (rm1_2 l Z a0 hw [] w2 w1 w11 w13 w14 w15 w16 h0 n0 Z0 Sg0 O0 F_w2_ordinal F_w1_ordinal Sg20 F_w11_ordinal Sg24 F_w13_ordinal Sg26 F_w14_ordinal Sg28 F_w15_ordinal Sg30 F_w16_ordinal) hZ (tw hw 46 rfl) (tw hw 3 rfl) (by decide) (by decide)) q2a q2c (g := (mkF m 226 #[iv p0s, rv o1, rv o2, iv 1] [(.ref w2)])) rfl (by rw [hml]; rfl) (Steps.refl _) (argsL := []) (rest := []) (lenOf pd_0 rfl) rfl (by show 2 * 0 + _ ≤ _; exact Nat.le_of_eq rfl) (hb hby at_226) (fun _ _ => ⟨rfl, e0, (by decide : 2 + 0 ≤ _), (by decide : 36 + 0 ≤ _)⟩)
    dsimp only [Pt.U, Pt.locs, Pt.cells, Pt.slots] at X2 l2 y2 z2 st2 hQ2
    subst l2 y2 z2
    obtain ⟨rfl, N2q, e2⟩ := hQ2
    have N2 := Fr.app N0 N2q
    obtain ⟨cl3, Ar3, q3, S3, N3z, H3, G3⟩ := P3
    have hin3 : ¬ ((1 : Int32) < 0 ∨ cl3.slots.size ≤ ((1 : Int32)).toNatClampNeg) := inb_of S3 ⟨by decide, by decide⟩
    have hat3 : cl3.slots[((1 : Int32)).toNatClampNeg]? = some (.int 0) := Has.at H3 hin3 rfl
    obtain ⟨fs, hr, hrun, hended, hW, hsame⟩ := X2.leave (v := some (.int (1 : Int32))) (fun h => by rw [hre] at h; cases h)
    refine ⟨_, _, pre0 _ (?_), hrun, hended, _, _, rfl, ?_, ⟨_, rfl⟩, hW, hsame.mono (by decide) (by decide)⟩
    · show SF p e below T0 (mkF m 222 #[iv p0s, rv o1, rv o2, .unset] [(.int ((p0s &&& (2147483647 : Int32)) % (18 : Int32)))]) _
      rw [hc1]
      show SF p e below T0 (mkF m 222 #[iv p0s, rv o1, rv o2, .unset] [(.int 1)]) _
      refine XS.istoreN X0.here hx rfl (hb hby at_222) rfl (l' := #[iv p0s, rv o1, rv o2, iv 1]) rfl ?_
      show SF p e below T0 (mkF m 223 #[iv p0s, rv o1, rv o2, iv 1] []) _
      refine XS.aloadN X0.here hx rfl (hb hby at_223) rfl rfl ?_
      show SF p e below T0 (mkF m 224 #[iv p0s, rv o1, rv o2, iv 1] [(.ref o1)]) _
      refine XS.iloadN X0.here hx rfl (hb hby at_224) rfl ?_
      show SF p e below T0 (mkF m 225 #[iv p0s, rv o1, rv o2, iv 1] [(.int 1), (.ref o1)]) _
      refine X0.aaload hx (j := (1 : Int32)) (v := (.ref w2)) (by rw [e0]; exact Ar1.1) (State.isArrayOf_alike hZ.alike Ar1.2.1) rfl Ar1.2.2 hin1 hat1 (g := (mkF m 225 #[iv p0s, rv o1, rv o2, iv 1] [(.int 1), (.ref o1)])) rfl rfl (hb hby at_225) _ ?_
      show SF p e below T0 (mkF m 226 #[iv p0s, rv o1, rv o2, iv 1] [(.ref w2)]) _
      refine st2.trans ?_
      show SF p e below T2 (mkF m 229 #[iv p0s, rv o1, rv o2, iv 1] [(.int 0)]) _
      refine XS.aloadN X2.here hx rfl (hb hby at_229) rfl rfl ?_
      show SF p e below T2 (mkF m 230 #[iv p0s, rv o1, rv o2, iv 1] [(.ref o2), (.int 0)]) _
      refine XS.iloadN X2.here hx rfl (hb hby at_230) rfl ?_
      show SF p e below T2 (mkF m 231 #[iv p0s, rv o1, rv o2, iv 1] [(.int 1), (.ref o2), (.int 0)]) _
      refine X2.baloadBooleans hx (j := (1 : Int32)) (v := (.int 0)) (by rw [e2]; exact Ar3.1) (State.isArrayOf_alike hZ.alike Ar3.2.1) Ar3.2.2 hin3 hat3 (g := (mkF m 231 #[iv p0s, rv o1, rv o2, iv 1] [(.int 1), (.ref o2), (.int 0)])) rfl rfl (hb hby at_231) _ ?_
      show SF p e below T2 (mkF m 232 #[iv p0s, rv o1, rv o2, iv 1] [(.int 0), (.int 0)]) _
      refine XS.icmpNo X2.here hx rfl (hb hby at_232) rfl (teq (by decide : (0 : Int32) = (0 : Int32))).2 ?_
      show SF p e below T2 (mkF m 235 #[iv p0s, rv o1, rv o2, iv 1] []) _
      refine XS.iconst X2.here hx rfl (hb hby at_235) ?_
      show SF p e below T2 (mkF m 236 #[iv p0s, rv o1, rv o2, iv 1] [(.int 1)]) _
      refine XS.goto X2.here hx rfl (pc0 := 236) (pc' := 240) rfl (hb hby at_236) (by decide) (by decide) ?_
      show SF p e below T2 (mkF m 240 #[iv p0s, rv o1, rv o2, iv 1] [(.int 1)]) _
      exact retN X2 hx (t := .boolean) hre (by simp) (hb hby at_240) hr
    · exact ⟨rfl, N2⟩
  · obtain ⟨cl1, Ar1, q1, S1, N1z, H1, G1⟩ := P1
    have hin1 : ¬ ((2 : Int32) < 0 ∨ cl1.slots.size ≤ ((2 : Int32)).toNatClampNeg) := inb_of S1 ⟨by decide, by decide⟩
    have hat1 : cl1.slots[((2 : Int32)).toNatClampNeg]? = some (.ref w3) := Has.at H1 hin1 rfl
    obtain ⟨cq2, kq2, q2a, q2b, q2c⟩ := isOf hZ e0 (E_w3.ext O0.2)
    obtain ⟨_, _, ⟨T2, L2, k2x, n2⟩, -, X2, ⟨Lc2, hQ2, l2, y2, z2⟩, st2⟩ := X0.virtualBack hx (y := (⟨"com/example/edictum/edictum/io/XpathTokens$Kind", "beginsStep", "()Z"⟩ : MethodName)) (z := (⟨"com/example/edictum/edictum/io/XpathTokens$Kind", "beginsStep", "()Z"⟩ : MethodName)) hown (mvT hZ (tw hw 42 rfl)) (mvT hZ (tw hw 43 rfl)) (notFace_of_selects (args := #[]) (mvT hZ (tw hw 45 rfl))) (mvT hZ (tw hw 45 rfl)) (mvT hZ (tw hw 44 rfl)) (by decide) (backOf (W := 0) (rm1_3 l Z a0 hw [] w3 w1 w11 w13 w14 w15 w16 h0 n0 Z0 Sg0 O0 F_w3_ordinal F_w1_ordinal Sg20 F_w11_ordinal Sg24 F_w13_ordinal Sg26 F_w14_ordinal Sg28 F_w15_ordinal Sg30 F_w16_ordinal) hZ (tw hw 46 rfl) (tw hw 3 rfl) (by decide) (by decide)) q2a q2c (g := (mkF m 226 #[iv p0s, rv o1, rv o2, iv 2] [(.ref w3)])) rfl (by rw [hml]; rfl) (Steps.refl _) (argsL := []) (rest := []) (lenOf pd_0 rfl) rfl (by show 2 * 0 + _ ≤ _; exact Nat.le_of_eq rfl) (hb hby at_226) (fun _ _ => ⟨rfl, e0, (by decide : 2 + 0 ≤ _), (by decide : 36 + 0 ≤ _)⟩)
    dsimp only [Pt.U, Pt.locs, Pt.cells, Pt.slots] at X2 l2 y2 z2 st2 hQ2
    subst l2 y2 z2
    obtain ⟨rfl, N2q, e2⟩ := hQ2
    have N2 := Fr.app N0 N2q
    obtain ⟨cl3, Ar3, q3, S3, N3z, H3, G3⟩ := P3
    have hin3 : ¬ ((2 : Int32) < 0 ∨ cl3.slots.size ≤ ((2 : Int32)).toNatClampNeg) := inb_of S3 ⟨by decide, by decide⟩
    have hat3 : cl3.slots[((2 : Int32)).toNatClampNeg]? = some (.int 0) := Has.at H3 hin3 rfl
    obtain ⟨fs, hr, hrun, hended, hW, hsame⟩ := X2.leave (v := some (.int (1 : Int32))) (fun h => by rw [hre] at h; cases h)
    refine ⟨_, _, pre0 _ (?_), hrun, hended, _, _, rfl, ?_, ⟨_, rfl⟩, hW, hsame.mono (by decide) (by decide)⟩
    · show SF p e below T0 (mkF m 222 #[iv p0s, rv o1, rv o2, .unset] [(.int ((p0s &&& (2147483647 : Int32)) % (18 : Int32)))]) _
      rw [hc1]
      show SF p e below T0 (mkF m 222 #[iv p0s, rv o1, rv o2, .unset] [(.int 2)]) _
      refine XS.istoreN X0.here hx rfl (hb hby at_222) rfl (l' := #[iv p0s, rv o1, rv o2, iv 2]) rfl ?_
      show SF p e below T0 (mkF m 223 #[iv p0s, rv o1, rv o2, iv 2] []) _
      refine XS.aloadN X0.here hx rfl (hb hby at_223) rfl rfl ?_
      show SF p e below T0 (mkF m 224 #[iv p0s, rv o1, rv o2, iv 2] [(.ref o1)]) _
      refine XS.iloadN X0.here hx rfl (hb hby at_224) rfl ?_
      show SF p e below T0 (mkF m 225 #[iv p0s, rv o1, rv o2, iv 2] [(.int 2), (.ref o1)]) _
      refine X0.aaload hx (j := (2 : Int32)) (v := (.ref w3)) (by rw [e0]; exact Ar1.1) (State.isArrayOf_alike hZ.alike Ar1.2.1) rfl Ar1.2.2 hin1 hat1 (g := (mkF m 225 #[iv p0s, rv o1, rv o2, iv 2] [(.int 2), (.ref o1)])) rfl rfl (hb hby at_225) _ ?_
      show SF p e below T0 (mkF m 226 #[iv p0s, rv o1, rv o2, iv 2] [(.ref w3)]) _
      refine st2.trans ?_
      show SF p e below T2 (mkF m 229 #[iv p0s, rv o1, rv o2, iv 2] [(.int 0)]) _
      refine XS.aloadN X2.here hx rfl (hb hby at_229) rfl rfl ?_
      show SF p e below T2 (mkF m 230 #[iv p0s, rv o1, rv o2, iv 2] [(.ref o2), (.int 0)]) _
      refine XS.iloadN X2.here hx rfl (hb hby at_230) rfl ?_
      show SF p e below T2 (mkF m 231 #[iv p0s, rv o1, rv o2, iv 2] [(.int 2), (.ref o2), (.int 0)]) _
      refine X2.baloadBooleans hx (j := (2 : Int32)) (v := (.int 0)) (by rw [e2]; exact Ar3.1) (State.isArrayOf_alike hZ.alike Ar3.2.1) Ar3.2.2 hin3 hat3 (g := (mkF m 231 #[iv p0s, rv o1, rv o2, iv 2] [(.int 2), (.ref o2), (.int 0)])) rfl rfl (hb hby at_231) _ ?_
      show SF p e below T2 (mkF m 232 #[iv p0s, rv o1, rv o2, iv 2] [(.int 0), (.int 0)]) _
      refine XS.icmpNo X2.here hx rfl (hb hby at_232) rfl (teq (by decide : (0 : Int32) = (0 : Int32))).2 ?_
      show SF p e below T2 (mkF m 235 #[iv p0s, rv o1, rv o2, iv 2] []) _
      refine XS.iconst X2.here hx rfl (hb hby at_235) ?_
      show SF p e below T2 (mkF m 236 #[iv p0s, rv o1, rv o2, iv 2] [(.int 1)]) _
      refine XS.goto X2.here hx rfl (pc0 := 236) (pc' := 240) rfl (hb hby at_236) (by decide) (by decide) ?_
      show SF p e below T2 (mkF m 240 #[iv p0s, rv o1, rv o2, iv 2] [(.int 1)]) _
      exact retN X2 hx (t := .boolean) hre (by simp) (hb hby at_240) hr
    · exact ⟨rfl, N2⟩
  · obtain ⟨cl1, Ar1, q1, S1, N1z, H1, G1⟩ := P1
    have hin1 : ¬ ((3 : Int32) < 0 ∨ cl1.slots.size ≤ ((3 : Int32)).toNatClampNeg) := inb_of S1 ⟨by decide, by decide⟩
    have hat1 : cl1.slots[((3 : Int32)).toNatClampNeg]? = some (.ref w4) := Has.at H1 hin1 rfl
    obtain ⟨cq2, kq2, q2a, q2b, q2c⟩ := isOf hZ e0 (E_w4.ext O0.2)
    obtain ⟨_, _, ⟨T2, L2, k2x, n2⟩, -, X2, ⟨Lc2, hQ2, l2, y2, z2⟩, st2⟩ := X0.virtualBack hx (y := (⟨"com/example/edictum/edictum/io/XpathTokens$Kind", "beginsStep", "()Z"⟩ : MethodName)) (z := (⟨"com/example/edictum/edictum/io/XpathTokens$Kind", "beginsStep", "()Z"⟩ : MethodName)) hown (mvT hZ (tw hw 42 rfl)) (mvT hZ (tw hw 43 rfl)) (notFace_of_selects (args := #[]) (mvT hZ (tw hw 45 rfl))) (mvT hZ (tw hw 45 rfl)) (mvT hZ (tw hw 44 rfl)) (by decide) (backOf (W := 0) (rm1_4 l Z a0 hw [] w4 w1 w11 w13 w14 w15 w16 h0 n0 Z0 Sg0 O0 F_w4_ordinal F_w1_ordinal Sg20 F_w11_ordinal Sg24 F_w13_ordinal Sg26 F_w14_ordinal Sg28 F_w15_ordinal Sg30 F_w16_ordinal) hZ (tw hw 46 rfl) (tw hw 3 rfl) (by decide) (by decide)) q2a q2c (g := (mkF m 226 #[iv p0s, rv o1, rv o2, iv 3] [(.ref w4)])) rfl (by rw [hml]; rfl) (Steps.refl _) (argsL := []) (rest := []) (lenOf pd_0 rfl) rfl (by show 2 * 0 + _ ≤ _; exact Nat.le_of_eq rfl) (hb hby at_226) (fun _ _ => ⟨rfl, e0, (by decide : 2 + 0 ≤ _), (by decide : 36 + 0 ≤ _)⟩)
    dsimp only [Pt.U, Pt.locs, Pt.cells, Pt.slots] at X2 l2 y2 z2 st2 hQ2
    subst l2 y2 z2
    obtain ⟨rfl, N2q, e2⟩ := hQ2
    have N2 := Fr.app N0 N2q
    obtain ⟨cl3, Ar3, q3, S3, N3z, H3, G3⟩ := P3
    have hin3 : ¬ ((3 : Int32) < 0 ∨ cl3.slots.size ≤ ((3 : Int32)).toNatClampNeg) := inb_of S3 ⟨by decide, by decide⟩
    have hat3 : cl3.slots[((3 : Int32)).toNatClampNeg]? = some (.int 0) := Has.at H3 hin3 rfl
    obtain ⟨fs, hr, hrun, hended, hW, hsame⟩ := X2.leave (v := some (.int (1 : Int32))) (fun h => by rw [hre] at h; cases h)
    refine ⟨_, _, pre0 _ (?_), hrun, hended, _, _, rfl, ?_, ⟨_, rfl⟩, hW, hsame.mono (by decide) (by decide)⟩
    · show SF p e below T0 (mkF m 222 #[iv p0s, rv o1, rv o2, .unset] [(.int ((p0s &&& (2147483647 : Int32)) % (18 : Int32)))]) _
      rw [hc1]
      show SF p e below T0 (mkF m 222 #[iv p0s, rv o1, rv o2, .unset] [(.int 3)]) _
      refine XS.istoreN X0.here hx rfl (hb hby at_222) rfl (l' := #[iv p0s, rv o1, rv o2, iv 3]) rfl ?_
      show SF p e below T0 (mkF m 223 #[iv p0s, rv o1, rv o2, iv 3] []) _
      refine XS.aloadN X0.here hx rfl (hb hby at_223) rfl rfl ?_
      show SF p e below T0 (mkF m 224 #[iv p0s, rv o1, rv o2, iv 3] [(.ref o1)]) _
      refine XS.iloadN X0.here hx rfl (hb hby at_224) rfl ?_
      show SF p e below T0 (mkF m 225 #[iv p0s, rv o1, rv o2, iv 3] [(.int 3), (.ref o1)]) _
      refine X0.aaload hx (j := (3 : Int32)) (v := (.ref w4)) (by rw [e0]; exact Ar1.1) (State.isArrayOf_alike hZ.alike Ar1.2.1) rfl Ar1.2.2 hin1 hat1 (g := (mkF m 225 #[iv p0s, rv o1, rv o2, iv 3] [(.int 3), (.ref o1)])) rfl rfl (hb hby at_225) _ ?_
      show SF p e below T0 (mkF m 226 #[iv p0s, rv o1, rv o2, iv 3] [(.ref w4)]) _
      refine st2.trans ?_
      show SF p e below T2 (mkF m 229 #[iv p0s, rv o1, rv o2, iv 3] [(.int 0)]) _
      refine XS.aloadN X2.here hx rfl (hb hby at_229) rfl rfl ?_
      show SF p e below T2 (mkF m 230 #[iv p0s, rv o1, rv o2, iv 3] [(.ref o2), (.int 0)]) _
      refine XS.iloadN X2.here hx rfl (hb hby at_230) rfl ?_
      show SF p e below T2 (mkF m 231 #[iv p0s, rv o1, rv o2, iv 3] [(.int 3), (.ref o2), (.int 0)]) _
      refine X2.baloadBooleans hx (j := (3 : Int32)) (v := (.int 0)) (by rw [e2]; exact Ar3.1) (State.isArrayOf_alike hZ.alike Ar3.2.1) Ar3.2.2 hin3 hat3 (g := (mkF m 231 #[iv p0s, rv o1, rv o2, iv 3] [(.int 3), (.ref o2), (.int 0)])) rfl rfl (hb hby at_231) _ ?_
      show SF p e below T2 (mkF m 232 #[iv p0s, rv o1, rv o2, iv 3] [(.int 0), (.int 0)]) _
      refine XS.icmpNo X2.here hx rfl (hb hby at_232) rfl (teq (by decide : (0 : Int32) = (0 : Int32))).2 ?_
      show SF p e below T2 (mkF m 235 #[iv p0s, rv o1, rv o2, iv 3] []) _
      refine XS.iconst X2.here hx rfl (hb hby at_235) ?_
      show SF p e below T2 (mkF m 236 #[iv p0s, rv o1, rv o2, iv 3] [(.int 1)]) _
      refine XS.goto X2.here hx rfl (pc0 := 236) (pc' := 240) rfl (hb hby at_236) (by decide) (by decide) ?_
      show SF p e below T2 (mkF m 240 #[iv p0s, rv o1, rv o2, iv 3] [(.int 1)]) _
      exact retN X2 hx (t := .boolean) hre (by simp) (hb hby at_240) hr
    · exact ⟨rfl, N2⟩
  · obtain ⟨cl1, Ar1, q1, S1, N1z, H1, G1⟩ := P1
    have hin1 : ¬ ((4 : Int32) < 0 ∨ cl1.slots.size ≤ ((4 : Int32)).toNatClampNeg) := inb_of S1 ⟨by decide, by decide⟩
    have hat1 : cl1.slots[((4 : Int32)).toNatClampNeg]? = some (.ref w5) := Has.at H1 hin1 rfl
    obtain ⟨cq2, kq2, q2a, q2b, q2c⟩ := isOf hZ e0 (E_w5.ext O0.2)
    obtain ⟨_, _, ⟨T2, L2, k2x, n2⟩, -, X2, ⟨Lc2, hQ2, l2, y2, z2⟩, st2⟩ := X0.virtualBack hx (y := (⟨"com/example/edictum/edictum/io/XpathTokens$Kind", "beginsStep", "()Z"⟩ : MethodName)) (z := (⟨"com/example/edictum/edictum/io/XpathTokens$Kind", "beginsStep", "()Z"⟩ : MethodName)) hown (mvT hZ (tw hw 42 rfl)) (mvT hZ (tw hw 43 rfl)) (notFace_of_selects (args := #[]) (mvT hZ (tw hw 45 rfl))) (mvT hZ (tw hw 45 rfl)) (mvT hZ (tw hw 44 rfl)) (by decide) (backOf (W := 0) (rm1_5 l Z a0 hw [] w5 w1 w11 w13 w14 w15 w16 h0 n0 Z0 Sg0 O0 F_w5_ordinal F_w1_ordinal Sg20 F_w11_ordinal Sg24 F_w13_ordinal Sg26 F_w14_ordinal Sg28 F_w15_ordinal Sg30 F_w16_ordinal) hZ (tw hw 46 rfl) (tw hw 3 rfl) (by decide) (by decide)) q2a q2c (g := (mkF m 226 #[iv p0s, rv o1, rv o2, iv 4] [(.ref w5)])) rfl (by rw [hml]; rfl) (Steps.refl _) (argsL := []) (rest := []) (lenOf pd_0 rfl) rfl (by show 2 * 0 + _ ≤ _; exact Nat.le_of_eq rfl) (hb hby at_226) (fun _ _ => ⟨rfl, e0, (by decide : 2 + 0 ≤ _), (by decide : 36 + 0 ≤ _)⟩)
    dsimp only [Pt.U, Pt.locs, Pt.cells, Pt.slots] at X2 l2 y2 z2 st2 hQ2
    subst l2 y2 z2
    obtain ⟨rfl, N2q, e2⟩ := hQ2
    have N2 := Fr.app N0 N2q
    obtain ⟨cl3, Ar3, q3, S3, N3z, H3, G3⟩ := P3
    have hin3 : ¬ ((4 : Int32) < 0 ∨ cl3.slots.size ≤ ((4 : Int32)).toNatClampNeg) := inb_of S3 ⟨by decide, by decide⟩
    have hat3 : cl3.slots[((4 : Int32)).toNatClampNeg]? = some (.int 0) := Has.at H3 hin3 rfl
    obtain ⟨fs, hr, hrun, hended, hW, hsame⟩ := X2.leave (v := some (.int (1 : Int32))) (fun h => by rw [hre] at h; cases h)
    refine ⟨_, _, pre0 _ (?_), hrun, hended, _, _, rfl, ?_, ⟨_, rfl⟩, hW, hsame.mono (by decide) (by decide)⟩
    · show SF p e below T0 (mkF m 222 #[iv p0s, rv o1, rv o2, .unset] [(.int ((p0s &&& (2147483647 : Int32)) % (18 : Int32)))]) _
      rw [hc1]
      show SF p e below T0 (mkF m 222 #[iv p0s, rv o1, rv o2, .unset] [(.int 4)]) _
      refine XS.istoreN X0.here hx rfl (hb hby at_222) rfl (l' := #[iv p0s, rv o1, rv o2, iv 4]) rfl ?_
      show SF p e below T0 (mkF m 223 #[iv p0s, rv o1, rv o2, iv 4] []) _
      refine XS.aloadN X0.here hx rfl (hb hby at_223) rfl rfl ?_
      show SF p e below T0 (mkF m 224 #[iv p0s, rv o1, rv o2, iv 4] [(.ref o1)]) _
      refine XS.iloadN X0.here hx rfl (hb hby at_224) rfl ?_
      show SF p e below T0 (mkF m 225 #[iv p0s, rv o1, rv o2, iv 4] [(.int 4), (.ref o1)]) _
      refine X0.aaload hx (j := (4 : Int32)) (v := (.ref w5)) (by rw [e0]; exact Ar1.1) (State.isArrayOf_alike hZ.alike Ar1.2.1) rfl Ar1.2.2 hin1 hat1 (g := (mkF m 225 #[iv p0s, rv o1, rv o2, iv 4] [(.int 4), (.ref o1)])) rfl rfl (hb hby at_225) _ ?_
      show SF p e below T0 (mkF m 226 #[iv p0s, rv o1, rv o2, iv 4] [(.ref w5)]) _
      refine st2.trans ?_
      show SF p e below T2 (mkF m 229 #[iv p0s, rv o1, rv o2, iv 4] [(.int 0)]) _
      refine XS.aloadN X2.here hx rfl (hb hby at_229) rfl rfl ?_
      show SF p e below T2 (mkF m 230 #[iv p0s, rv o1, rv o2, iv 4] [(.ref o2), (.int 0)]) _
      refine XS.iloadN X2.here hx rfl (hb hby at_230) rfl ?_
      show SF p e below T2 (mkF m 231 #[iv p0s, rv o1, rv o2, iv 4] [(.int 4), (.ref o2), (.int 0)]) _
      refine X2.baloadBooleans hx (j := (4 : Int32)) (v := (.int 0)) (by rw [e2]; exact Ar3.1) (State.isArrayOf_alike hZ.alike Ar3.2.1) Ar3.2.2 hin3 hat3 (g := (mkF m 231 #[iv p0s, rv o1, rv o2, iv 4] [(.int 4), (.ref o2), (.int 0)])) rfl rfl (hb hby at_231) _ ?_
      show SF p e below T2 (mkF m 232 #[iv p0s, rv o1, rv o2, iv 4] [(.int 0), (.int 0)]) _
      refine XS.icmpNo X2.here hx rfl (hb hby at_232) rfl (teq (by decide : (0 : Int32) = (0 : Int32))).2 ?_
      show SF p e below T2 (mkF m 235 #[iv p0s, rv o1, rv o2, iv 4] []) _
      refine XS.iconst X2.here hx rfl (hb hby at_235) ?_
      show SF p e below T2 (mkF m 236 #[iv p0s, rv o1, rv o2, iv 4] [(.int 1)]) _
      refine XS.goto X2.here hx rfl (pc0 := 236) (pc' := 240) rfl (hb hby at_236) (by decide) (by decide) ?_
      show SF p e below T2 (mkF m 240 #[iv p0s, rv o1, rv o2, iv 4] [(.int 1)]) _
      exact retN X2 hx (t := .boolean) hre (by simp) (hb hby at_240) hr
    · exact ⟨rfl, N2⟩
  · obtain ⟨cl1, Ar1, q1, S1, N1z, H1, G1⟩ := P1
    have hin1 : ¬ ((5 : Int32) < 0 ∨ cl1.slots.size ≤ ((5 : Int32)).toNatClampNeg) := inb_of S1 ⟨by decide, by decide⟩
    have hat1 : cl1.slots[((5 : Int32)).toNatClampNeg]? = some (.ref w6) := Has.at H1 hin1 rfl
    obtain ⟨cq2, kq2, q2a, q2b, q2c⟩ := isOf hZ e0 (E_w6.ext O0.2)
    obtain ⟨_, _, ⟨T2, L2, k2x, n2⟩, -, X2, ⟨Lc2, hQ2, l2, y2, z2⟩, st2⟩ := X0.virtualBack hx (y := (⟨"com/example/edictum/edictum/io/XpathTokens$Kind", "beginsStep", "()Z"⟩ : MethodName)) (z := (⟨"com/example/edictum/edictum/io/XpathTokens$Kind", "beginsStep", "()Z"⟩ : MethodName)) hown (mvT hZ (tw hw 42 rfl)) (mvT hZ (tw hw 43 rfl)) (notFace_of_selects (args := #[]) (mvT hZ (tw hw 45 rfl))) (mvT hZ (tw hw 45 rfl)) (mvT hZ (tw hw 44 rfl)) (by decide) (backOf (W := 0) (rm1_6 l Z a0 hw [] w6 w1 w11 w13 w14 w15 w16 h0 n0 Z0 Sg0 O0 F_w6_ordinal F_w1_ordinal Sg20 F_w11_ordinal Sg24 F_w13_ordinal Sg26 F_w14_ordinal Sg28 F_w15_ordinal Sg30 F_w16_ordinal) hZ (tw hw 46 rfl) (tw hw 3 rfl) (by decide) (by decide)) q2a q2c (g := (mkF m 226 #[iv p0s, rv o1, rv o2, iv 5] [(.ref w6)])) rfl (by rw [hml]; rfl) (Steps.refl _) (argsL := []) (rest := []) (lenOf pd_0 rfl) rfl (by show 2 * 0 + _ ≤ _; exact Nat.le_of_eq rfl) (hb hby at_226) (fun _ _ => ⟨rfl, e0, (by decide : 2 + 0 ≤ _), (by decide : 36 + 0 ≤ _)⟩)
    dsimp only [Pt.U, Pt.locs, Pt.cells, Pt.slots] at X2 l2 y2 z2 st2 hQ2
    subst l2 y2 z2
    obtain ⟨rfl, N2q, e2⟩ := hQ2
    have N2 := Fr.app N0 N2q
    obtain ⟨cl3, Ar3, q3, S3, N3z, H3, G3⟩ := P3
    have hin3 : ¬ ((5 : Int32) < 0 ∨ cl3.slots.size ≤ ((5 : Int32)).toNatClampNeg) := inb_of S3 ⟨by decide, by decide⟩
    have hat3 : cl3.slots[((5 : Int32)).toNatClampNeg]? = some (.int 0) := Has.at H3 hin3 rfl
    obtain ⟨fs, hr, hrun, hended, hW, hsame⟩ := X2.leave (v := some (.int (1 : Int32))) (fun h => by rw [hre] at h; cases h)
    refine ⟨_, _, pre0 _ (?_), hrun, hended, _, _, rfl, ?_, ⟨_, rfl⟩, hW, hsame.mono (by decide) (by decide)⟩
    · show SF p e below T0 (mkF m 222 #[iv p0s, rv o1, rv o2, .unset] [(.int ((p0s &&& (2147483647 : Int32)) % (18 : Int32)))]) _
      rw [hc1]
      show SF p e below T0 (mkF m 222 #[iv p0s, rv o1, rv o2, .unset] [(.int 5)]) _
      refine XS.istoreN X0.here hx rfl (hb hby at_222) rfl (l' := #[iv p0s, rv o1, rv o2, iv 5]) rfl ?_
      show SF p e below T0 (mkF m 223 #[iv p0s, rv o1, rv o2, iv 5] []) _
      refine XS.aloadN X0.here hx rfl (hb hby at_223) rfl rfl ?_
      show SF p e below T0 (mkF m 224 #[iv p0s, rv o1, rv o2, iv 5] [(.ref o1)]) _
      refine XS.iloadN X0.here hx rfl (hb hby at_224) rfl ?_
      show SF p e below T0 (mkF m 225 #[iv p0s, rv o1, rv o2, iv 5] [(.int 5), (.ref o1)]) _
      refine X0.aaload hx (j := (5 : Int32)) (v := (.ref w6)) (by rw [e0]; exact Ar1.1) (State.isArrayOf_alike hZ.alike Ar1.2.1) rfl Ar1.2.2 hin1 hat1 (g := (mkF m 225 #[iv p0s, rv o1, rv o2, iv 5] [(.int 5), (.ref o1)])) rfl rfl (hb hby at_225) _ ?_
      show SF p e below T0 (mkF m 226 #[iv p0s, rv o1, rv o2, iv 5] [(.ref w6)]) _
      refine st2.trans ?_
      show SF p e below T2 (mkF m 229 #[iv p0s, rv o1, rv o2, iv 5] [(.int 0)]) _
      refine XS.aloadN X2.here hx rfl (hb hby at_229) rfl rfl ?_
      show SF p e below T2 (mkF m 230 #[iv p0s, rv o1, rv o2, iv 5] [(.ref o2), (.int 0)]) _
      refine XS.iloadN X2.here hx rfl (hb hby at_230) rfl ?_
      show SF p e below T2 (mkF m 231 #[iv p0s, rv o1, rv o2, iv 5] [(.int 5), (.ref o2), (.int 0)]) _
      refine X2.baloadBooleans hx (j := (5 : Int32)) (v := (.int 0)) (by rw [e2]; exact Ar3.1) (State.isArrayOf_alike hZ.alike Ar3.2.1) Ar3.2.2 hin3 hat3 (g := (mkF m 231 #[iv p0s, rv o1, rv o2, iv 5] [(.int 5), (.ref o2), (.int 0)])) rfl rfl (hb hby at_231) _ ?_
      show SF p e below T2 (mkF m 232 #[iv p0s, rv o1, rv o2, iv 5] [(.int 0), (.int 0)]) _
      refine XS.icmpNo X2.here hx rfl (hb hby at_232) rfl (teq (by decide : (0 : Int32) = (0 : Int32))).2 ?_
      show SF p e below T2 (mkF m 235 #[iv p0s, rv o1, rv o2, iv 5] []) _
      refine XS.iconst X2.here hx rfl (hb hby at_235) ?_
      show SF p e below T2 (mkF m 236 #[iv p0s, rv o1, rv o2, iv 5] [(.int 1)]) _
      refine XS.goto X2.here hx rfl (pc0 := 236) (pc' := 240) rfl (hb hby at_236) (by decide) (by decide) ?_
      show SF p e below T2 (mkF m 240 #[iv p0s, rv o1, rv o2, iv 5] [(.int 1)]) _
      exact retN X2 hx (t := .boolean) hre (by simp) (hb hby at_240) hr
    · exact ⟨rfl, N2⟩
  · obtain ⟨cl1, Ar1, q1, S1, N1z, H1, G1⟩ := P1
    have hin1 : ¬ ((6 : Int32) < 0 ∨ cl1.slots.size ≤ ((6 : Int32)).toNatClampNeg) := inb_of S1 ⟨by decide, by decide⟩
    have hat1 : cl1.slots[((6 : Int32)).toNatClampNeg]? = some (.ref w7) := Has.at H1 hin1 rfl
    obtain ⟨cq2, kq2, q2a, q2b, q2c⟩ := isOf hZ e0 (E_w7.ext O0.2)
    obtain ⟨_, _, ⟨T2, L2, k2x, n2⟩, -, X2, ⟨Lc2, hQ2, l2, y2, z2⟩, st2⟩ := X0.virtualBack hx (y := (⟨"com/example/edictum/edictum/io/XpathTokens$Kind", "beginsStep", "()Z"⟩ : MethodName)) (z := (⟨"com/example/edictum/edictum/io/XpathTokens$Kind", "beginsStep", "()Z"⟩ : MethodName)) hown (mvT hZ (tw hw 42 rfl)) (mvT hZ (tw hw 43 rfl)) (notFace_of_selects (args := #[]) (mvT hZ (tw hw 45 rfl))) (mvT hZ (tw hw 45 rfl)) (mvT hZ (tw hw 44 rfl)) (by decide) (backOf (W := 0) (rm1_7 l Z a0 hw [] w7 w1 w11 w13 w14 w15 w16 h0 n0 Z0 Sg0 O0 F_w7_ordinal F_w1_ordinal Sg20 F_w11_ordinal Sg24 F_w13_ordinal Sg26 F_w14_ordinal Sg28 F_w15_ordinal Sg30 F_w16_ordinal) hZ (tw hw 46 rfl) (tw hw 3 rfl) (by decide) (by decide)) q2a q2c (g := (mkF m 226 #[iv p0s, rv o1, rv o2, iv 6] [(.ref w7)])) rfl (by rw [hml]; rfl) (Steps.refl _) (argsL := []) (rest := []) (lenOf pd_0 rfl) rfl (by show 2 * 0 + _ ≤ _; exact Nat.le_of_eq rfl) (hb hby at_226) (fun _ _ => ⟨rfl, e0, (by decide : 2 + 0 ≤ _), (by decide : 36 + 0 ≤ _)⟩)
    dsimp only [Pt.U, Pt.locs, Pt.cells, Pt.slots] at X2 l2 y2 z2 st2 hQ2
    subst l2 y2 z2
    obtain ⟨rfl, N2q, e2⟩ := hQ2
    have N2 := Fr.app N0 N2q
    obtain ⟨cl3, Ar3, q3, S3, N3z, H3, G3⟩ := P3
    have hin3 : ¬ ((6 : Int32) < 0 ∨ cl3.slots.size ≤ ((6 : Int32)).toNatClampNeg) := inb_of S3 ⟨by decide, by decide⟩
    have hat3 : cl3.slots[((6 : Int32)).toNatClampNeg]? = some (.int 0) := Has.at H3 hin3 rfl
    obtain ⟨fs, hr, hrun, hended, hW, hsame⟩ := X2.leave (v := some (.int (1 : Int32))) (fun h => by rw [hre] at h; cases h)
    refine ⟨_, _, pre0 _ (?_), hrun, hended, _, _, rfl, ?_, ⟨_, rfl⟩, hW, hsame.mono (by decide) (by decide)⟩
    · show SF p e below T0 (mkF m 222 #[iv p0s, rv o1, rv o2, .unset] [(.int ((p0s &&& (2147483647 : Int32)) % (18 : Int32)))]) _
      rw [hc1]
      show SF p e below T0 (mkF m 222 #[iv p0s, rv o1, rv o2, .unset] [(.int 6)]) _
      refine XS.istoreN X0.here hx rfl (hb hby at_222) rfl (l' := #[iv p0s, rv o1, rv o2, iv 6]) rfl ?_
      show SF p e below T0 (mkF m 223 #[iv p0s, rv o1, rv o2, iv 6] []) _
      refine XS.aloadN X0.here hx rfl (hb hby at_223) rfl rfl ?_
      show SF p e below T0 (mkF m 224 #[iv p0s, rv o1, rv o2, iv 6] [(.ref o1)]) _
      refine XS.iloadN X0.here hx rfl (hb hby at_224) rfl ?_
      show SF p e below T0 (mkF m 225 #[iv p0s, rv o1, rv o2, iv 6] [(.int 6), (.ref o1)]) _
      refine X0.aaload hx (j := (6 : Int32)) (v := (.ref w7)) (by rw [e0]; exact Ar1.1) (State.isArrayOf_alike hZ.alike Ar1.2.1) rfl Ar1.2.2 hin1 hat1 (g := (mkF m 225 #[iv p0s, rv o1, rv o2, iv 6] [(.int 6), (.ref o1)])) rfl rfl (hb hby at_225) _ ?_
      show SF p e below T0 (mkF m 226 #[iv p0s, rv o1, rv o2, iv 6] [(.ref w7)]) _
      refine st2.trans ?_
      show SF p e below T2 (mkF m 229 #[iv p0s, rv o1, rv o2, iv 6] [(.int 0)]) _
      refine XS.aloadN X2.here hx rfl (hb hby at_229) rfl rfl ?_
      show SF p e below T2 (mkF m 230 #[iv p0s, rv o1, rv o2, iv 6] [(.ref o2), (.int 0)]) _
      refine XS.iloadN X2.here hx rfl (hb hby at_230) rfl ?_
      show SF p e below T2 (mkF m 231 #[iv p0s, rv o1, rv o2, iv 6] [(.int 6), (.ref o2), (.int 0)]) _
      refine X2.baloadBooleans hx (j := (6 : Int32)) (v := (.int 0)) (by rw [e2]; exact Ar3.1) (State.isArrayOf_alike hZ.alike Ar3.2.1) Ar3.2.2 hin3 hat3 (g := (mkF m 231 #[iv p0s, rv o1, rv o2, iv 6] [(.int 6), (.ref o2), (.int 0)])) rfl rfl (hb hby at_231) _ ?_
      show SF p e below T2 (mkF m 232 #[iv p0s, rv o1, rv o2, iv 6] [(.int 0), (.int 0)]) _
      refine XS.icmpNo X2.here hx rfl (hb hby at_232) rfl (teq (by decide : (0 : Int32) = (0 : Int32))).2 ?_
      show SF p e below T2 (mkF m 235 #[iv p0s, rv o1, rv o2, iv 6] []) _
      refine XS.iconst X2.here hx rfl (hb hby at_235) ?_
      show SF p e below T2 (mkF m 236 #[iv p0s, rv o1, rv o2, iv 6] [(.int 1)]) _
      refine XS.goto X2.here hx rfl (pc0 := 236) (pc' := 240) rfl (hb hby at_236) (by decide) (by decide) ?_
      show SF p e below T2 (mkF m 240 #[iv p0s, rv o1, rv o2, iv 6] [(.int 1)]) _
      exact retN X2 hx (t := .boolean) hre (by simp) (hb hby at_240) hr
    · exact ⟨rfl, N2⟩
  · obtain ⟨cl1, Ar1, q1, S1, N1z, H1, G1⟩ := P1
    have hin1 : ¬ ((7 : Int32) < 0 ∨ cl1.slots.size ≤ ((7 : Int32)).toNatClampNeg) := inb_of S1 ⟨by decide, by decide⟩
    have hat1 : cl1.slots[((7 : Int32)).toNatClampNeg]? = some (.ref w8) := Has.at H1 hin1 rfl
    obtain ⟨cq2, kq2, q2a, q2b, q2c⟩ := isOf hZ e0 (E_w8.ext O0.2)
    obtain ⟨_, _, ⟨T2, L2, k2x, n2⟩, -, X2, ⟨Lc2, hQ2, l2, y2, z2⟩, st2⟩ := X0.virtualBack hx (y := (⟨"com/example/edictum/edictum/io/XpathTokens$Kind", "beginsStep", "()Z"⟩ : MethodName)) (z := (⟨"com/example/edictum/edictum/io/XpathTokens$Kind", "beginsStep", "()Z"⟩ : MethodName)) hown (mvT hZ (tw hw 42 rfl)) (mvT hZ (tw hw 43 rfl)) (notFace_of_selects (args := #[]) (mvT hZ (tw hw 45 rfl))) (mvT hZ (tw hw 45 rfl)) (mvT hZ (tw hw 44 rfl)) (by decide) (backOf (W := 0) (rm1_8 l Z a0 hw [] w8 w1 w11 w13 w14 w15 w16 h0 n0 Z0 Sg0 O0 F_w8_ordinal F_w1_ordinal Sg20 F_w11_ordinal Sg24 F_w13_ordinal Sg26 F_w14_ordinal Sg28 F_w15_ordinal Sg30 F_w16_ordinal) hZ (tw hw 46 rfl) (tw hw 3 rfl) (by decide) (by decide)) q2a q2c (g := (mkF m 226 #[iv p0s, rv o1, rv o2, iv 7] [(.ref w8)])) rfl (by rw [hml]; rfl) (Steps.refl _) (argsL := []) (rest := []) (lenOf pd_0 rfl) rfl (by show 2 * 0 + _ ≤ _; exact Nat.le_of_eq rfl) (hb hby at_226) (fun _ _ => ⟨rfl, e0, (by decide : 2 + 0 ≤ _), (by decide : 36 + 0 ≤ _)⟩)
    dsimp only [Pt.U, Pt.locs, Pt.cells, Pt.slots] at X2 l2 y2 z2 st2 hQ2
    subst l2 y2 z2
    obtain ⟨rfl, N2q, e2⟩ := hQ2
    have N2 := Fr.app N0 N2q
    obtain ⟨cl3, Ar3, q3, S3, N3z, H3, G3⟩ := P3
    have hin3 : ¬ ((7 : Int32) < 0 ∨ cl3.slots.size ≤ ((7 : Int32)).toNatClampNeg) := inb_of S3 ⟨by decide, by decide⟩
    have hat3 : cl3.slots[((7 : Int32)).toNatClampNeg]? = some (.int 0) := Has.at H3 hin3 rfl
    obtain ⟨fs, hr, hrun, hended, hW, hsame⟩ := X2.leave (v := some (.int (1 : Int32))) (fun h => by rw [hre] at h; cases h)
    refine ⟨_, _, pre0 _ (?_), hrun, hended, _, _, rfl, ?_, ⟨_, rfl⟩, hW, hsame.mono (by decide) (by decide)⟩
    · show SF p e below T0 (mkF m 222 #[iv p0s, rv o1, rv o2, .unset] [(.int ((p0s &&& (2147483647 : Int32)) % (18 : Int32)))]) _
      rw [hc1]
      show SF p e below T0 (mkF m 222 #[iv p0s, rv o1, rv o2, .unset] [(.int 7)]) _
      refine XS.istoreN X0.here hx rfl (hb hby at_222) rfl (l' := #[iv p0s, rv o1, rv o2, iv 7]) rfl ?_
      show SF p e below T0 (mkF m 223 #[iv p0s, rv o1, rv o2, iv 7] []) _
      refine XS.aloadN X0.here hx rfl (hb hby at_223) rfl rfl ?_
      show SF p e below T0 (mkF m 224 #[iv p0s, rv o1, rv o2, iv 7] [(.ref o1)]) _
      refine XS.iloadN X0.here hx rfl (hb hby at_224) rfl ?_
      show SF p e below T0 (mkF m 225 #[iv p0s, rv o1, rv o2, iv 7] [(.int 7), (.ref o1)]) _
      refine X0.aaload hx (j := (7 : Int32)) (v := (.ref w8)) (by rw [e0]; exact Ar1.1) (State.isArrayOf_alike hZ.alike Ar1.2.1) rfl Ar1.2.2 hin1 hat1 (g := (mkF m 225 #[iv p0s, rv o1, rv o2, iv 7] [(.int 7), (.ref o1)])) rfl rfl (hb hby at_225) _ ?_
      show SF p e below T0 (mkF m 226 #[iv p0s, rv o1, rv o2, iv 7] [(.ref w8)]) _
      refine st2.trans ?_
      show SF p e below T2 (mkF m 229 #[iv p0s, rv o1, rv o2, iv 7] [(.int 0)]) _
      refine XS.aloadN X2.here hx rfl (hb hby at_229) rfl rfl ?_
      show SF p e below T2 (mkF m 230 #[iv p0s, rv o1, rv o2, iv 7] [(.ref o2), (.int 0)]) _
      refine XS.iloadN X2.here hx rfl (hb hby at_230) rfl ?_
      show SF p e below T2 (mkF m 231 #[iv p0s, rv o1, rv o2, iv 7] [(.int 7), (.ref o2), (.int 0)]) _
      refine X2.baloadBooleans hx (j := (7 : Int32)) (v := (.int 0)) (by rw [e2]; exact Ar3.1) (State.isArrayOf_alike hZ.alike Ar3.2.1) Ar3.2.2 hin3 hat3 (g := (mkF m 231 #[iv p0s, rv o1, rv o2, iv 7] [(.int 7), (.ref o2), (.int 0)])) rfl rfl (hb hby at_231) _ ?_
      show SF p e below T2 (mkF m 232 #[iv p0s, rv o1, rv o2, iv 7] [(.int 0), (.int 0)]) _
      refine XS.icmpNo X2.here hx rfl (hb hby at_232) rfl (teq (by decide : (0 : Int32) = (0 : Int32))).2 ?_
      show SF p e below T2 (mkF m 235 #[iv p0s, rv o1, rv o2, iv 7] []) _
      refine XS.iconst X2.here hx rfl (hb hby at_235) ?_
      show SF p e below T2 (mkF m 236 #[iv p0s, rv o1, rv o2, iv 7] [(.int 1)]) _
      refine XS.goto X2.here hx rfl (pc0 := 236) (pc' := 240) rfl (hb hby at_236) (by decide) (by decide) ?_
      show SF p e below T2 (mkF m 240 #[iv p0s, rv o1, rv o2, iv 7] [(.int 1)]) _
      exact retN X2 hx (t := .boolean) hre (by simp) (hb hby at_240) hr
    · exact ⟨rfl, N2⟩
  · obtain ⟨cl1, Ar1, q1, S1, N1z, H1, G1⟩ := P1
    have hin1 : ¬ ((8 : Int32) < 0 ∨ cl1.slots.size ≤ ((8 : Int32)).toNatClampNeg) := inb_of S1 ⟨by decide, by decide⟩
    have hat1 : cl1.slots[((8 : Int32)).toNatClampNeg]? = some (.ref w9) := Has.at H1 hin1 rfl
    obtain ⟨cq2, kq2, q2a, q2b, q2c⟩ := isOf hZ e0 (E_w9.ext O0.2)
    obtain ⟨_, _, ⟨T2, L2, k2x, n2⟩, -, X2, ⟨Lc2, hQ2, l2, y2, z2⟩, st2⟩ := X0.virtualBack hx (y := (⟨"com/example/edictum/edictum/io/XpathTokens$Kind", "beginsStep", "()Z"⟩ : MethodName)) (z := (⟨"com/example/edictum/edictum/io/XpathTokens$Kind", "beginsStep", "()Z"⟩ : MethodName)) hown (mvT hZ (tw hw 42 rfl)) (mvT hZ (tw hw 43 rfl)) (notFace_of_selects (args := #[]) (mvT hZ (tw hw 45 rfl))) (mvT hZ (tw hw 45 rfl)) (mvT hZ (tw hw 44 rfl)) (by decide) (backOf (W := 0) (rm1_9 l Z a0 hw [] w9 w1 w11 w13 w14 w15 w16 h0 n0 Z0 Sg0 O0 F_w9_ordinal F_w1_ordinal Sg20 F_w11_ordinal Sg24 F_w13_ordinal Sg26 F_w14_ordinal Sg28 F_w15_ordinal Sg30 F_w16_ordinal) hZ (tw hw 46 rfl) (tw hw 3 rfl) (by decide) (by decide)) q2a q2c (g := (mkF m 226 #[iv p0s, rv o1, rv o2, iv 8] [(.ref w9)])) rfl (by rw [hml]; rfl) (Steps.refl _) (argsL := []) (rest := []) (lenOf pd_0 rfl) rfl (by show 2 * 0 + _ ≤ _; exact Nat.le_of_eq rfl) (hb hby at_226) (fun _ _ => ⟨rfl, e0, (by decide : 2 + 0 ≤ _), (by decide : 36 + 0 ≤ _)⟩)
    dsimp only [Pt.U, Pt.locs, Pt.cells, Pt.slots] at X2 l2 y2 z2 st2 hQ2
    subst l2 y2 z2
    obtain ⟨rfl, N2q, e2⟩ := hQ2
    have N2 := Fr.app N0 N2q
    obtain ⟨cl3, Ar3, q3, S3, N3z, H3, G3⟩ := P3
    have hin3 : ¬ ((8 : Int32) < 0 ∨ cl3.slots.size ≤ ((8 : Int32)).toNatClampNeg) := inb_of S3 ⟨by decide, by decide⟩
    have hat3 : cl3.slots[((8 : Int32)).toNatClampNeg]? = some (.int 0) := Has.at H3 hin3 rfl
    obtain ⟨fs, hr, hrun, hended, hW, hsame⟩ := X2.leave (v := some (.int (1 : Int32))) (fun h => by rw [hre] at h; cases h)
    refine ⟨_, _, pre0 _ (?_), hrun, hended, _, _, rfl, ?_, ⟨_, rfl⟩, hW, hsame.mono (by decide) (by decide)⟩
    · show SF p e below T0 (mkF m 222 #[iv p0s, rv o1, rv o2, .unset] [(.int ((p0s &&& (2147483647 : Int32)) % (18 : Int32)))]) _
      rw [hc1]
      show SF p e below T0 (mkF m 222 #[iv p0s, rv o1, rv o2, .unset] [(.int 8)]) _
      refine XS.istoreN X0.here hx rfl (hb hby at_222) rfl (l' := #[iv p0s, rv o1, rv o2, iv 8]) rfl ?_
      show SF p e below T0 (mkF m 223 #[iv p0s, rv o1, rv o2, iv 8] []) _
      refine XS.aloadN X0.here hx rfl (hb hby at_223) rfl rfl ?_
      show SF p e below T0 (mkF m 224 #[iv p0s, rv o1, rv o2, iv 8] [(.ref o1)]) _
      refine XS.iloadN X0.here hx rfl (hb hby at_224) rfl ?_
      show SF p e below T0 (mkF m 225 #[iv p0s, rv o1, rv o2, iv 8] [(.int 8), (.ref o1)]) _
      refine X0.aaload hx (j := (8 : Int32)) (v := (.ref w9)) (by rw [e0]; exact Ar1.1) (State.isArrayOf_alike hZ.alike Ar1.2.1) rfl Ar1.2.2 hin1 hat1 (g := (mkF m 225 #[iv p0s, rv o1, rv o2, iv 8] [(.int 8), (.ref o1)])) rfl rfl (hb hby at_225) _ ?_
      show SF p e below T0 (mkF m 226 #[iv p0s, rv o1, rv o2, iv 8] [(.ref w9)]) _
      refine st2.trans ?_
      show SF p e below T2 (mkF m 229 #[iv p0s, rv o1, rv o2, iv 8] [(.int 0)]) _
      refine XS.aloadN X2.here hx rfl (hb hby at_229) rfl rfl ?_
      show SF p e below T2 (mkF m 230 #[iv p0s, rv o1, rv o2, iv 8] [(.ref o2), (.int 0)]) _
      refine XS.iloadN X2.here hx rfl (hb hby at_230) rfl ?_
      show SF p e below T2 (mkF m 231 #[iv p0s, rv o1, rv o2, iv 8] [(.int 8), (.ref o2), (.int 0)]) _
      refine X2.baloadBooleans hx (j := (8 : Int32)) (v := (.int 0)) (by rw [e2]; exact Ar3.1) (State.isArrayOf_alike hZ.alike Ar3.2.1) Ar3.2.2 hin3 hat3 (g := (mkF m 231 #[iv p0s, rv o1, rv o2, iv 8] [(.int 8), (.ref o2), (.int 0)])) rfl rfl (hb hby at_231) _ ?_
      show SF p e below T2 (mkF m 232 #[iv p0s, rv o1, rv o2, iv 8] [(.int 0), (.int 0)]) _
      refine XS.icmpNo X2.here hx rfl (hb hby at_232) rfl (teq (by decide : (0 : Int32) = (0 : Int32))).2 ?_
      show SF p e below T2 (mkF m 235 #[iv p0s, rv o1, rv o2, iv 8] []) _
      refine XS.iconst X2.here hx rfl (hb hby at_235) ?_
      show SF p e below T2 (mkF m 236 #[iv p0s, rv o1, rv o2, iv 8] [(.int 1)]) _
      refine XS.goto X2.here hx rfl (pc0 := 236) (pc' := 240) rfl (hb hby at_236) (by decide) (by decide) ?_
      show SF p e below T2 (mkF m 240 #[iv p0s, rv o1, rv o2, iv 8] [(.int 1)]) _
      exact retN X2 hx (t := .boolean) hre (by simp) (hb hby at_240) hr
    · exact ⟨rfl, N2⟩
  · obtain ⟨cl1, Ar1, q1, S1, N1z, H1, G1⟩ := P1
    have hin1 : ¬ ((9 : Int32) < 0 ∨ cl1.slots.size ≤ ((9 : Int32)).toNatClampNeg) := inb_of S1 ⟨by decide, by decide⟩
    have hat1 : cl1.slots[((9 : Int32)).toNatClampNeg]? = some (.ref w10) := Has.at H1 hin1 rfl
    obtain ⟨cq2, kq2, q2a, q2b, q2c⟩ := isOf hZ e0 (E_w10.ext O0.2)
    obtain ⟨_, _, ⟨T2, L2, k2x, n2⟩, -, X2, ⟨Lc2, hQ2, l2, y2, z2⟩, st2⟩ := X0.virtualBack hx (y := (⟨"com/example/edictum/edictum/io/XpathTokens$Kind", "beginsStep", "()Z"⟩ : MethodName)) (z := (⟨"com/example/edictum/edictum/io/XpathTokens$Kind", "beginsStep", "()Z"⟩ : MethodName)) hown (mvT hZ (tw hw 42 rfl)) (mvT hZ (tw hw 43 rfl)) (notFace_of_selects (args := #[]) (mvT hZ (tw hw 45 rfl))) (mvT hZ (tw hw 45 rfl)) (mvT hZ (tw hw 44 rfl)) (by decide) (backOf (W := 0) (rm1_10 l Z a0 hw [] w10 w1 w11 w13 w14 w15 w16 h0 n0 Z0 Sg0 O0 F_w10_ordinal F_w1_ordinal Sg20 F_w11_ordinal Sg24 F_w13_ordinal Sg26 F_w14_ordinal Sg28 F_w15_ordinal Sg30 F_w16_ordinal) hZ (tw hw 46 rfl) (tw hw 3 rfl) (by decide) (by decide)) q2a q2c (g := (mkF m 226 #[iv p0s, rv o1, rv o2, iv 9] [(.ref w10)])) rfl (by rw [hml]; rfl) (Steps.refl _) (argsL := []) (rest := []) (lenOf pd_0 rfl) rfl (by show 2 * 0 + _ ≤ _; exact Nat.le_of_eq rfl) (hb hby at_226) (fun _ _ => ⟨rfl, e0, (by decide : 2 + 0 ≤ _), (by decide : 36 + 0 ≤ _)⟩)
    dsimp only [Pt.U, Pt.locs, Pt.cells, Pt.slots] at X2 l2 y2 z2 st2 hQ2
    subst l2 y2 z2
    obtain ⟨rfl, N2q, e2⟩ := hQ2
    have N2 := Fr.app N0 N2q
    obtain ⟨cl3, Ar3, q3, S3, N3z, H3, G3⟩ := P3
    have hin3 : ¬ ((9 : Int32) < 0 ∨ cl3.slots.size ≤ ((9 : Int32)).toNatClampNeg) := inb_of S3 ⟨by decide, by decide⟩
    have hat3 : cl3.slots[((9 : Int32)).toNatClampNeg]? = some (.int 0) := Has.at H3 hin3 rfl
    obtain ⟨fs, hr, hrun, hended, hW, hsame⟩ := X2.leave (v := some (.int (1 : Int32))) (fun h => by rw [hre] at h; cases h)
    refine ⟨_, _, pre0 _ (?_), hrun, hended, _, _, rfl, ?_, ⟨_, rfl⟩, hW, hsame.mono (by decide) (by decide)⟩
    · show SF p e below T0 (mkF m 222 #[iv p0s, rv o1, rv o2, .unset] [(.int ((p0s &&& (2147483647 : Int32)) % (18 : Int32)))]) _
      rw [hc1]
      show SF p e below T0 (mkF m 222 #[iv p0s, rv o1, rv o2, .unset] [(.int 9)]) _
      refine XS.istoreN X0.here hx rfl (hb hby at_222) rfl (l' := #[iv p0s, rv o1, rv o2, iv 9]) rfl ?_
      show SF p e below T0 (mkF m 223 #[iv p0s, rv o1, rv o2, iv 9] []) _
      refine XS.aloadN X0.here hx rfl (hb hby at_223) rfl rfl ?_
      show SF p e below T0 (mkF m 224 #[iv p0s, rv o1, rv o2, iv 9] [(.ref o1)]) _
      refine XS.iloadN X0.here hx rfl (hb hby at_224) rfl ?_
      show SF p e below T0 (mkF m 225 #[iv p0s, rv o1, rv o2, iv 9] [(.int 9), (.ref o1)]) _
      refine X0.aaload hx (j := (9 : Int32)) (v := (.ref w10)) (by rw [e0]; exact Ar1.1) (State.isArrayOf_alike hZ.alike Ar1.2.1) rfl Ar1.2.2 hin1 hat1 (g := (mkF m 225 #[iv p0s, rv o1, rv o2, iv 9] [(.int 9), (.ref o1)])) rfl rfl (hb hby at_225) _ ?_
      show SF p e below T0 (mkF m 226 #[iv p0s, rv o1, rv o2, iv 9] [(.ref w10)]) _
      refine st2.trans ?_
      show SF p e below T2 (mkF m 229 #[iv p0s, rv o1, rv o2, iv 9] [(.int 0)]) _
      refine XS.aloadN X2.here hx rfl (hb hby at_229) rfl rfl ?_
      show SF p e below T2 (mkF m 230 #[iv p0s, rv o1, rv o2, iv 9] [(.ref o2), (.int 0)]) _
      refine XS.iloadN X2.here hx rfl (hb hby at_230) rfl ?_
      show SF p e below T2 (mkF m 231 #[iv p0s, rv o1, rv o2, iv 9] [(.int 9), (.ref o2), (.int 0)]) _
      refine X2.baloadBooleans hx (j := (9 : Int32)) (v := (.int 0)) (by rw [e2]; exact Ar3.1) (State.isArrayOf_alike hZ.alike Ar3.2.1) Ar3.2.2 hin3 hat3 (g := (mkF m 231 #[iv p0s, rv o1, rv o2, iv 9] [(.int 9), (.ref o2), (.int 0)])) rfl rfl (hb hby at_231) _ ?_
      show SF p e below T2 (mkF m 232 #[iv p0s, rv o1, rv o2, iv 9] [(.int 0), (.int 0)]) _
      refine XS.icmpNo X2.here hx rfl (hb hby at_232) rfl (teq (by decide : (0 : Int32) = (0 : Int32))).2 ?_
      show SF p e below T2 (mkF m 235 #[iv p0s, rv o1, rv o2, iv 9] []) _
      refine XS.iconst X2.here hx rfl (hb hby at_235) ?_
      show SF p e below T2 (mkF m 236 #[iv p0s, rv o1, rv o2, iv 9] [(.int 1)]) _
      refine XS.goto X2.here hx rfl (pc0 := 236) (pc' := 240) rfl (hb hby at_236) (by decide) (by decide) ?_
      show SF p e below T2 (mkF m 240 #[iv p0s, rv o1, rv o2, iv 9] [(.int 1)]) _
      exact retN X2 hx (t := .boolean) hre (by simp) (hb hby at_240) hr
    · exact ⟨rfl, N2⟩
  · obtain ⟨cl1, Ar1, q1, S1, N1z, H1, G1⟩ := P1
    have hin1 : ¬ ((10 : Int32) < 0 ∨ cl1.slots.size ≤ ((10 : Int32)).toNatClampNeg) := inb_of S1 ⟨by decide, by decide⟩
    have hat1 : cl1.slots[((10 : Int32)).toNatClampNeg]? = some (.ref w11) := Has.at H1 hin1 rfl
    obtain ⟨cq2, kq2, q2a, q2b, q2c⟩ := isOf hZ e0 (E_w11.ext O0.2)
    obtain ⟨_, _, ⟨T2, L2, k2x, n2⟩, -, X2, ⟨Lc2, hQ2, l2, y2, z2⟩, st2⟩ := X0.virtualBack hx (y := (⟨"com/example/edictum/edictum/io/XpathTokens$Kind", "beginsStep", "()Z"⟩ : MethodName)) (z := (⟨"com/example/edictum/edictum/io/XpathTokens$Kind", "beginsStep", "()Z"⟩ : MethodName)) hown (mvT hZ (tw hw 42 rfl)) (mvT hZ (tw hw 43 rfl)) (notFace_of_selects (args := #[]) (mvT hZ (tw hw 45 rfl))) (mvT hZ (tw hw 45 rfl)) (mvT hZ (tw hw 44 rfl)) (by decide) (backOf (W := 0) (rm1_11 l Z a0 hw [] w11 w1 h0 n0 Z0 Sg0 O0 F_w11_ordinal F_w1_ordinal Sg20) hZ (tw hw 46 rfl) (tw hw 3 rfl) (by decide) (by decide)) q2a q2c (g := (mkF m 226 #[iv p0s, rv o1, rv o2, iv 10] [(.ref w11)])) rfl (by rw [hml]; rfl) (Steps.refl _) (argsL := []) (rest := []) (lenOf pd_0 rfl) rfl (by show 2 * 0 + _ ≤ _; exact Nat.le_of_eq rfl) (hb hby at_226) (fun _ _ => ⟨rfl, e0, (by decide : 2 + 0 ≤ _), (by decide : 36 + 0 ≤ _)⟩)
    dsimp only [Pt.U, Pt.locs, Pt.cells, Pt.slots] at X2 l2 y2 z2 st2 hQ2
    subst l2 y2 z2
    obtain ⟨rfl, N2q, e2⟩ := hQ2
    have N2 := Fr.app N0 N2q
    obtain ⟨cl3, Ar3, q3, S3, N3z, H3, G3⟩ := P3
    have hin3 : ¬ ((10 : Int32) < 0 ∨ cl3.slots.size ≤ ((10 : Int32)).toNatClampNeg) := inb_of S3 ⟨by decide, by decide⟩
    have hat3 : cl3.slots[((10 : Int32)).toNatClampNeg]? = some (.int 1) := Has.at H3 hin3 rfl
    obtain ⟨fs, hr, hrun, hended, hW, hsame⟩ := X2.leave (v := some (.int (1 : Int32))) (fun h => by rw [hre] at h; cases h)
    refine ⟨_, _, pre0 _ (?_), hrun, hended, _, _, rfl, ?_, ⟨_, rfl⟩, hW, hsame.mono (by decide) (by decide)⟩
    · show SF p e below T0 (mkF m 222 #[iv p0s, rv o1, rv o2, .unset] [(.int ((p0s &&& (2147483647 : Int32)) % (18 : Int32)))]) _
      rw [hc1]
      show SF p e below T0 (mkF m 222 #[iv p0s, rv o1, rv o2, .unset] [(.int 10)]) _
      refine XS.istoreN X0.here hx rfl (hb hby at_222) rfl (l' := #[iv p0s, rv o1, rv o2, iv 10]) rfl ?_
      show SF p e below T0 (mkF m 223 #[iv p0s, rv o1, rv o2, iv 10] []) _
      refine XS.aloadN X0.here hx rfl (hb hby at_223) rfl rfl ?_
      show SF p e below T0 (mkF m 224 #[iv p0s, rv o1, rv o2, iv 10] [(.ref o1)]) _
      refine XS.iloadN X0.here hx rfl (hb hby at_224) rfl ?_
      show SF p e below T0 (mkF m 225 #[iv p0s, rv o1, rv o2, iv 10] [(.int 10), (.ref o1)]) _
      refine X0.aaload hx (j := (10 : Int32)) (v := (.ref w11)) (by rw [e0]; exact Ar1.1) (State.isArrayOf_alike hZ.alike Ar1.2.1) rfl Ar1.2.2 hin1 hat1 (g := (mkF m 225 #[iv p0s, rv o1, rv o2, iv 10] [(.int 10), (.ref o1)])) rfl rfl (hb hby at_225) _ ?_
      show SF p e below T0 (mkF m 226 #[iv p0s, rv o1, rv o2, iv 10] [(.ref w11)]) _
      refine st2.trans ?_
      show SF p e below T2 (mkF m 229 #[iv p0s, rv o1, rv o2, iv 10] [(.int 1)]) _
      refine XS.aloadN X2.here hx rfl (hb hby at_229) rfl rfl ?_
      show SF p e below T2 (mkF m 230 #[iv p0s, rv o1, rv o2, iv 10] [(.ref o2), (.int 1)]) _
      refine XS.iloadN X2.here hx rfl (hb hby at_230) rfl ?_
      show SF p e below T2 (mkF m 231 #[iv p0s, rv o1, rv o2, iv 10] [(.int 10), (.ref o2), (.int 1)]) _
      refine X2.baloadBooleans hx (j := (10 : Int32)) (v := (.int 1)) (by rw [e2]; exact Ar3.1) (State.isArrayOf_alike hZ.alike Ar3.2.1) Ar3.2.2 hin3 hat3 (g := (mkF m 231 #[iv p0s, rv o1, rv o2, iv 10] [(.int 10), (.ref o2), (.int 1)])) rfl rfl (hb hby at_231) _ ?_
      show SF p e below T2 (mkF m 232 #[iv p0s, rv o1, rv o2, iv 10] [(.int 1), (.int 1)]) _
      refine XS.icmpNo X2.here hx rfl (hb hby at_232) rfl (teq (by decide : (1 : Int32) = (1 : Int32))).2 ?_
      show SF p e below T2 (mkF m 235 #[iv p0s, rv o1, rv o2, iv 10] []) _
      refine XS.iconst X2.here hx rfl (hb hby at_235) ?_
      show SF p e below T2 (mkF m 236 #[iv p0s, rv o1, rv o2, iv 10] [(.int 1)]) _
      refine XS.goto X2.here hx rfl (pc0 := 236) (pc' := 240) rfl (hb hby at_236) (by decide) (by decide) ?_
      show SF p e below T2 (mkF m 240 #[iv p0s, rv o1, rv o2, iv 10] [(.int 1)]) _
      exact retN X2 hx (t := .boolean) hre (by simp) (hb hby at_240) hr
    · exact ⟨rfl, N2⟩
  · obtain ⟨cl1, Ar1, q1, S1, N1z, H1, G1⟩ := P1
    have hin1 : ¬ ((11 : Int32) < 0 ∨ cl1.slots.size ≤ ((11 : Int32)).toNatClampNeg) := inb_of S1 ⟨by decide, by decide⟩
    have hat1 : cl1.slots[((11 : Int32)).toNatClampNeg]? = some (.ref w12) := Has.at H1 hin1 rfl
    obtain ⟨cq2, kq2, q2a, q2b, q2c⟩ := isOf hZ e0 (E_w12.ext O0.2)
    obtain ⟨_, _, ⟨T2, L2, k2x, n2⟩, -, X2, ⟨Lc2, hQ2, l2, y2, z2⟩, st2⟩ := X0.virtualBack hx (y := (⟨"com/example/edictum/edictum/io/XpathTokens$Kind", "beginsStep", "()Z"⟩ : MethodName)) (z := (⟨"com/example/edictum/edictum/io/XpathTokens$Kind", "beginsStep", "()Z"⟩ : MethodName)) hown (mvT hZ (tw hw 42 rfl)) (mvT hZ (tw hw 43 rfl)) (notFace_of_selects (args := #[]) (mvT hZ (tw hw 45 rfl))) (mvT hZ (tw hw 45 rfl)) (mvT hZ (tw hw 44 rfl)) (by decide) (backOf (W := 0) (rm1_12 l Z a0 hw [] w12 w1 w11 w13 w14 w15 w16 h0 n0 Z0 Sg0 O0 F_w12_ordinal F_w1_ordinal Sg20 F_w11_ordinal Sg24 F_w13_ordinal Sg26 F_w14_ordinal Sg28 F_w15_ordinal Sg30 F_w16_ordinal) hZ (tw hw 46 rfl) (tw hw 3 rfl) (by decide) (by decide)) q2a q2c (g := (mkF m 226 #[iv p0s, rv o1, rv o2, iv 11] [(.ref w12)])) rfl (by rw [hml]; rfl) (Steps.refl _) (argsL := []) (rest := []) (lenOf pd_0 rfl) rfl (by show 2 * 0 + _ ≤ _; exact Nat.le_of_eq rfl) (hb hby at_226) (fun _ _ => ⟨rfl, e0, (by decide : 2 + 0 ≤ _), (by decide : 36 + 0 ≤ _)⟩)
    dsimp only [Pt.U, Pt.locs, Pt.cells, Pt.slots] at X2 l2 y2 z2 st2 hQ2
    subst l2 y2 z2
    obtain ⟨rfl, N2q, e2⟩ := hQ2
    have N2 := Fr.app N0 N2q
    obtain ⟨cl3, Ar3, q3, S3, N3z, H3, G3⟩ := P3
    have hin3 : ¬ ((11 : Int32) < 0 ∨ cl3.slots.size ≤ ((11 : Int32)).toNatClampNeg) := inb_of S3 ⟨by decide, by decide⟩
    have hat3 : cl3.slots[((11 : Int32)).toNatClampNeg]? = some (.int 0) := Has.at H3 hin3 rfl
    obtain ⟨fs, hr, hrun, hended, hW, hsame⟩ := X2.leave (v := some (.int (1 : Int32))) (fun h => by rw [hre] at h; cases h)
    refine ⟨_, _, pre0 _ (?_), hrun, hended, _, _, rfl, ?_, ⟨_, rfl⟩, hW, hsame.mono (by decide) (by decide)⟩
    · show SF p e below T0 (mkF m 222 #[iv p0s, rv o1, rv o2, .unset] [(.int ((p0s &&& (2147483647 : Int32)) % (18 : Int32)))]) _
      rw [hc1]
      show SF p e below T0 (mkF m 222 #[iv p0s, rv o1, rv o2, .unset] [(.int 11)]) _
      refine XS.istoreN X0.here hx rfl (hb hby at_222) rfl (l' := #[iv p0s, rv o1, rv o2, iv 11]) rfl ?_
      show SF p e below T0 (mkF m 223 #[iv p0s, rv o1, rv o2, iv 11] []) _
      refine XS.aloadN X0.here hx rfl (hb hby at_223) rfl rfl ?_
      show SF p e below T0 (mkF m 224 #[iv p0s, rv o1, rv o2, iv 11] [(.ref o1)]) _
      refine XS.iloadN X0.here hx rfl (hb hby at_224) rfl ?_
      show SF p e below T0 (mkF m 225 #[iv p0s, rv o1, rv o2, iv 11] [(.int 11), (.ref o1)]) _
      refine X0.aaload hx (j := (11 : Int32)) (v := (.ref w12)) (by rw [e0]; exact Ar1.1) (State.isArrayOf_alike hZ.alike Ar1.2.1) rfl Ar1.2.2 hin1 hat1 (g := (mkF m 225 #[iv p0s, rv o1, rv o2, iv 11] [(.int 11), (.ref o1)])) rfl rfl (hb hby at_225) _ ?_
      show SF p e below T0 (mkF m 226 #[iv p0s, rv o1, rv o2, iv 11] [(.ref w12)]) _
      refine st2.trans ?_
      show SF p e below T2 (mkF m 229 #[iv p0s, rv o1, rv o2, iv 11] [(.int 0)]) _
      refine XS.aloadN X2.here hx rfl (hb hby at_229) rfl rfl ?_
      show SF p e below T2 (mkF m 230 #[iv p0s, rv o1, rv o2, iv 11] [(.ref o2), (.int 0)]) _
      refine XS.iloadN X2.here hx rfl (hb hby at_230) rfl ?_
      show SF p e below T2 (mkF m 231 #[iv p0s, rv o1, rv o2, iv 11] [(.int 11), (.ref o2), (.int 0)]) _
      refine X2.baloadBooleans hx (j := (11 : Int32)) (v := (.int 0)) (by rw [e2]; exact Ar3.1) (State.isArrayOf_alike hZ.alike Ar3.2.1) Ar3.2.2 hin3 hat3 (g := (mkF m 231 #[iv p0s, rv o1, rv o2, iv 11] [(.int 11), (.ref o2), (.int 0)])) rfl rfl (hb hby at_231) _ ?_
      show SF p e below T2 (mkF m 232 #[iv p0s, rv o1, rv o2, iv 11] [(.int 0), (.int 0)]) _
      refine XS.icmpNo X2.here hx rfl (hb hby at_232) rfl (teq (by decide : (0 : Int32) = (0 : Int32))).2 ?_
      show SF p e below T2 (mkF m 235 #[iv p0s, rv o1, rv o2, iv 11] []) _
      refine XS.iconst X2.here hx rfl (hb hby at_235) ?_
      show SF p e below T2 (mkF m 236 #[iv p0s, rv o1, rv o2, iv 11] [(.int 1)]) _
      refine XS.goto X2.here hx rfl (pc0 := 236) (pc' := 240) rfl (hb hby at_236) (by decide) (by decide) ?_
      show SF p e below T2 (mkF m 240 #[iv p0s, rv o1, rv o2, iv 11] [(.int 1)]) _
      exact retN X2 hx (t := .boolean) hre (by simp) (hb hby at_240) hr
    · exact ⟨rfl, N2⟩
  · obtain ⟨cl1, Ar1, q1, S1, N1z, H1, G1⟩ := P1
    have hin1 : ¬ ((12 : Int32) < 0 ∨ cl1.slots.size ≤ ((12 : Int32)).toNatClampNeg) := inb_of S1 ⟨by decide, by decide⟩
    have hat1 : cl1.slots[((12 : Int32)).toNatClampNeg]? = some (.ref w13) := Has.at H1 hin1 rfl
    obtain ⟨cq2, kq2, q2a, q2b, q2c⟩ := isOf hZ e0 (E_w13.ext O0.2)
    obtain ⟨_, _, ⟨T2, L2, k2x, n2⟩, -, X2, ⟨Lc2, hQ2, l2, y2, z2⟩, st2⟩ := X0.virtualBack hx (y := (⟨"com/example/edictum/edictum/io/XpathTokens$Kind", "beginsStep", "()Z"⟩ : MethodName)) (z := (⟨"com/example/edictum/edictum/io/XpathTokens$Kind", "beginsStep", "()Z"⟩ : MethodName)) hown (mvT hZ (tw hw 42 rfl)) (mvT hZ (tw hw 43 rfl)) (notFace_of_selects (args := #[]) (mvT hZ (tw hw 45 rfl))) (mvT hZ (tw hw 45 rfl)) (mvT hZ (tw hw 44 rfl)) (by decide) (backOf (W := 0) (rm1_13 l Z a0 hw [] w13 w1 w11 h0 n0 Z0 Sg0 O0 F_w13_ordinal F_w1_ordinal Sg20 F_w11_ordinal Sg24) hZ (tw hw 46 rfl) (tw hw 3 rfl) (by decide) (by decide)) q2a q2c (g := (mkF m 226 #[iv p0s, rv o1, rv o2, iv 12] [(.ref w13)])) rfl (by rw [hml]; rfl) (Steps.refl _) (argsL := []) (rest := []) (lenOf pd_0 rfl) rfl (by show 2 * 0 + _ ≤ _; exact Nat.le_of_eq rfl) (hb hby at_226) (fun _ _ => ⟨rfl, e0, (by decide : 2 + 0 ≤ _), (by decide : 36 + 0 ≤ _)⟩)
    dsimp only [Pt.U, Pt.locs, Pt.cells, Pt.slots] at X2 l2 y2 z2 st2 hQ2
    subst l2 y2 z2
    obtain ⟨rfl, N2q, e2⟩ := hQ2
    have N2 := Fr.app N0 N2q
    obtain ⟨cl3, Ar3, q3, S3, N3z, H3, G3⟩ := P3
    have hin3 : ¬ ((12 : Int32) < 0 ∨ cl3.slots.size ≤ ((12 : Int32)).toNatClampNeg) := inb_of S3 ⟨by decide, by decide⟩
    have hat3 : cl3.slots[((12 : Int32)).toNatClampNeg]? = some (.int 1) := Has.at H3 hin3 rfl
    obtain ⟨fs, hr, hrun, hended, hW, hsame⟩ := X2.leave (v := some (.int (1 : Int32))) (fun h => by rw [hre] at h; cases h)
    refine ⟨_, _, pre0 _ (?_), hrun, hended, _, _, rfl, ?_, ⟨_, rfl⟩, hW, hsame.mono (by decide) (by decide)⟩
    · show SF p e below T0 (mkF m 222 #[iv p0s, rv o1, rv o2, .unset] [(.int ((p0s &&& (2147483647 : Int32)) % (18 : Int32)))]) _
      rw [hc1]
      show SF p e below T0 (mkF m 222 #[iv p0s, rv o1, rv o2, .unset] [(.int 12)]) _
      refine XS.istoreN X0.here hx rfl (hb hby at_222) rfl (l' := #[iv p0s, rv o1, rv o2, iv 12]) rfl ?_
      show SF p e below T0 (mkF m 223 #[iv p0s, rv o1, rv o2, iv 12] []) _
      refine XS.aloadN X0.here hx rfl (hb hby at_223) rfl rfl ?_
      show SF p e below T0 (mkF m 224 #[iv p0s, rv o1, rv o2, iv 12] [(.ref o1)]) _
      refine XS.iloadN X0.here hx rfl (hb hby at_224) rfl ?_
      show SF p e below T0 (mkF m 225 #[iv p0s, rv o1, rv o2, iv 12] [(.int 12), (.ref o1)]) _
      refine X0.aaload hx (j := (12 : Int32)) (v := (.ref w13)) (by rw [e0]; exact Ar1.1) (State.isArrayOf_alike hZ.alike Ar1.2.1) rfl Ar1.2.2 hin1 hat1 (g := (mkF m 225 #[iv p0s, rv o1, rv o2, iv 12] [(.int 12), (.ref o1)])) rfl rfl (hb hby at_225) _ ?_
      show SF p e below T0 (mkF m 226 #[iv p0s, rv o1, rv o2, iv 12] [(.ref w13)]) _
      refine st2.trans ?_
      show SF p e below T2 (mkF m 229 #[iv p0s, rv o1, rv o2, iv 12] [(.int 1)]) _
      refine XS.aloadN X2.here hx rfl (hb hby at_229) rfl rfl ?_
      show SF p e below T2 (mkF m 230 #[iv p0s, rv o1, rv o2, iv 12] [(.ref o2), (.int 1)]) _
      refine XS.iloadN X2.here hx rfl (hb hby at_230) rfl ?_
      show SF p e below T2 (mkF m 231 #[iv p0s, rv o1, rv o2, iv 12] [(.int 12), (.ref o2), (.int 1)]) _
      refine X2.baloadBooleans hx (j := (12 : Int32)) (v := (.int 1)) (by rw [e2]; exact Ar3.1) (State.isArrayOf_alike hZ.alike Ar3.2.1) Ar3.2.2 hin3 hat3 (g := (mkF m 231 #[iv p0s, rv o1, rv o2, iv 12] [(.int 12), (.ref o2), (.int 1)])) rfl rfl (hb hby at_231) _ ?_
      show SF p e below T2 (mkF m 232 #[iv p0s, rv o1, rv o2, iv 12] [(.int 1), (.int 1)]) _
      refine XS.icmpNo X2.here hx rfl (hb hby at_232) rfl (teq (by decide : (1 : Int32) = (1 : Int32))).2 ?_
      show SF p e below T2 (mkF m 235 #[iv p0s, rv o1, rv o2, iv 12] []) _
      refine XS.iconst X2.here hx rfl (hb hby at_235) ?_
      show SF p e below T2 (mkF m 236 #[iv p0s, rv o1, rv o2, iv 12] [(.int 1)]) _
      refine XS.goto X2.here hx rfl (pc0 := 236) (pc' := 240) rfl (hb hby at_236) (by decide) (by decide) ?_
      show SF p e below T2 (mkF m 240 #[iv p0s, rv o1, rv o2, iv 12] [(.int 1)]) _
      exact retN X2 hx (t := .boolean) hre (by simp) (hb hby at_240) hr
    · exact ⟨rfl, N2⟩
  · obtain ⟨cl1, Ar1, q1, S1, N1z, H1, G1⟩ := P1
    have hin1 : ¬ ((13 : Int32) < 0 ∨ cl1.slots.size ≤ ((13 : Int32)).toNatClampNeg) := inb_of S1 ⟨by decide, by decide⟩
    have hat1 : cl1.slots[((13 : Int32)).toNatClampNeg]? = some (.ref w14) := Has.at H1 hin1 rfl
    obtain ⟨cq2, kq2, q2a, q2b, q2c⟩ := isOf hZ e0 (E_w14.ext O0.2)
    obtain ⟨_, _, ⟨T2, L2, k2x, n2⟩, -, X2, ⟨Lc2, hQ2, l2, y2, z2⟩, st2⟩ := X0.virtualBack hx (y := (⟨"com/example/edictum/edictum/io/XpathTokens$Kind", "beginsStep", "()Z"⟩ : MethodName)) (z := (⟨"com/example/edictum/edictum/io/XpathTokens$Kind", "beginsStep", "()Z"⟩ : MethodName)) hown (mvT hZ (tw hw 42 rfl)) (mvT hZ (tw hw 43 rfl)) (notFace_of_selects (args := #[]) (mvT hZ (tw hw 45 rfl))) (mvT hZ (tw hw 45 rfl)) (mvT hZ (tw hw 44 rfl)) (by decide) (backOf (W := 0) (rm1_14 l Z a0 hw [] w14 w1 w11 w13 h0 n0 Z0 Sg0 O0 F_w14_ordinal F_w1_ordinal Sg20 F_w11_ordinal Sg24 F_w13_ordinal Sg26) hZ (tw hw 46 rfl) (tw hw 3 rfl) (by decide) (by decide)) q2a q2c (g := (mkF m 226 #[iv p0s, rv o1, rv o2, iv 13] [(.ref w14)])) rfl (by rw [hml]; rfl) (Steps.refl _) (argsL := []) (rest := []) (lenOf pd_0 rfl) rfl (by show 2 * 0 + _ ≤ _; exact Nat.le_of_eq rfl) (hb hby at_226) (fun _ _ => ⟨rfl, e0, (by decide : 2 + 0 ≤ _), (by decide : 36 + 0 ≤ _)⟩)
    dsimp only [Pt.U, Pt.locs, Pt.cells, Pt.slots] at X2 l2 y2 z2 st2 hQ2
    subst l2 y2 z2
    obtain ⟨rfl, N2q, e2⟩ := hQ2
    have N2 := Fr.app N0 N2q
    obtain ⟨cl3, Ar3, q3, S3, N3z, H3, G3⟩ := P3
    have hin3 : ¬ ((13 : Int32) < 0 ∨ cl3.slots.size ≤ ((13 : Int32)).toNatClampNeg) := inb_of S3 ⟨by decide, by decide⟩
    have hat3 : cl3.slots[((13 : Int32)).toNatClampNeg]? = some (.int 1) := Has.at H3 hin3 rfl
    obtain ⟨fs, hr, hrun, hended, hW, hsame⟩ := X2.leave (v := some (.int (1 : Int32))) (fun h => by rw [hre] at h; cases h)
    refine ⟨_, _, pre0 _ (?_), hrun, hended, _, _, rfl, ?_, ⟨_, rfl⟩, hW, hsame.mono (by decide) (by decide)⟩
    · show SF p e below T0 (mkF m 222 #[iv p0s, rv o1, rv o2, .unset] [(.int ((p0s &&& (2147483647 : Int32)) % (18 : Int32)))]) _
      rw [hc1]
      show SF p e below T0 (mkF m 222 #[iv p0s, rv o1, rv o2, .unset] [(.int 13)]) _
      refine XS.istoreN X0.here hx rfl (hb hby at_222) rfl (l' := #[iv p0s, rv o1, rv o2, iv 13]) rfl ?_
      show SF p e below T0 (mkF m 223 #[iv p0s, rv o1, rv o2, iv 13] []) _
      refine XS.aloadN X0.here hx rfl (hb hby at_223) rfl rfl ?_
      show SF p e below T0 (mkF m 224 #[iv p0s, rv o1, rv o2, iv 13] [(.ref o1)]) _
      refine XS.iloadN X0.here hx rfl (hb hby at_224) rfl ?_
      show SF p e below T0 (mkF m 225 #[iv p0s, rv o1, rv o2, iv 13] [(.int 13), (.ref o1)]) _
      refine X0.aaload hx (j := (13 : Int32)) (v := (.ref w14)) (by rw [e0]; exact Ar1.1) (State.isArrayOf_alike hZ.alike Ar1.2.1) rfl Ar1.2.2 hin1 hat1 (g := (mkF m 225 #[iv p0s, rv o1, rv o2, iv 13] [(.int 13), (.ref o1)])) rfl rfl (hb hby at_225) _ ?_
      show SF p e below T0 (mkF m 226 #[iv p0s, rv o1, rv o2, iv 13] [(.ref w14)]) _
      refine st2.trans ?_
      show SF p e below T2 (mkF m 229 #[iv p0s, rv o1, rv o2, iv 13] [(.int 1)]) _
      refine XS.aloadN X2.here hx rfl (hb hby at_229) rfl rfl ?_
      show SF p e below T2 (mkF m 230 #[iv p0s, rv o1, rv o2, iv 13] [(.ref o2), (.int 1)]) _
      refine XS.iloadN X2.here hx rfl (hb hby at_230) rfl ?_
      show SF p e below T2 (mkF m 231 #[iv p0s, rv o1, rv o2, iv 13] [(.int 13), (.ref o2), (.int 1)]) _
      refine X2.baloadBooleans hx (j := (13 : Int32)) (v := (.int 1)) (by rw [e2]; exact Ar3.1) (State.isArrayOf_alike hZ.alike Ar3.2.1) Ar3.2.2 hin3 hat3 (g := (mkF m 231 #[iv p0s, rv o1, rv o2, iv 13] [(.int 13), (.ref o2), (.int 1)])) rfl rfl (hb hby at_231) _ ?_
      show SF p e below T2 (mkF m 232 #[iv p0s, rv o1, rv o2, iv 13] [(.int 1), (.int 1)]) _
      refine XS.icmpNo X2.here hx rfl (hb hby at_232) rfl (teq (by decide : (1 : Int32) = (1 : Int32))).2 ?_
      show SF p e below T2 (mkF m 235 #[iv p0s, rv o1, rv o2, iv 13] []) _
      refine XS.iconst X2.here hx rfl (hb hby at_235) ?_
      show SF p e below T2 (mkF m 236 #[iv p0s, rv o1, rv o2, iv 13] [(.int 1)]) _
      refine XS.goto X2.here hx rfl (pc0 := 236) (pc' := 240) rfl (hb hby at_236) (by decide) (by decide) ?_
      show SF p e below T2 (mkF m 240 #[iv p0s, rv o1, rv o2, iv 13] [(.int 1)]) _
      exact retN X2 hx (t := .boolean) hre (by simp) (hb hby at_240) hr
    · exact ⟨rfl, N2⟩
  · obtain ⟨cl1, Ar1, q1, S1, N1z, H1, G1⟩ := P1
    have hin1 : ¬ ((14 : Int32) < 0 ∨ cl1.slots.size ≤ ((14 : Int32)).toNatClampNeg) := inb_of S1 ⟨by decide, by decide⟩
    have hat1 : cl1.slots[((14 : Int32)).toNatClampNeg]? = some (.ref w15) := Has.at H1 hin1 rfl
    obtain ⟨cq2, kq2, q2a, q2b, q2c⟩ := isOf hZ e0 (E_w15.ext O0.2)
    obtain ⟨_, _, ⟨T2, L2, k2x, n2⟩, -, X2, ⟨Lc2, hQ2, l2, y2, z2⟩, st2⟩ := X0.virtualBack hx (y := (⟨"com/example/edictum/edictum/io/XpathTokens$Kind", "beginsStep", "()Z"⟩ : MethodName)) (z := (⟨"com/example/edictum/edictum/io/XpathTokens$Kind", "beginsStep", "()Z"⟩ : MethodName)) hown (mvT hZ (tw hw 42 rfl)) (mvT hZ (tw hw 43 rfl)) (notFace_of_selects (args := #[]) (mvT hZ (tw hw 45 rfl))) (mvT hZ (tw hw 45 rfl)) (mvT hZ (tw hw 44 rfl)) (by decide) (backOf (W := 0) (rm1_15 l Z a0 hw [] w15 w1 w11 w13 w14 h0 n0 Z0 Sg0 O0 F_w15_ordinal F_w1_ordinal Sg20 F_w11_ordinal Sg24 F_w13_ordinal Sg26 F_w14_ordinal Sg28) hZ (tw hw 46 rfl) (tw hw 3 rfl) (by decide) (by decide)) q2a q2c (g := (mkF m 226 #[iv p0s, rv o1, rv o2, iv 14] [(.ref w15)])) rfl (by rw [hml]; rfl) (Steps.refl _) (argsL := []) (rest := []) (lenOf pd_0 rfl) rfl (by show 2 * 0 + _ ≤ _; exact Nat.le_of_eq rfl) (hb hby at_226) (fun _ _ => ⟨rfl, e0, (by decide : 2 + 0 ≤ _), (by decide : 36 + 0 ≤ _)⟩)
    dsimp only [Pt.U, Pt.locs, Pt.cells, Pt.slots] at X2 l2 y2 z2 st2 hQ2
    subst l2 y2 z2
    obtain ⟨rfl, N2q, e2⟩ := hQ2
    have N2 := Fr.app N0 N2q
    obtain ⟨cl3, Ar3, q3, S3, N3z, H3, G3⟩ := P3
    have hin3 : ¬ ((14 : Int32) < 0 ∨ cl3.slots.size ≤ ((14 : Int32)).toNatClampNeg) := inb_of S3 ⟨by decide, by decide⟩
    have hat3 : cl3.slots[((14 : Int32)).toNatClampNeg]? = some (.int 1) := Has.at H3 hin3 rfl
    obtain ⟨fs, hr, hrun, hended, hW, hsame⟩ := X2.leave (v := some (.int (1 : Int32))) (fun h => by rw [hre] at h; cases h)
    refine ⟨_, _, pre0 _ (?_), hrun, hended, _, _, rfl, ?_, ⟨_, rfl⟩, hW, hsame.mono (by decide) (by decide)⟩
    · show SF p e below T0 (mkF m 222 #[iv p0s, rv o1, rv o2, .unset] [(.int ((p0s &&& (2147483647 : Int32)) % (18 : Int32)))]) _
      rw [hc1]
      show SF p e below T0 (mkF m 222 #[iv p0s, rv o1, rv o2, .unset] [(.int 14)]) _
      refine XS.istoreN X0.here hx rfl (hb hby at_222) rfl (l' := #[iv p0s, rv o1, rv o2, iv 14]) rfl ?_
      show SF p e below T0 (mkF m 223 #[iv p0s, rv o1, rv o2, iv 14] []) _
      refine XS.aloadN X0.here hx rfl (hb hby at_223) rfl rfl ?_
      show SF p e below T0 (mkF m 224 #[iv p0s, rv o1, rv o2, iv 14] [(.ref o1)]) _
      refine XS.iloadN X0.here hx rfl (hb hby at_224) rfl ?_
      show SF p e below T0 (mkF m 225 #[iv p0s, rv o1, rv o2, iv 14] [(.int 14), (.ref o1)]) _
      refine X0.aaload hx (j := (14 : Int32)) (v := (.ref w15)) (by rw [e0]; exact Ar1.1) (State.isArrayOf_alike hZ.alike Ar1.2.1) rfl Ar1.2.2 hin1 hat1 (g := (mkF m 225 #[iv p0s, rv o1, rv o2, iv 14] [(.int 14), (.ref o1)])) rfl rfl (hb hby at_225) _ ?_
      show SF p e below T0 (mkF m 226 #[iv p0s, rv o1, rv o2, iv 14] [(.ref w15)]) _
      refine st2.trans ?_
      show SF p e below T2 (mkF m 229 #[iv p0s, rv o1, rv o2, iv 14] [(.int 1)]) _
      refine XS.aloadN X2.here hx rfl (hb hby at_229) rfl rfl ?_
      show SF p e below T2 (mkF m 230 #[iv p0s, rv o1, rv o2, iv 14] [(.ref o2), (.int 1)]) _
      refine XS.iloadN X2.here hx rfl (hb hby at_230) rfl ?_
      show SF p e below T2 (mkF m 231 #[iv p0s, rv o1, rv o2, iv 14] [(.int 14), (.ref o2), (.int 1)]) _
      refine X2.baloadBooleans hx (j := (14 : Int32)) (v := (.int 1)) (by rw [e2]; exact Ar3.1) (State.isArrayOf_alike hZ.alike Ar3.2.1) Ar3.2.2 hin3 hat3 (g := (mkF m 231 #[iv p0s, rv o1, rv o2, iv 14] [(.int 14), (.ref o2), (.int 1)])) rfl rfl (hb hby at_231) _ ?_
      show SF p e below T2 (mkF m 232 #[iv p0s, rv o1, rv o2, iv 14] [(.int 1), (.int 1)]) _
      refine XS.icmpNo X2.here hx rfl (hb hby at_232) rfl (teq (by decide : (1 : Int32) = (1 : Int32))).2 ?_
      show SF p e below T2 (mkF m 235 #[iv p0s, rv o1, rv o2, iv 14] []) _
      refine XS.iconst X2.here hx rfl (hb hby at_235) ?_
      show SF p e below T2 (mkF m 236 #[iv p0s, rv o1, rv o2, iv 14] [(.int 1)]) _
      refine XS.goto X2.here hx rfl (pc0 := 236) (pc' := 240) rfl (hb hby at_236) (by decide) (by decide) ?_
      show SF p e below T2 (mkF m 240 #[iv p0s, rv o1, rv o2, iv 14] [(.int 1)]) _
      exact retN X2 hx (t := .boolean) hre (by simp) (hb hby at_240) hr
    · exact ⟨rfl, N2⟩
  · obtain ⟨cl1, Ar1, q1, S1, N1z, H1, G1⟩ := P1
    have hin1 : ¬ ((15 : Int32) < 0 ∨ cl1.slots.size ≤ ((15 : Int32)).toNatClampNeg) := inb_of S1 ⟨by decide, by decide⟩
    have hat1 : cl1.slots[((15 : Int32)).toNatClampNeg]? = some (.ref w16) := Has.at H1 hin1 rfl
    obtain ⟨cq2, kq2, q2a, q2b, q2c⟩ := isOf hZ e0 (E_w16.ext O0.2)
    obtain ⟨_, _, ⟨T2, L2, k2x, n2⟩, -, X2, ⟨Lc2, hQ2, l2, y2, z2⟩, st2⟩ := X0.virtualBack hx (y := (⟨"com/example/edictum/edictum/io/XpathTokens$Kind", "beginsStep", "()Z"⟩ : MethodName)) (z := (⟨"com/example/edictum/edictum/io/XpathTokens$Kind", "beginsStep", "()Z"⟩ : MethodName)) hown (mvT hZ (tw hw 42 rfl)) (mvT hZ (tw hw 43 rfl)) (notFace_of_selects (args := #[]) (mvT hZ (tw hw 45 rfl))) (mvT hZ (tw hw 45 rfl)) (mvT hZ (tw hw 44 rfl)) (by decide) (backOf (W := 0) (rm1_16 l Z a0 hw [] w16 w1 w11 w13 w14 w15 h0 n0 Z0 Sg0 O0 F_w16_ordinal F_w1_ordinal Sg20 F_w11_ordinal Sg24 F_w13_ordinal Sg26 F_w14_ordinal Sg28 F_w15_ordinal Sg30) hZ (tw hw 46 rfl) (tw hw 3 rfl) (by decide) (by decide)) q2a q2c (g := (mkF m 226 #[iv p0s, rv o1, rv o2, iv 15] [(.ref w16)])) rfl (by rw [hml]; rfl) (Steps.refl _) (argsL := []) (rest := []) (lenOf pd_0 rfl) rfl (by show 2 * 0 + _ ≤ _; exact Nat.le_of_eq rfl) (hb hby at_226) (fun _ _ => ⟨rfl, e0, (by decide : 2 + 0 ≤ _), (by decide : 36 + 0 ≤ _)⟩)
    dsimp only [Pt.U, Pt.locs, Pt.cells, Pt.slots] at X2 l2 y2 z2 st2 hQ2
    subst l2 y2 z2
    obtain ⟨rfl, N2q, e2⟩ := hQ2
    have N2 := Fr.app N0 N2q
    obtain ⟨cl3, Ar3, q3, S3, N3z, H3, G3⟩ := P3
    have hin3 : ¬ ((15 : Int32) < 0 ∨ cl3.slots.size ≤ ((15 : Int32)).toNatClampNeg) := inb_of S3 ⟨by decide, by decide⟩
    have hat3 : cl3.slots[((15 : Int32)).toNatClampNeg]? = some (.int 1) := Has.at H3 hin3 rfl
    obtain ⟨fs, hr, hrun, hended, hW, hsame⟩ := X2.leave (v := some (.int (1 : Int32))) (fun h => by rw [hre] at h; cases h)
    refine ⟨_, _, pre0 _ (?_), hrun, hended, _, _, rfl, ?_, ⟨_, rfl⟩, hW, hsame.mono (by decide) (by decide)⟩
    · show SF p e below T0 (mkF m 222 #[iv p0s, rv o1, rv o2, .unset] [(.int ((p0s &&& (2147483647 : Int32)) % (18 : Int32)))]) _
      rw [hc1]
      show SF p e below T0 (mkF m 222 #[iv p0s, rv o1, rv o2, .unset] [(.int 15)]) _
      refine XS.istoreN X0.here hx rfl (hb hby at_222) rfl (l' := #[iv p0s, rv o1, rv o2, iv 15]) rfl ?_
      show SF p e below T0 (mkF m 223 #[iv p0s, rv o1, rv o2, iv 15] []) _
      refine XS.aloadN X0.here hx rfl (hb hby at_223) rfl rfl ?_
      show SF p e below T0 (mkF m 224 #[iv p0s, rv o1, rv o2, iv 15] [(.ref o1)]) _
      refine XS.iloadN X0.here hx rfl (hb hby at_224) rfl ?_
      show SF p e below T0 (mkF m 225 #[iv p0s, rv o1, rv o2, iv 15] [(.int 15), (.ref o1)]) _
      refine X0.aaload hx (j := (15 : Int32)) (v := (.ref w16)) (by rw [e0]; exact Ar1.1) (State.isArrayOf_alike hZ.alike Ar1.2.1) rfl Ar1.2.2 hin1 hat1 (g := (mkF m 225 #[iv p0s, rv o1, rv o2, iv 15] [(.int 15), (.ref o1)])) rfl rfl (hb hby at_225) _ ?_
      show SF p e below T0 (mkF m 226 #[iv p0s, rv o1, rv o2, iv 15] [(.ref w16)]) _
      refine st2.trans ?_
      show SF p e below T2 (mkF m 229 #[iv p0s, rv o1, rv o2, iv 15] [(.int 1)]) _
      refine XS.aloadN X2.here hx rfl (hb hby at_229) rfl rfl ?_
      show SF p e below T2 (mkF m 230 #[iv p0s, rv o1, rv o2, iv 15] [(.ref o2), (.int 1)]) _
      refine XS.iloadN X2.here hx rfl (hb hby at_230) rfl ?_
      show SF p e below T2 (mkF m 231 #[iv p0s, rv o1, rv o2, iv 15] [(.int 15), (.ref o2), (.int 1)]) _
      refine X2.baloadBooleans hx (j := (15 : Int32)) (v := (.int 1)) (by rw [e2]; exact Ar3.1) (State.isArrayOf_alike hZ.alike Ar3.2.1) Ar3.2.2 hin3 hat3 (g := (mkF m 231 #[iv p0s, rv o1, rv o2, iv 15] [(.int 15), (.ref o2), (.int 1)])) rfl rfl (hb hby at_231) _ ?_
      show SF p e below T2 (mkF m 232 #[iv p0s, rv o1, rv o2, iv 15] [(.int 1), (.int 1)]) _
      refine XS.icmpNo X2.here hx rfl (hb hby at_232) rfl (teq (by decide : (1 : Int32) = (1 : Int32))).2 ?_
      show SF p e below T2 (mkF m 235 #[iv p0s, rv o1, rv o2, iv 15] []) _
      refine XS.iconst X2.here hx rfl (hb hby at_235) ?_
      show SF p e below T2 (mkF m 236 #[iv p0s, rv o1, rv o2, iv 15] [(.int 1)]) _
      refine XS.goto X2.here hx rfl (pc0 := 236) (pc' := 240) rfl (hb hby at_236) (by decide) (by decide) ?_
      show SF p e below T2 (mkF m 240 #[iv p0s, rv o1, rv o2, iv 15] [(.int 1)]) _
      exact retN X2 hx (t := .boolean) hre (by simp) (hb hby at_240) hr
    · exact ⟨rfl, N2⟩
  · obtain ⟨cl1, Ar1, q1, S1, N1z, H1, G1⟩ := P1
    have hin1 : ¬ ((16 : Int32) < 0 ∨ cl1.slots.size ≤ ((16 : Int32)).toNatClampNeg) := inb_of S1 ⟨by decide, by decide⟩
    have hat1 : cl1.slots[((16 : Int32)).toNatClampNeg]? = some (.ref w17) := Has.at H1 hin1 rfl
    obtain ⟨cq2, kq2, q2a, q2b, q2c⟩ := isOf hZ e0 (E_w17.ext O0.2)
    obtain ⟨_, _, ⟨T2, L2, k2x, n2⟩, -, X2, ⟨Lc2, hQ2, l2, y2, z2⟩, st2⟩ := X0.virtualBack hx (y := (⟨"com/example/edictum/edictum/io/XpathTokens$Kind", "beginsStep", "()Z"⟩ : MethodName)) (z := (⟨"com/example/edictum/edictum/io/XpathTokens$Kind", "beginsStep", "()Z"⟩ : MethodName)) hown (mvT hZ (tw hw 42 rfl)) (mvT hZ (tw hw 43 rfl)) (notFace_of_selects (args := #[]) (mvT hZ (tw hw 45 rfl))) (mvT hZ (tw hw 45 rfl)) (mvT hZ (tw hw 44 rfl)) (by decide) (backOf (W := 0) (rm1_17 l Z a0 hw [] w17 w1 w11 w13 w14 w15 w16 h0 n0 Z0 Sg0 O0 F_w17_ordinal F_w1_ordinal Sg20 F_w11_ordinal Sg24 F_w13_ordinal Sg26 F_w14_ordinal Sg28 F_w15_ordinal Sg30 F_w16_ordinal) hZ (tw hw 46 rfl) (tw hw 3 rfl) (by decide) (by decide)) q2a q2c (g := (mkF m 226 #[iv p0s, rv o1, rv o2, iv 16] [(.ref w17)])) rfl (by rw [hml]; rfl) (Steps.refl _) (argsL := []) (rest := []) (lenOf pd_0 rfl) rfl (by show 2 * 0 + _ ≤ _; exact Nat.le_of_eq rfl) (hb hby at_226) (fun _ _ => ⟨rfl, e0, (by decide : 2 + 0 ≤ _), (by decide : 36 + 0 ≤ _)⟩)
    dsimp only [Pt.U, Pt.locs, Pt.cells, Pt.slots] at X2 l2 y2 z2 st2 hQ2
    subst l2 y2 z2
    obtain ⟨rfl, N2q, e2⟩ := hQ2
    have N2 := Fr.app N0 N2q
    obtain ⟨cl3, Ar3, q3, S3, N3z, H3, G3⟩ := P3
    have hin3 : ¬ ((16 : Int32) < 0 ∨ cl3.slots.size ≤ ((16 : Int32)).toNatClampNeg) := inb_of S3 ⟨by decide, by decide⟩
    have hat3 : cl3.slots[((16 : Int32)).toNatClampNeg]? = some (.int 0) := Has.at H3 hin3 rfl
    obtain ⟨fs, hr, hrun, hended, hW, hsame⟩ := X2.leave (v := some (.int (1 : Int32))) (fun h => by rw [hre] at h; cases h)
    refine ⟨_, _, pre0 _ (?_), hrun, hended, _, _, rfl, ?_, ⟨_, rfl⟩, hW, hsame.mono (by decide) (by decide)⟩
    · show SF p e below T0 (mkF m 222 #[iv p0s, rv o1, rv o2, .unset] [(.int ((p0s &&& (2147483647 : Int32)) % (18 : Int32)))]) _
      rw [hc1]
      show SF p e below T0 (mkF m 222 #[iv p0s, rv o1, rv o2, .unset] [(.int 16)]) _
      refine XS.istoreN X0.here hx rfl (hb hby at_222) rfl (l' := #[iv p0s, rv o1, rv o2, iv 16]) rfl ?_
      show SF p e below T0 (mkF m 223 #[iv p0s, rv o1, rv o2, iv 16] []) _
      refine XS.aloadN X0.here hx rfl (hb hby at_223) rfl rfl ?_
      show SF p e below T0 (mkF m 224 #[iv p0s, rv o1, rv o2, iv 16] [(.ref o1)]) _
      refine XS.iloadN X0.here hx rfl (hb hby at_224) rfl ?_
      show SF p e below T0 (mkF m 225 #[iv p0s, rv o1, rv o2, iv 16] [(.int 16), (.ref o1)]) _
      refine X0.aaload hx (j := (16 : Int32)) (v := (.ref w17)) (by rw [e0]; exact Ar1.1) (State.isArrayOf_alike hZ.alike Ar1.2.1) rfl Ar1.2.2 hin1 hat1 (g := (mkF m 225 #[iv p0s, rv o1, rv o2, iv 16] [(.int 16), (.ref o1)])) rfl rfl (hb hby at_225) _ ?_
      show SF p e below T0 (mkF m 226 #[iv p0s, rv o1, rv o2, iv 16] [(.ref w17)]) _
      refine st2.trans ?_
      show SF p e below T2 (mkF m 229 #[iv p0s, rv o1, rv o2, iv 16] [(.int 0)]) _
      refine XS.aloadN X2.here hx rfl (hb hby at_229) rfl rfl ?_
      show SF p e below T2 (mkF m 230 #[iv p0s, rv o1, rv o2, iv 16] [(.ref o2), (.int 0)]) _
      refine XS.iloadN X2.here hx rfl (hb hby at_230) rfl ?_
      show SF p e below T2 (mkF m 231 #[iv p0s, rv o1, rv o2, iv 16] [(.int 16), (.ref o2), (.int 0)]) _
      refine X2.baloadBooleans hx (j := (16 : Int32)) (v := (.int 0)) (by rw [e2]; exact Ar3.1) (State.isArrayOf_alike hZ.alike Ar3.2.1) Ar3.2.2 hin3 hat3 (g := (mkF m 231 #[iv p0s, rv o1, rv o2, iv 16] [(.int 16), (.ref o2), (.int 0)])) rfl rfl (hb hby at_231) _ ?_
      show SF p e below T2 (mkF m 232 #[iv p0s, rv o1, rv o2, iv 16] [(.int 0), (.int 0)]) _
      refine XS.icmpNo X2.here hx rfl (hb hby at_232) rfl (teq (by decide : (0 : Int32) = (0 : Int32))).2 ?_
      show SF p e below T2 (mkF m 235 #[iv p0s, rv o1, rv o2, iv 16] []) _
      refine XS.iconst X2.here hx rfl (hb hby at_235) ?_
      show SF p e below T2 (mkF m 236 #[iv p0s, rv o1, rv o2, iv 16] [(.int 1)]) _
      refine XS.goto X2.here hx rfl (pc0 := 236) (pc' := 240) rfl (hb hby at_236) (by decide) (by decide) ?_
      show SF p e below T2 (mkF m 240 #[iv p0s, rv o1, rv o2, iv 16] [(.int 1)]) _
      exact retN X2 hx (t := .boolean) hre (by simp) (hb hby at_240) hr
    · exact ⟨rfl, N2⟩
  · obtain ⟨cl1, Ar1, q1, S1, N1z, H1, G1⟩ := P1
    have hin1 : ¬ ((17 : Int32) < 0 ∨ cl1.slots.size ≤ ((17 : Int32)).toNatClampNeg) := inb_of S1 ⟨by decide, by decide⟩
    have hat1 : cl1.slots[((17 : Int32)).toNatClampNeg]? = some (.ref w18) := Has.at H1 hin1 rfl
    obtain ⟨cq2, kq2, q2a, q2b, q2c⟩ := isOf hZ e0 (E_w18.ext O0.2)
    obtain ⟨_, _, ⟨T2, L2, k2x, n2⟩, -, X2, ⟨Lc2, hQ2, l2, y2, z2⟩, st2⟩ := X0.virtualBack hx (y := (⟨"com/example/edictum/edictum/io/XpathTokens$Kind", "beginsStep", "()Z"⟩ : MethodName)) (z := (⟨"com/example/edictum/edictum/io/XpathTokens$Kind", "beginsStep", "()Z"⟩ : MethodName)) hown (mvT hZ (tw hw 42 rfl)) (mvT hZ (tw hw 43 rfl)) (notFace_of_selects (args := #[]) (mvT hZ (tw hw 45 rfl))) (mvT hZ (tw hw 45 rfl)) (mvT hZ (tw hw 44 rfl)) (by decide) (backOf (W := 0) (rm1_18 l Z a0 hw [] w18 w1 w11 w13 w14 w15 w16 h0 n0 Z0 Sg0 O0 F_w18_ordinal F_w1_ordinal Sg20 F_w11_ordinal Sg24 F_w13_ordinal Sg26 F_w14_ordinal Sg28 F_w15_ordinal Sg30 F_w16_ordinal) hZ (tw hw 46 rfl) (tw hw 3 rfl) (by decide) (by decide)) q2a q2c (g := (mkF m 226 #[iv p0s, rv o1, rv o2, iv 17] [(.ref w18)])) rfl (by rw [hml]; rfl) (Steps.refl _) (argsL := []) (rest := []) (lenOf pd_0 rfl) rfl (by show 2 * 0 + _ ≤ _; exact Nat.le_of_eq rfl) (hb hby at_226) (fun _ _ => ⟨rfl, e0, (by decide : 2 + 0 ≤ _), (by decide : 36 + 0 ≤ _)⟩)
    dsimp only [Pt.U, Pt.locs, Pt.cells, Pt.slots] at X2 l2 y2 z2 st2 hQ2
    subst l2 y2 z2
    obtain ⟨rfl, N2q, e2⟩ := hQ2
    have N2 := Fr.app N0 N2q
    obtain ⟨cl3, Ar3, q3, S3, N3z, H3, G3⟩ := P3
    have hin3 : ¬ ((17 : Int32) < 0 ∨ cl3.slots.size ≤ ((17 : Int32)).toNatClampNeg) := inb_of S3 ⟨by decide, by decide⟩
    have hat3 : cl3.slots[((17 : Int32)).toNatClampNeg]? = some (.int 0) := Has.at H3 hin3 rfl
    obtain ⟨fs, hr, hrun, hended, hW, hsame⟩ := X2.leave (v := some (.int (1 : Int32))) (fun h => by rw [hre] at h; cases h)
    refine ⟨_, _, pre0 _ (?_), hrun, hended, _, _, rfl, ?_, ⟨_, rfl⟩, hW, hsame.mono (by decide) (by decide)⟩
    · show SF p e below T0 (mkF m 222 #[iv p0s, rv o1, rv o2, .unset] [(.int ((p0s &&& (2147483647 : Int32)) % (18 : Int32)))]) _
      rw [hc1]
      show SF p e below T0 (mkF m 222 #[iv p0s, rv o1, rv o2, .unset] [(.int 17)]) _
      refine XS.istoreN X0.here hx rfl (hb hby at_222) rfl (l' := #[iv p0s, rv o1, rv o2, iv 17]) rfl ?_
      show SF p e below T0 (mkF m 223 #[iv p0s, rv o1, rv o2, iv 17] []) _
      refine XS.aloadN X0.here hx rfl (hb hby at_223) rfl rfl ?_
      show SF p e below T0 (mkF m 224 #[iv p0s, rv o1, rv o2, iv 17] [(.ref o1)]) _
      refine XS.iloadN X0.here hx rfl (hb hby at_224) rfl ?_
      show SF p e below T0 (mkF m 225 #[iv p0s, rv o1, rv o2, iv 17] [(.int 17), (.ref o1)]) _
      refine X0.aaload hx (j := (17 : Int32)) (v := (.ref w18)) (by rw [e0]; exact Ar1.1) (State.isArrayOf_alike hZ.alike Ar1.2.1) rfl Ar1.2.2 hin1 hat1 (g := (mkF m 225 #[iv p0s, rv o1, rv o2, iv 17] [(.int 17), (.ref o1)])) rfl rfl (hb hby at_225) _ ?_
      show SF p e below T0 (mkF m 226 #[iv p0s, rv o1, rv o2, iv 17] [(.ref w18)]) _
      refine st2.trans ?_
      show SF p e below T2 (mkF m 229 #[iv p0s, rv o1, rv o2, iv 17] [(.int 0)]) _
      refine XS.aloadN X2.here hx rfl (hb hby at_229) rfl rfl ?_
      show SF p e below T2 (mkF m 230 #[iv p0s, rv o1, rv o2, iv 17] [(.ref o2), (.int 0)]) _
      refine XS.iloadN X2.here hx rfl (hb hby at_230) rfl ?_
      show SF p e below T2 (mkF m 231 #[iv p0s, rv o1, rv o2, iv 17] [(.int 17), (.ref o2), (.int 0)]) _
      refine X2.baloadBooleans hx (j := (17 : Int32)) (v := (.int 0)) (by rw [e2]; exact Ar3.1) (State.isArrayOf_alike hZ.alike Ar3.2.1) Ar3.2.2 hin3 hat3 (g := (mkF m 231 #[iv p0s, rv o1, rv o2, iv 17] [(.int 17), (.ref o2), (.int 0)])) rfl rfl (hb hby at_231) _ ?_
      show SF p e below T2 (mkF m 232 #[iv p0s, rv o1, rv o2, iv 17] [(.int 0), (.int 0)]) _
      refine XS.icmpNo X2.here hx rfl (hb hby at_232) rfl (teq (by decide : (0 : Int32) = (0 : Int32))).2 ?_
      show SF p e below T2 (mkF m 235 #[iv p0s, rv o1, rv o2, iv 17] []) _
      refine XS.iconst X2.here hx rfl (hb hby at_235) ?_
      show SF p e below T2 (mkF m 236 #[iv p0s, rv o1, rv o2, iv 17] [(.int 1)]) _
      refine XS.goto X2.here hx rfl (pc0 := 236) (pc' := 240) rfl (hb hby at_236) (by decide) (by decide) ?_
      show SF p e below T2 (mkF m 240 #[iv p0s, rv o1, rv o2, iv 17] [(.int 1)]) _
      exact retN X2 hx (t := .boolean) hre (by simp) (hb hby at_240) hr
    · exact ⟨rfl, N2⟩
set_option maxRecDepth 65536 in
set_option maxHeartbeats 400000000 in
theorem pc_8 {p : Program} {l : Launch} {e : Env} {s : State} {m : MethodId} {below : List Frame} {meth : Method} {c : Code} {T0 : State} {locs : List Loc} {Z : State} {a0 : Array Value} {h0 : Heap} {n0 : Nat} {p0s : Int32} {w1 : Addr} {w2 : Addr} {w3 : Addr} {w4 : Addr} {w5 : Addr} {w6 : Addr} {w7 : Addr} {w8 : Addr} {w9 : Addr} {w10 : Addr} {w11 : Addr} {w12 : Addr} {w13 : Addr} {w14 : Addr} {w15 : Addr} {w16 : Addr} {w17 : Addr} {w18 : Addr} {o1 : Addr} {o2 : Addr} {kk1 : ClassId} {kk2 : ClassId} (X0 : Stand p l e room_1 s m #[(.int p0s)] below meth c T0 locs 2 36) (hx : p.tables.exec = Jvm.exec) (hZ : Z.Warmed39 s.vm) (hw : HW Z a0) (hby : c.code = code) (hml : c.maxLocals = 4) (hown : s.vm.findClass "com/example/edictum/edictum/io/KindBeginsStepPinLaw" = some m.cls) (hre : meth.sig.returnType = some .boolean) (hlk : meth.locks = false) (e0 : T0.heap = h0) (N0 : Fr n0 locs) (Z0 : n0 ≤ h0.size) (O0 : Old Z n0 h0) (Sg0 : Sta Z Z.heap "com/example/edictum/edictum/io/XpathTokens$Kind" "AT" "Lcom/example/edictum/edictum/io/XpathTokens$Kind;" (.ref w1)) (E_w1 : Exa Z Z.heap w1 "com/example/edictum/edictum/io/XpathTokens$Kind") (Sg2 : Sta Z Z.heap "com/example/edictum/edictum/io/XpathTokens$Kind" "AXIS_SEPARATOR" "Lcom/example/edictum/edictum/io/XpathTokens$Kind;" (.ref w2)) (E_w2 : Exa Z Z.heap w2 "com/example/edictum/edictum/io/XpathTokens$Kind") (Sg4 : Sta Z Z.heap "com/example/edictum/edictum/io/XpathTokens$Kind" "LEFT_PAREN" "Lcom/example/edictum/edictum/io/XpathTokens$Kind;" (.ref w3)) (E_w3 : Exa Z Z.heap w3 "com/example/edictum/edictum/io/XpathTokens$Kind") (Sg6 : Sta Z Z.heap "com/example/edictum/edictum/io/XpathTokens$Kind" "LEFT_BRACKET" "Lcom/example/edictum/edictum/io/XpathTokens$Kind;" (.ref w4)) (E_w4 : Exa Z Z.heap w4 "com/example/edictum/edictum/io/XpathTokens$Kind") (Sg8 : Sta Z Z.heap "com/example/edictum/edictum/io/XpathTokens$Kind" "COMMA" "Lcom/example/edictum/edictum/io/XpathTokens$Kind;" (.ref w5)) (E_w5 : Exa Z Z.heap w5 "com/example/edictum/edictum/io/XpathTokens$Kind") (Sg10 : Sta Z Z.heap "com/example/edictum/edictum/io/XpathTokens$Kind" "RIGHT_PAREN" "Lcom/example/edictum/edictum/io/XpathTokens$Kind;" (.ref w6)) (E_w6 : Exa Z Z.heap w6 "com/example/edictum/edictum/io/XpathTokens$Kind") (Sg12 : Sta Z Z.heap "com/example/edictum/edictum/io/XpathTokens$Kind" "RIGHT_BRACKET" "Lcom/example/edictum/edictum/io/XpathTokens$Kind;" (.ref w7)) (E_w7 : Exa Z Z.heap w7 "com/example/edictum/edictum/io/XpathTokens$Kind") (Sg14 : Sta Z Z.heap "com/example/edictum/edictum/io/XpathTokens$Kind" "SLASH" "Lcom/example/edictum/edictum/io/XpathTokens$Kind;" (.ref w8)) (E_w8 : Exa Z Z.heap w8 "com/example/edictum/edictum/io/XpathTokens$Kind") (Sg16 : Sta Z Z.heap "com/example/edictum/edictum/io/XpathTokens$Kind" "DOUBLE_SLASH" "Lcom/example/edictum/edictum/io/XpathTokens$Kind;" (.ref w9)) (E_w9 : Exa Z Z.heap w9 "com/example/edictum/edictum/io/XpathTokens$Kind") (Sg18 : Sta Z Z.heap "com/example/edictum/edictum/io/XpathTokens$Kind" "OPERATOR" "Lcom/example/edictum/edictum/io/XpathTokens$Kind;" (.ref w10)) (E_w10 : Exa Z Z.heap w10 "com/example/edictum/edictum/io/XpathTokens$Kind") (Sg20 : Sta Z Z.heap "com/example/edictum/edictum/io/XpathTokens$Kind" "AXIS" "Lcom/example/edictum/edictum/io/XpathTokens$Kind;" (.ref w11)) (E_w11 : Exa Z Z.heap w11 "com/example/edictum/edictum/io/XpathTokens$Kind") (Sg22 : Sta Z Z.heap "com/example/edictum/edictum/io/XpathTokens$Kind" "FUNCTION" "Lcom/example/edictum/edictum/io/XpathTokens$Kind;" (.ref w12)) (E_w12 : Exa Z Z.heap w12 "com/example/edictum/edictum/io/XpathTokens$Kind") (Sg24 : Sta Z Z.heap "com/example/edictum/edictum/io/XpathTokens$Kind" "NODE_TYPE" "Lcom/example/edictum/edictum/io/XpathTokens$Kind;" (.ref w13)) (E_w13 : Exa Z Z.heap w13 "com/example/edictum/edictum/io/XpathTokens$Kind") (Sg26 : Sta Z Z.heap "com/example/edictum/edictum/io/XpathTokens$Kind" "NAME_TEST" "Lcom/example/edictum/edictum/io/XpathTokens$Kind;" (.ref w14)) (E_w14 : Exa Z Z.heap w14 "com/example/edictum/edictum/io/XpathTokens$Kind") (Sg28 : Sta Z Z.heap "com/example/edictum/edictum/io/XpathTokens$Kind" "DOT" "Lcom/example/edictum/edictum/io/XpathTokens$Kind;" (.ref w15)) (E_w15 : Exa Z Z.heap w15 "com/example/edictum/edictum/io/XpathTokens$Kind") (Sg30 : Sta Z Z.heap "com/example/edictum/edictum/io/XpathTokens$Kind" "DOT_DOT" "Lcom/example/edictum/edictum/io/XpathTokens$Kind;" (.ref w16)) (E_w16 : Exa Z Z.heap w16 "com/example/edictum/edictum/io/XpathTokens$Kind") (Sg32 : Sta Z Z.heap "com/example/edictum/edictum/io/XpathTokens$Kind" "LITERAL" "Lcom/example/edictum/edictum/io/XpathTokens$Kind;" (.ref w17)) (E_w17 : Exa Z Z.heap w17 "com/example/edictum/edictum/io/XpathTokens$Kind") (Sg34 : Sta Z Z.heap "com/example/edictum/edictum/io/XpathTokens$Kind" "NUMBER" "Lcom/example/edictum/edictum/io/XpathTokens$Kind;" (.ref w18)) (E_w18 : Exa Z Z.heap w18 "com/example/edictum/edictum/io/XpathTokens$Kind") (F_w4_ordinal : Fld Z Z.heap w4 "java/lang/Enum" "ordinal" "I" (.int 3)) (F_w1_ordinal : Fld Z Z.heap w1 "java/lang/Enum" "ordinal" "I" (.int 0)) (F_w11_ordinal : Fld Z Z.heap w11 "java/lang/Enum" "ordinal" "I" (.int 10)) (F_w13_ordinal : Fld Z Z.heap w13 "java/lang/Enum" "ordinal" "I" (.int 12)) (F_w14_ordinal : Fld Z Z.heap w14 "java/lang/Enum" "ordinal" "I" (.int 13)) (F_w15_ordinal : Fld Z Z.heap w15 "java/lang/Enum" "ordinal" "I" (.int 14)) (F_w16_ordinal : Fld Z Z.heap w16 "java/lang/Enum" "ordinal" "I" (.int 15)) (F_w3_ordinal : Fld Z Z.heap w3 "java/lang/Enum" "ordinal" "I" (.int 2)) (F_w2_ordinal : Fld Z Z.heap w2 "java/lang/Enum" "ordinal" "I" (.int 1)) (F_w8_ordinal : Fld Z Z.heap w8 "java/lang/Enum" "ordinal" "I" (.int 7)) (F_w12_ordinal : Fld Z Z.heap w12 "java/lang/Enum" "ordinal" "I" (.int 11)) (F_w5_ordinal : Fld Z Z.heap w5 "java/lang/Enum" "ordinal" "I" (.int 4)) (F_w9_ordinal : Fld Z Z.heap w9 "java/lang/Enum" "ordinal" "I" (.int 8)) (F_w17_ordinal : Fld Z Z.heap w17 "java/lang/Enum" "ordinal" "I" (.int 16)) (F_w7_ordinal : Fld Z Z.heap w7 "java/lang/Enum" "ordinal" "I" (.int 6)) (F_w18_ordinal : Fld Z Z.heap w18 "java/lang/Enum" "ordinal" "I" (.int 17)) (F_w6_ordinal : Fld Z Z.heap w6 "java/lang/Enum" "ordinal" "I" (.int 5)) (F_w10_ordinal : Fld Z Z.heap w10 "java/lang/Enum" "ordinal" "I" (.int 9)) (P1 : Arv Z h0 o1 kk1 (.object "com/example/edictum/edictum/io/XpathTokens$Kind") (18 : Int32) [(.ref w1), (.ref w2), (.ref w3), (.ref w4), (.ref w5), (.ref w6), (.ref w7), (.ref w8), (.ref w9), (.ref w10), (.ref w11), (.ref w12), (.ref w13), (.ref w14), (.ref w15), (.ref w16), (.ref w17), (.ref w18)] .null) (P2 : Ovr Z kk1 "com/example/edictum/edictum/io/XpathTokens$Kind") (P3 : Arv Z h0 o2 kk2 .boolean (18 : Int32) [(.int 1), (.int 0), (.int 0), (.int 0), (.int 0), (.int 0), (.int 0), (.int 0), (.int 0), (.int 0), (.int 1), (.int 0), (.int 1), (.int 1), (.int 0), (.int 0), (.int 0), (.int 0)] (.int (0 : Int32))) (P4 : n0 ≤ o1) (P5 : o1 < h0.size) (P6 : n0 ≤ o2) (P7 : o2 < h0.size) (P8 : o1 ≠ o2) :
    Fin p e below s n0 (T0.setTop (mkF m 194 #[iv p0s, rv o1, .unset, .unset] [(.ref o2)])) := by
  obtain ⟨cl1, Ar1, q1, S1, N1z, H1, G1⟩ := P3
  have hin1 : ¬ ((14 : Int32) < 0 ∨ cl1.slots.size ≤ ((14 : Int32)).toNatClampNeg) := inb_of S1 ⟨by decide, by decide⟩
  obtain ⟨T2, h2, X2, e2, W2, st2⟩ := stZ X0 hx hZ e0 Ar1 (j := (14 : Int32)) hin1 (g := (mkF m 198 #[iv p0s, rv o1, .unset, .unset] [(.int 1), (.int 14), (.ref o2), (.ref o2)])) rfl rfl (hb hby at_198)
  have N2 := Fr.snoc X2 N0 P6
  have V2 : Arv Z h2 o2 kk2 .boolean (18 : Int32) [(.int 1), (.int 0), (.int 0), (.int 0), (.int 0), (.int 0), (.int 0), (.int 0), (.int 0), (.int 0), (.int 1), (.int 0), (.int 1), (.int 1), (.int 1), (.int 0), (.int 0), (.int 0)] (.int (0 : Int32)) := Arv.set Ar1 q1 S1 N1z H1 G1 (by decide) W2 14 rfl (Nat.le_of_ble_eq_true rfl)
  obtain ⟨cl3, Ar3, q3, S3, N3z, H3, G3⟩ := V2
  have hin3 : ¬ ((15 : Int32) < 0 ∨ cl3.slots.size ≤ ((15 : Int32)).toNatClampNeg) := inb_of S3 ⟨by decide, by decide⟩
  obtain ⟨T4, h4, X4, e4, W4, st4⟩ := stZ X2 hx hZ e2 Ar3 (j := (15 : Int32)) hin3 (g := (mkF m 203 #[iv p0s, rv o1, .unset, .unset] [(.int 1), (.int 15), (.ref o2), (.ref o2)])) rfl rfl (hb hby at_203)
  have N4 := Fr.snoc X4 N2 P6
  have V4 : Arv Z h4 o2 kk2 .boolean (18 : Int32) [(.int 1), (.int 0), (.int 0), (.int 0), (.int 0), (.int 0), (.int 0), (.int 0), (.int 0), (.int 0), (.int 1), (.int 0), (.int 1), (.int 1), (.int 1), (.int 1), (.int 0), (.int 0)] (.int (0 : Int32)) := Arv.set Ar3 q3 S3 N3z H3 G3 (by decide) W4 15 rfl (Nat.le_of_ble_eq_true rfl)
  obtain ⟨cl5, Ar5, q5, S5, N5z, H5, G5⟩ := V4
  have hin5 : ¬ ((16 : Int32) < 0 ∨ cl5.slots.size ≤ ((16 : Int32)).toNatClampNeg) := inb_of S5 ⟨by decide, by decide⟩
  obtain ⟨T6, h6, X6, e6, W6, st6⟩ := stZ X4 hx hZ e4 Ar5 (j := (16 : Int32)) hin5 (g := (mkF m 208 #[iv p0s, rv o1, .unset, .unset] [(.int 0), (.int 16), (.ref o2), (.ref o2)])) rfl rfl (hb hby at_208)
  have N6 := Fr.snoc X6 N4 P6
  have V6 : Arv Z h6 o2 kk2 .boolean (18 : Int32) [(.int 1), (.int 0), (.int 0), (.int 0), (.int 0), (.int 0), (.int 0), (.int 0), (.int 0), (.int 0), (.int 1), (.int 0), (.int 1), (.int 1), (.int 1), (.int 1), (.int 0), (.int 0)] (.int (0 : Int32)) := Arv.set Ar5 q5 S5 N5z H5 G5 (by decide) W6 16 rfl (Nat.le_of_ble_eq_true rfl)
  obtain ⟨cl7, Ar7, q7, S7, N7z, H7, G7⟩ := V6
  have hin7 : ¬ ((17 : Int32) < 0 ∨ cl7.slots.size ≤ ((17 : Int32)).toNatClampNeg) := inb_of S7 ⟨by decide, by decide⟩
  obtain ⟨T8, h8, X8, e8, W8, st8⟩ := stZ X6 hx hZ e6 Ar7 (j := (17 : Int32)) hin7 (g := (mkF m 213 #[iv p0s, rv o1, .unset, .unset] [(.int 0), (.int 17), (.ref o2), (.ref o2)])) rfl rfl (hb hby at_213)
  have N8 := Fr.snoc X8 N6 P6
  have V8 : Arv Z h8 o2 kk2 .boolean (18 : Int32) [(.int 1), (.int 0), (.int 0), (.int 0), (.int 0), (.int 0), (.int 0), (.int 0), (.int 0), (.int 0), (.int 1), (.int 0), (.int 1), (.int 1), (.int 1), (.int 1), (.int 0), (.int 0)] (.int (0 : Int32)) := Arv.set Ar7 q7 S7 N7z H7 G7 (by decide) W8 17 rfl (Nat.le_of_ble_eq_true rfl)
  have F1_9 : Arv Z h2 o1 kk1 (.object "com/example/edictum/edictum/io/XpathTokens$Kind") (18 : Int32) [(.ref w1), (.ref w2), (.ref w3), (.ref w4), (.ref w5), (.ref w6), (.ref w7), (.ref w8), (.ref w9), (.ref w10), (.ref w11), (.ref w12), (.ref w13), (.ref w14), (.ref w15), (.ref w16), (.ref w17), (.ref w18)] .null := P1.other W2 P8
  have F2_10 : Arv Z h4 o1 kk1 (.object "com/example/edictum/edictum/io/XpathTokens$Kind") (18 : Int32) [(.ref w1), (.ref w2), (.ref w3), (.ref w4), (.ref w5), (.ref w6), (.ref w7), (.ref w8), (.ref w9), (.ref w10), (.ref w11), (.ref w12), (.ref w13), (.ref w14), (.ref w15), (.ref w16), (.ref w17), (.ref w18)] .null := F1_9.other W4 P8
  have F3_11 : Arv Z h6 o1 kk1 (.object "com/example/edictum/edictum/io/XpathTokens$Kind") (18 : Int32) [(.ref w1), (.ref w2), (.ref w3), (.ref w4), (.ref w5), (.ref w6), (.ref w7), (.ref w8), (.ref w9), (.ref w10), (.ref w11), (.ref w12), (.ref w13), (.ref w14), (.ref w15), (.ref w16), (.ref w17), (.ref w18)] .null := F2_10.other W6 P8
  have F4_12 : Arv Z h8 o1 kk1 (.object "com/example/edictum/edictum/io/XpathTokens$Kind") (18 : Int32) [(.ref w1), (.ref w2), (.ref w3), (.ref w4), (.ref w5), (.ref w6), (.ref w7), (.ref w8), (.ref w9), (.ref w10), (.ref w11), (.ref w12), (.ref w13), (.ref w14), (.ref w15), (.ref w16), (.ref w17), (.ref w18)] .null := F3_11.other W8 P8
  have lt_o1_1 : o1 < h2.size := Nat.lt_of_lt_of_le P5 (Keep.of_wr W2).1
  have lt_o1_2 : o1 < h4.size := Nat.lt_of_lt_of_le lt_o1_1 (Keep.of_wr W4).1
  have lt_o1_3 : o1 < h6.size := Nat.lt_of_lt_of_le lt_o1_2 (Keep.of_wr W6).1
  have lt_o1_4 : o1 < h8.size := Nat.lt_of_lt_of_le lt_o1_3 (Keep.of_wr W8).1
  have lt_o2_1 : o2 < h2.size := Nat.lt_of_lt_of_le P7 (Keep.of_wr W2).1
  have lt_o2_2 : o2 < h4.size := Nat.lt_of_lt_of_le lt_o2_1 (Keep.of_wr W4).1
  have lt_o2_3 : o2 < h6.size := Nat.lt_of_lt_of_le lt_o2_2 (Keep.of_wr W6).1
  have lt_o2_4 : o2 < h8.size := Nat.lt_of_lt_of_le lt_o2_3 (Keep.of_wr W8).1
  have Z2 : n0 ≤ h2.size := Nat.le_trans Z0 (Keep.of_wr W2).1
  have Z4 : n0 ≤ h4.size := Nat.le_trans Z2 (Keep.of_wr W4).1
  have Z6 : n0 ≤ h6.size := Nat.le_trans Z4 (Keep.of_wr W6).1
  have Z8 : n0 ≤ h8.size := Nat.le_trans Z6 (Keep.of_wr W8).1
  have O2 : Old Z n0 h2 := O0.wr W2 P6
  have O4 : Old Z n0 h4 := O2.wr W4 P6
  have O6 : Old Z n0 h6 := O4.wr W6 P6
  have O8 : Old Z n0 h8 := O6.wr W8 P6
  refine Fin.pre (fun t k => ?_) (pc_9 (o1 := o1) (o2 := o2) (kk1 := kk1) (kk2 := kk2) X8 hx hZ hw hby hml hown hre hlk e8 N8 Z8 O8 Sg0 E_w1 Sg2 E_w2 Sg4 E_w3 Sg6 E_w4 Sg8 E_w5 Sg10 E_w6 Sg12 E_w7 Sg14 E_w8 Sg16 E_w9 Sg18 E_w10 Sg20 E_w11 Sg22 E_w12 Sg24 E_w13 Sg26 E_w14 Sg28 E_w15 Sg30 E_w16 Sg32 E_w17 Sg34 E_w18 F_w4_ordinal F_w1_ordinal F_w11_ordinal F_w13_ordinal F_w14_ordinal F_w15_ordinal F_w16_ordinal F_w3_ordinal F_w2_ordinal F_w8_ordinal F_w12_ordinal F_w5_ordinal F_w9_ordinal F_w17_ordinal F_w7_ordinal F_w18_ordinal F_w6_ordinal F_w10_ordinal F4_12 P2 V8 P4 lt_o1_4 P6 lt_o2_4 P8)
  show SF p e below T0 (mkF m 194 #[iv p0s, rv o1, .unset, .unset] [(.ref o2)]) _
  refine XS.dup X0.here hx rfl (hb hby at_194) rfl rfl ?_
  show SF p e below T0 (mkF m 195 #[iv p0s, rv o1, .unset, .unset] [(.ref o2), (.ref o2)]) _
  refine XS.bipush X0.here hx rfl (hb hby at_195) ?_
  show SF p e below T0 (mkF m 197 #[iv p0s, rv o1, .unset, .unset] [(.int 14), (.ref o2), (.ref o2)]) _
  refine XS.iconst X0.here hx rfl (hb hby at_197) ?_
  show SF p e below T0 (mkF m 198 #[iv p0s, rv o1, .unset, .unset] [(.int 1), (.int 14), (.ref o2), (.ref o2)]) _
  refine st2 _ ?_
  show SF p e below T2 (mkF m 199 #[iv p0s, rv o1, .unset, .unset] [(.ref o2)]) _
  refine XS.dup X2.here hx rfl (hb hby at_199) rfl rfl ?_
  show SF p e below T2 (mkF m 200 #[iv p0s, rv o1, .unset, .unset] [(.ref o2), (.ref o2)]) _
  refine XS.bipush X2.here hx rfl (hb hby at_200) ?_
  show SF p e below T2 (mkF m 202 #[iv p0s, rv o1, .unset, .unset] [(.int 15), (.ref o2), (.ref o2)]) _
  refine XS.iconst X2.here hx rfl (hb hby at_202) ?_
  show SF p e below T2 (mkF m 203 #[iv p0s, rv o1, .unset, .unset] [(.int 1), (.int 15), (.ref o2), (.ref o2)]) _
  refine st4 _ ?_
  show SF p e below T4 (mkF m 204 #[iv p0s, rv o1, .unset, .unset] [(.ref o2)]) _
  refine XS.dup X4.here hx rfl (hb hby at_204) rfl rfl ?_
  show SF p e below T4 (mkF m 205 #[iv p0s, rv o1, .unset, .unset] [(.ref o2), (.ref o2)]) _
  refine XS.bipush X4.here hx rfl (hb hby at_205) ?_
  show SF p e below T4 (mkF m 207 #[iv p0s, rv o1, .unset, .unset] [(.int 16), (.ref o2), (.ref o2)]) _
  refine XS.iconst X4.here hx rfl (hb hby at_207) ?_
  show SF p e below T4 (mkF m 208 #[iv p0s, rv o1, .unset, .unset] [(.int 0), (.int 16), (.ref o2), (.ref o2)]) _
  refine st6 _ ?_
  show SF p e below T6 (mkF m 209 #[iv p0s, rv o1, .unset, .unset] [(.ref o2)]) _
  refine XS.dup X6.here hx rfl (hb hby at_209) rfl rfl ?_
  show SF p e below T6 (mkF m 210 #[iv p0s, rv o1, .unset, .unset] [(.ref o2), (.ref o2)]) _
  refine XS.bipush X6.here hx rfl (hb hby at_210) ?_
  show SF p e below T6 (mkF m 212 #[iv p0s, rv o1, .unset, .unset] [(.int 17), (.ref o2), (.ref o2)]) _
  refine XS.iconst X6.here hx rfl (hb hby at_212) ?_
  show SF p e below T6 (mkF m 213 #[iv p0s, rv o1, .unset, .unset] [(.int 0), (.int 17), (.ref o2), (.ref o2)]) _
  refine st8 _ ?_
  show SF p e below T8 (mkF m 214 #[iv p0s, rv o1, .unset, .unset] [(.ref o2)]) _
  refine XS.astoreN X8.here hx rfl (hb hby at_214) rfl rfl (l' := #[iv p0s, rv o1, rv o2, .unset]) rfl ?_
  exact k
set_option maxRecDepth 65536 in
set_option maxHeartbeats 400000000 in
theorem pc_7 {p : Program} {l : Launch} {e : Env} {s : State} {m : MethodId} {below : List Frame} {meth : Method} {c : Code} {T0 : State} {locs : List Loc} {Z : State} {a0 : Array Value} {h0 : Heap} {n0 : Nat} {p0s : Int32} {w1 : Addr} {w2 : Addr} {w3 : Addr} {w4 : Addr} {w5 : Addr} {w6 : Addr} {w7 : Addr} {w8 : Addr} {w9 : Addr} {w10 : Addr} {w11 : Addr} {w12 : Addr} {w13 : Addr} {w14 : Addr} {w15 : Addr} {w16 : Addr} {w17 : Addr} {w18 : Addr} {o1 : Addr} {o2 : Addr} {kk1 : ClassId} {kk2 : ClassId} (X0 : Stand p l e room_1 s m #[(.int p0s)] below meth c T0 locs 2 36) (hx : p.tables.exec = Jvm.exec) (hZ : Z.Warmed39 s.vm) (hw : HW Z a0) (hby : c.code = code) (hml : c.maxLocals = 4) (hown : s.vm.findClass "com/example/edictum/edictum/io/KindBeginsStepPinLaw" = some m.cls) (hre : meth.sig.returnType = some .boolean) (hlk : meth.locks = false) (e0 : T0.heap = h0) (N0 : Fr n0 locs) (Z0 : n0 ≤ h0.size) (O0 : Old Z n0 h0) (Sg0 : Sta Z Z.heap "com/example/edictum/edictum/io/XpathTokens$Kind" "AT" "Lcom/example/edictum/edictum/io/XpathTokens$Kind;" (.ref w1)) (E_w1 : Exa Z Z.heap w1 "com/example/edictum/edictum/io/XpathTokens$Kind") (Sg2 : Sta Z Z.heap "com/example/edictum/edictum/io/XpathTokens$Kind" "AXIS_SEPARATOR" "Lcom/example/edictum/edictum/io/XpathTokens$Kind;" (.ref w2)) (E_w2 : Exa Z Z.heap w2 "com/example/edictum/edictum/io/XpathTokens$Kind") (Sg4 : Sta Z Z.heap "com/example/edictum/edictum/io/XpathTokens$Kind" "LEFT_PAREN" "Lcom/example/edictum/edictum/io/XpathTokens$Kind;" (.ref w3)) (E_w3 : Exa Z Z.heap w3 "com/example/edictum/edictum/io/XpathTokens$Kind") (Sg6 : Sta Z Z.heap "com/example/edictum/edictum/io/XpathTokens$Kind" "LEFT_BRACKET" "Lcom/example/edictum/edictum/io/XpathTokens$Kind;" (.ref w4)) (E_w4 : Exa Z Z.heap w4 "com/example/edictum/edictum/io/XpathTokens$Kind") (Sg8 : Sta Z Z.heap "com/example/edictum/edictum/io/XpathTokens$Kind" "COMMA" "Lcom/example/edictum/edictum/io/XpathTokens$Kind;" (.ref w5)) (E_w5 : Exa Z Z.heap w5 "com/example/edictum/edictum/io/XpathTokens$Kind") (Sg10 : Sta Z Z.heap "com/example/edictum/edictum/io/XpathTokens$Kind" "RIGHT_PAREN" "Lcom/example/edictum/edictum/io/XpathTokens$Kind;" (.ref w6)) (E_w6 : Exa Z Z.heap w6 "com/example/edictum/edictum/io/XpathTokens$Kind") (Sg12 : Sta Z Z.heap "com/example/edictum/edictum/io/XpathTokens$Kind" "RIGHT_BRACKET" "Lcom/example/edictum/edictum/io/XpathTokens$Kind;" (.ref w7)) (E_w7 : Exa Z Z.heap w7 "com/example/edictum/edictum/io/XpathTokens$Kind") (Sg14 : Sta Z Z.heap "com/example/edictum/edictum/io/XpathTokens$Kind" "SLASH" "Lcom/example/edictum/edictum/io/XpathTokens$Kind;" (.ref w8)) (E_w8 : Exa Z Z.heap w8 "com/example/edictum/edictum/io/XpathTokens$Kind") (Sg16 : Sta Z Z.heap "com/example/edictum/edictum/io/XpathTokens$Kind" "DOUBLE_SLASH" "Lcom/example/edictum/edictum/io/XpathTokens$Kind;" (.ref w9)) (E_w9 : Exa Z Z.heap w9 "com/example/edictum/edictum/io/XpathTokens$Kind") (Sg18 : Sta Z Z.heap "com/example/edictum/edictum/io/XpathTokens$Kind" "OPERATOR" "Lcom/example/edictum/edictum/io/XpathTokens$Kind;" (.ref w10)) (E_w10 : Exa Z Z.heap w10 "com/example/edictum/edictum/io/XpathTokens$Kind") (Sg20 : Sta Z Z.heap "com/example/edictum/edictum/io/XpathTokens$Kind" "AXIS" "Lcom/example/edictum/edictum/io/XpathTokens$Kind;" (.ref w11)) (E_w11 : Exa Z Z.heap w11 "com/example/edictum/edictum/io/XpathTokens$Kind") (Sg22 : Sta Z Z.heap "com/example/edictum/edictum/io/XpathTokens$Kind" "FUNCTION" "Lcom/example/edictum/edictum/io/XpathTokens$Kind;" (.ref w12)) (E_w12 : Exa Z Z.heap w12 "com/example/edictum/edictum/io/XpathTokens$Kind") (Sg24 : Sta Z Z.heap "com/example/edictum/edictum/io/XpathTokens$Kind" "NODE_TYPE" "Lcom/example/edictum/edictum/io/XpathTokens$Kind;" (.ref w13)) (E_w13 : Exa Z Z.heap w13 "com/example/edictum/edictum/io/XpathTokens$Kind") (Sg26 : Sta Z Z.heap "com/example/edictum/edictum/io/XpathTokens$Kind" "NAME_TEST" "Lcom/example/edictum/edictum/io/XpathTokens$Kind;" (.ref w14)) (E_w14 : Exa Z Z.heap w14 "com/example/edictum/edictum/io/XpathTokens$Kind") (Sg28 : Sta Z Z.heap "com/example/edictum/edictum/io/XpathTokens$Kind" "DOT" "Lcom/example/edictum/edictum/io/XpathTokens$Kind;" (.ref w15)) (E_w15 : Exa Z Z.heap w15 "com/example/edictum/edictum/io/XpathTokens$Kind") (Sg30 : Sta Z Z.heap "com/example/edictum/edictum/io/XpathTokens$Kind" "DOT_DOT" "Lcom/example/edictum/edictum/io/XpathTokens$Kind;" (.ref w16)) (E_w16 : Exa Z Z.heap w16 "com/example/edictum/edictum/io/XpathTokens$Kind") (Sg32 : Sta Z Z.heap "com/example/edictum/edictum/io/XpathTokens$Kind" "LITERAL" "Lcom/example/edictum/edictum/io/XpathTokens$Kind;" (.ref w17)) (E_w17 : Exa Z Z.heap w17 "com/example/edictum/edictum/io/XpathTokens$Kind") (Sg34 : Sta Z Z.heap "com/example/edictum/edictum/io/XpathTokens$Kind" "NUMBER" "Lcom/example/edictum/edictum/io/XpathTokens$Kind;" (.ref w18)) (E_w18 : Exa Z Z.heap w18 "com/example/edictum/edictum/io/XpathTokens$Kind") (F_w4_ordinal : Fld Z Z.heap w4 "java/lang/Enum" "ordinal" "I" (.int 3)) (F_w1_ordinal : Fld Z Z.heap w1 "java/lang/Enum" "ordinal" "I" (.int 0)) (F_w11_ordinal : Fld Z Z.heap w11 "java/lang/Enum" "ordinal" "I" (.int 10)) (F_w13_ordinal : Fld Z Z.heap w13 "java/lang/Enum" "ordinal" "I" (.int 12)) (F_w14_ordinal : Fld Z Z.heap w14 "java/lang/Enum" "ordinal" "I" (.int 13)) (F_w15_ordinal : Fld Z Z.heap w15 "java/lang/Enum" "ordinal" "I" (.int 14)) (F_w16_ordinal : Fld Z Z.heap w16 "java/lang/Enum" "ordinal" "I" (.int 15)) (F_w3_ordinal : Fld Z Z.heap w3 "java/lang/Enum" "ordinal" "I" (.int 2)) (F_w2_ordinal : Fld Z Z.heap w2 "java/lang/Enum" "ordinal" "I" (.int 1)) (F_w8_ordinal : Fld Z Z.heap w8 "java/lang/Enum" "ordinal" "I" (.int 7)) (F_w12_ordinal : Fld Z Z.heap w12 "java/lang/Enum" "ordinal" "I" (.int 11)) (F_w5_ordinal : Fld Z Z.heap w5 "java/lang/Enum" "ordinal" "I" (.int 4)) (F_w9_ordinal : Fld Z Z.heap w9 "java/lang/Enum" "ordinal" "I" (.int 8)) (F_w17_ordinal : Fld Z Z.heap w17 "java/lang/Enum" "ordinal" "I" (.int 16)) (F_w7_ordinal : Fld Z Z.heap w7 "java/lang/Enum" "ordinal" "I" (.int 6)) (F_w18_ordinal : Fld Z Z.heap w18 "java/lang/Enum" "ordinal" "I" (.int 17)) (F_w6_ordinal : Fld Z Z.heap w6 "java/lang/Enum" "ordinal" "I" (.int 5)) (F_w10_ordinal : Fld Z Z.heap w10 "java/lang/Enum" "ordinal" "I" (.int 9)) (P1 : Arv Z h0 o1 kk1 (.object "com/example/edictum/edictum/io/XpathTokens$Kind") (18 : Int32) [(.ref w1), (.ref w2), (.ref w3), (.ref w4), (.ref w5), (.ref w6), (.ref w7), (.ref w8), (.ref w9), (.ref w10), (.ref w11), (.ref w12), (.ref w13), (.ref w14), (.ref w15), (.ref w16), (.ref w17), (.ref w18)] .null) (P2 : Ovr Z kk1 "com/example/edictum/edictum/io/XpathTokens$Kind") (P3 : Arv Z h0 o2 kk2 .boolean (18 : Int32) [(.int 1), (.int 0), (.int 0), (.int 0), (.int 0), (.int 0), (.int 0), (.int 0), (.int 0), (.int 0), (.int 0), (.int 0), (.int 0), (.int 0), (.int 0), (.int 0), (.int 0), (.int 0)] (.int (0 : Int32))) (P4 : n0 ≤ o1) (P5 : o1 < h0.size) (P6 : n0 ≤ o2) (P7 : o2 < h0.size) (P8 : o1 ≠ o2) :
    Fin p e below s n0 (T0.setTop (mkF m 169 #[iv p0s, rv o1, .unset, .unset] [(.ref o2)])) := by
  obtain ⟨cl1, Ar1, q1, S1, N1z, H1, G1⟩ := P3
  have hin1 : ¬ ((9 : Int32) < 0 ∨ cl1.slots.size ≤ ((9 : Int32)).toNatClampNeg) := inb_of S1 ⟨by decide, by decide⟩
  obtain ⟨T2, h2, X2, e2, W2, st2⟩ := stZ X0 hx hZ e0 Ar1 (j := (9 : Int32)) hin1 (g := (mkF m 173 #[iv p0s, rv o1, .unset, .unset] [(.int 0), (.int 9), (.ref o2), (.ref o2)])) rfl rfl (hb hby at_173)
  have N2 := Fr.snoc X2 N0 P6
  have V2 : Arv Z h2 o2 kk2 .boolean (18 : Int32) [(.int 1), (.int 0), (.int 0), (.int 0), (.int 0), (.int 0), (.int 0), (.int 0), (.int 0), (.int 0), (.int 0), (.int 0), (.int 0), (.int 0), (.int 0), (.int 0), (.int 0), (.int 0)] (.int (0 : Int32)) := Arv.set Ar1 q1 S1 N1z H1 G1 (by decide) W2 9 rfl (Nat.le_of_ble_eq_true rfl)
  obtain ⟨cl3, Ar3, q3, S3, N3z, H3, G3⟩ := V2
  have hin3 : ¬ ((10 : Int32) < 0 ∨ cl3.slots.size ≤ ((10 : Int32)).toNatClampNeg) := inb_of S3 ⟨by decide, by decide⟩
  obtain ⟨T4, h4, X4, e4, W4, st4⟩ := stZ X2 hx hZ e2 Ar3 (j := (10 : Int32)) hin3 (g := (mkF m 178 #[iv p0s, rv o1, .unset, .unset] [(.int 1), (.int 10), (.ref o2), (.ref o2)])) rfl rfl (hb hby at_178)
  have N4 := Fr.snoc X4 N2 P6
  have V4 : Arv Z h4 o2 kk2 .boolean (18 : Int32) [(.int 1), (.int 0), (.int 0), (.int 0), (.int 0), (.int 0), (.int 0), (.int 0), (.int 0), (.int 0), (.int 1), (.int 0), (.int 0), (.int 0), (.int 0), (.int 0), (.int 0), (.int 0)] (.int (0 : Int32)) := Arv.set Ar3 q3 S3 N3z H3 G3 (by decide) W4 10 rfl (Nat.le_of_ble_eq_true rfl)
  obtain ⟨cl5, Ar5, q5, S5, N5z, H5, G5⟩ := V4
  have hin5 : ¬ ((11 : Int32) < 0 ∨ cl5.slots.size ≤ ((11 : Int32)).toNatClampNeg) := inb_of S5 ⟨by decide, by decide⟩
  obtain ⟨T6, h6, X6, e6, W6, st6⟩ := stZ X4 hx hZ e4 Ar5 (j := (11 : Int32)) hin5 (g := (mkF m 183 #[iv p0s, rv o1, .unset, .unset] [(.int 0), (.int 11), (.ref o2), (.ref o2)])) rfl rfl (hb hby at_183)
  have N6 := Fr.snoc X6 N4 P6
  have V6 : Arv Z h6 o2 kk2 .boolean (18 : Int32) [(.int 1), (.int 0), (.int 0), (.int 0), (.int 0), (.int 0), (.int 0), (.int 0), (.int 0), (.int 0), (.int 1), (.int 0), (.int 0), (.int 0), (.int 0), (.int 0), (.int 0), (.int 0)] (.int (0 : Int32)) := Arv.set Ar5 q5 S5 N5z H5 G5 (by decide) W6 11 rfl (Nat.le_of_ble_eq_true rfl)
  obtain ⟨cl7, Ar7, q7, S7, N7z, H7, G7⟩ := V6
  have hin7 : ¬ ((12 : Int32) < 0 ∨ cl7.slots.size ≤ ((12 : Int32)).toNatClampNeg) := inb_of S7 ⟨by decide, by decide⟩
  obtain ⟨T8, h8, X8, e8, W8, st8⟩ := stZ X6 hx hZ e6 Ar7 (j := (12 : Int32)) hin7 (g := (mkF m 188 #[iv p0s, rv o1, .unset, .unset] [(.int 1), (.int 12), (.ref o2), (.ref o2)])) rfl rfl (hb hby at_188)
  have N8 := Fr.snoc X8 N6 P6
  have V8 : Arv Z h8 o2 kk2 .boolean (18 : Int32) [(.int 1), (.int 0), (.int 0), (.int 0), (.int 0), (.int 0), (.int 0), (.int 0), (.int 0), (.int 0), (.int 1), (.int 0), (.int 1), (.int 0), (.int 0), (.int 0), (.int 0), (.int 0)] (.int (0 : Int32)) := Arv.set Ar7 q7 S7 N7z H7 G7 (by decide) W8 12 rfl (Nat.le_of_ble_eq_true rfl)
  obtain ⟨cl9, Ar9, q9, S9, N9z, H9, G9⟩ := V8
  have hin9 : ¬ ((13 : Int32) < 0 ∨ cl9.slots.size ≤ ((13 : Int32)).toNatClampNeg) := inb_of S9 ⟨by decide, by decide⟩
  obtain ⟨T10, h10, X10, e10, W10, st10⟩ := stZ X8 hx hZ e8 Ar9 (j := (13 : Int32)) hin9 (g := (mkF m 193 #[iv p0s, rv o1, .unset, .unset] [(.int 1), (.int 13), (.ref o2), (.ref o2)])) rfl rfl (hb hby at_193)
  have N10 := Fr.snoc X10 N8 P6
  have V10 : Arv Z h10 o2 kk2 .boolean (18 : Int32) [(.int 1), (.int 0), (.int 0), (.int 0), (.int 0), (.int 0), (.int 0), (.int 0), (.int 0), (.int 0), (.int 1), (.int 0), (.int 1), (.int 1), (.int 0), (.int 0), (.int 0), (.int 0)] (.int (0 : Int32)) := Arv.set Ar9 q9 S9 N9z H9 G9 (by decide) W10 13 rfl (Nat.le_of_ble_eq_true rfl)
  have F1_11 : Arv Z h2 o1 kk1 (.object "com/example/edictum/edictum/io/XpathTokens$Kind") (18 : Int32) [(.ref w1), (.ref w2), (.ref w3), (.ref w4), (.ref w5), (.ref w6), (.ref w7), (.ref w8), (.ref w9), (.ref w10), (.ref w11), (.ref w12), (.ref w13), (.ref w14), (.ref w15), (.ref w16), (.ref w17), (.ref w18)] .null := P1.other W2 P8
  have F2_12 : Arv Z h4 o1 kk1 (.object "com/example/edictum/edictum/io/XpathTokens$Kind") (18 : Int32) [(.ref w1), (.ref w2), (.ref w3), (.ref w4), (.ref w5), (.ref w6), (.ref w7), (.ref w8), (.ref w9), (.ref w10), (.ref w11), (.ref w12), (.ref w13), (.ref w14), (.ref w15), (.ref w16), (.ref w17), (.ref w18)] .null := F1_11.other W4 P8
  have F3_13 : Arv Z h6 o1 kk1 (.object "com/example/edictum/edictum/io/XpathTokens$Kind") (18 : Int32) [(.ref w1), (.ref w2), (.ref w3), (.ref w4), (.ref w5), (.ref w6), (.ref w7), (.ref w8), (.ref w9), (.ref w10), (.ref w11), (.ref w12), (.ref w13), (.ref w14), (.ref w15), (.ref w16), (.ref w17), (.ref w18)] .null := F2_12.other W6 P8
  have F4_14 : Arv Z h8 o1 kk1 (.object "com/example/edictum/edictum/io/XpathTokens$Kind") (18 : Int32) [(.ref w1), (.ref w2), (.ref w3), (.ref w4), (.ref w5), (.ref w6), (.ref w7), (.ref w8), (.ref w9), (.ref w10), (.ref w11), (.ref w12), (.ref w13), (.ref w14), (.ref w15), (.ref w16), (.ref w17), (.ref w18)] .null := F3_13.other W8 P8
  have F5_15 : Arv Z h10 o1 kk1 (.object "com/example/edictum/edictum/io/XpathTokens$Kind") (18 : Int32) [(.ref w1), (.ref w2), (.ref w3), (.ref w4), (.ref w5), (.ref w6), (.ref w7), (.ref w8), (.ref w9), (.ref w10), (.ref w11), (.ref w12), (.ref w13), (.ref w14), (.ref w15), (.ref w16), (.ref w17), (.ref w18)] .null := F4_14.other W10 P8
  have lt_o1_1 : o1 < h2.size := Nat.lt_of_lt_of_le P5 (Keep.of_wr W2).1
  have lt_o1_2 : o1 < h4.size := Nat.lt_of_lt_of_le lt_o1_1 (Keep.of_wr W4).1
  have lt_o1_3 : o1 < h6.size := Nat.lt_of_lt_of_le lt_o1_2 (Keep.of_wr W6).1
  have lt_o1_4 : o1 < h8.size := Nat.lt_of_lt_of_le lt_o1_3 (Keep.of_wr W8).1
  have lt_o1_5 : o1 < h10.size := Nat.lt_of_lt_of_le lt_o1_4 (Keep.of_wr W10).1
  have lt_o2_1 : o2 < h2.size := Nat.lt_of_lt_of_le P7 (Keep.of_wr W2).1
  have lt_o2_2 : o2 < h4.size := Nat.lt_of_lt_of_le lt_o2_1 (Keep.of_wr W4).1
  have lt_o2_3 : o2 < h6.size := Nat.lt_of_lt_of_le lt_o2_2 (Keep.of_wr W6).1
  have lt_o2_4 : o2 < h8.size := Nat.lt_of_lt_of_le lt_o2_3 (Keep.of_wr W8).1
  have lt_o2_5 : o2 < h10.size := Nat.lt_of_lt_of_le lt_o2_4 (Keep.of_wr W10).1
  have Z2 : n0 ≤ h2.size := Nat.le_trans Z0 (Keep.of_wr W2).1
  have Z4 : n0 ≤ h4.size := Nat.le_trans Z2 (Keep.of_wr W4).1
  have Z6 : n0 ≤ h6.size := Nat.le_trans Z4 (Keep.of_wr W6).1
  have Z8 : n0 ≤ h8.size := Nat.le_trans Z6 (Keep.of_wr W8).1
  have Z10 : n0 ≤ h10.size := Nat.le_trans Z8 (Keep.of_wr W10).1
  have O2 : Old Z n0 h2 := O0.wr W2 P6
  have O4 : Old Z n0 h4 := O2.wr W4 P6
  have O6 : Old Z n0 h6 := O4.wr W6 P6
  have O8 : Old Z n0 h8 := O6.wr W8 P6
  have O10 : Old Z n0 h10 := O8.wr W10 P6
  refine Fin.pre (fun t k => ?_) (pc_8 (o1 := o1) (o2 := o2) (kk1 := kk1) (kk2 := kk2) X10 hx hZ hw hby hml hown hre hlk e10 N10 Z10 O10 Sg0 E_w1 Sg2 E_w2 Sg4 E_w3 Sg6 E_w4 Sg8 E_w5 Sg10 E_w6 Sg12 E_w7 Sg14 E_w8 Sg16 E_w9 Sg18 E_w10 Sg20 E_w11 Sg22 E_w12 Sg24 E_w13 Sg26 E_w14 Sg28 E_w15 Sg30 E_w16 Sg32 E_w17 Sg34 E_w18 F_w4_ordinal F_w1_ordinal F_w11_ordinal F_w13_ordinal F_w14_ordinal F_w15_ordinal F_w16_ordinal F_w3_ordinal F_w2_ordinal F_w8_ordinal F_w12_ordinal F_w5_ordinal F_w9_ordinal F_w17_ordinal F_w7_ordinal F_w18_ordinal F_w6_ordinal F_w10_ordinal F5_15 P2 V10 P4 lt_o1_5 P6 lt_o2_5 P8)
  show SF p e below T0 (mkF m 169 #[iv p0s, rv o1, .unset, .unset] [(.ref o2)]) _
  refine XS.dup X0.here hx rfl (hb hby at_169) rfl rfl ?_
  show SF p e below T0 (mkF m 170 #[iv p0s, rv o1, .unset, .unset] [(.ref o2), (.ref o2)]) _
  refine XS.bipush X0.here hx rfl (hb hby at_170) ?_
  show SF p e below T0 (mkF m 172 #[iv p0s, rv o1, .unset, .unset] [(.int 9), (.ref o2), (.ref o2)]) _
  refine XS.iconst X0.here hx rfl (hb hby at_172) ?_
  show SF p e below T0 (mkF m 173 #[iv p0s, rv o1, .unset, .unset] [(.int 0), (.int 9), (.ref o2), (.ref o2)]) _
  refine st2 _ ?_
  show SF p e below T2 (mkF m 174 #[iv p0s, rv o1, .unset, .unset] [(.ref o2)]) _
  refine XS.dup X2.here hx rfl (hb hby at_174) rfl rfl ?_
  show SF p e below T2 (mkF m 175 #[iv p0s, rv o1, .unset, .unset] [(.ref o2), (.ref o2)]) _
  refine XS.bipush X2.here hx rfl (hb hby at_175) ?_
  show SF p e below T2 (mkF m 177 #[iv p0s, rv o1, .unset, .unset] [(.int 10), (.ref o2), (.ref o2)]) _
  refine XS.iconst X2.here hx rfl (hb hby at_177) ?_
  show SF p e below T2 (mkF m 178 #[iv p0s, rv o1, .unset, .unset] [(.int 1), (.int 10), (.ref o2), (.ref o2)]) _
  refine st4 _ ?_
  show SF p e below T4 (mkF m 179 #[iv p0s, rv o1, .unset, .unset] [(.ref o2)]) _
  refine XS.dup X4.here hx rfl (hb hby at_179) rfl rfl ?_
  show SF p e below T4 (mkF m 180 #[iv p0s, rv o1, .unset, .unset] [(.ref o2), (.ref o2)]) _
  refine XS.bipush X4.here hx rfl (hb hby at_180) ?_
  show SF p e below T4 (mkF m 182 #[iv p0s, rv o1, .unset, .unset] [(.int 11), (.ref o2), (.ref o2)]) _
  refine XS.iconst X4.here hx rfl (hb hby at_182) ?_
  show SF p e below T4 (mkF m 183 #[iv p0s, rv o1, .unset, .unset] [(.int 0), (.int 11), (.ref o2), (.ref o2)]) _
  refine st6 _ ?_
  show SF p e below T6 (mkF m 184 #[iv p0s, rv o1, .unset, .unset] [(.ref o2)]) _
  refine XS.dup X6.here hx rfl (hb hby at_184) rfl rfl ?_
  show SF p e below T6 (mkF m 185 #[iv p0s, rv o1, .unset, .unset] [(.ref o2), (.ref o2)]) _
  refine XS.bipush X6.here hx rfl (hb hby at_185) ?_
  show SF p e below T6 (mkF m 187 #[iv p0s, rv o1, .unset, .unset] [(.int 12), (.ref o2), (.ref o2)]) _
  refine XS.iconst X6.here hx rfl (hb hby at_187) ?_
  show SF p e below T6 (mkF m 188 #[iv p0s, rv o1, .unset, .unset] [(.int 1), (.int 12), (.ref o2), (.ref o2)]) _
  refine st8 _ ?_
  show SF p e below T8 (mkF m 189 #[iv p0s, rv o1, .unset, .unset] [(.ref o2)]) _
  refine XS.dup X8.here hx rfl (hb hby at_189) rfl rfl ?_
  show SF p e below T8 (mkF m 190 #[iv p0s, rv o1, .unset, .unset] [(.ref o2), (.ref o2)]) _
  refine XS.bipush X8.here hx rfl (hb hby at_190) ?_
  show SF p e below T8 (mkF m 192 #[iv p0s, rv o1, .unset, .unset] [(.int 13), (.ref o2), (.ref o2)]) _
  refine XS.iconst X8.here hx rfl (hb hby at_192) ?_
  show SF p e below T8 (mkF m 193 #[iv p0s, rv o1, .unset, .unset] [(.int 1), (.int 13), (.ref o2), (.ref o2)]) _
  refine st10 _ ?_
  exact k
set_option maxRecDepth 65536 in
set_option maxHeartbeats 400000000 in
theorem pc_6 {p : Program} {l : Launch} {e : Env} {s : State} {m : MethodId} {below : List Frame} {meth : Method} {c : Code} {T0 : State} {locs : List Loc} {Z : State} {a0 : Array Value} {h0 : Heap} {n0 : Nat} {p0s : Int32} {w1 : Addr} {w2 : Addr} {w3 : Addr} {w4 : Addr} {w5 : Addr} {w6 : Addr} {w7 : Addr} {w8 : Addr} {w9 : Addr} {w10 : Addr} {w11 : Addr} {w12 : Addr} {w13 : Addr} {w14 : Addr} {w15 : Addr} {w16 : Addr} {w17 : Addr} {w18 : Addr} {o1 : Addr} {o2 : Addr} {kk1 : ClassId} {kk2 : ClassId} (X0 : Stand p l e room_1 s m #[(.int p0s)] below meth c T0 locs 2 36) (hx : p.tables.exec = Jvm.exec) (hZ : Z.Warmed39 s.vm) (hw : HW Z a0) (hby : c.code = code) (hml : c.maxLocals = 4) (hown : s.vm.findClass "com/example/edictum/edictum/io/KindBeginsStepPinLaw" = some m.cls) (hre : meth.sig.returnType = some .boolean) (hlk : meth.locks = false) (e0 : T0.heap = h0) (N0 : Fr n0 locs) (Z0 : n0 ≤ h0.size) (O0 : Old Z n0 h0) (Sg0 : Sta Z Z.heap "com/example/edictum/edictum/io/XpathTokens$Kind" "AT" "Lcom/example/edictum/edictum/io/XpathTokens$Kind;" (.ref w1)) (E_w1 : Exa Z Z.heap w1 "com/example/edictum/edictum/io/XpathTokens$Kind") (Sg2 : Sta Z Z.heap "com/example/edictum/edictum/io/XpathTokens$Kind" "AXIS_SEPARATOR" "Lcom/example/edictum/edictum/io/XpathTokens$Kind;" (.ref w2)) (E_w2 : Exa Z Z.heap w2 "com/example/edictum/edictum/io/XpathTokens$Kind") (Sg4 : Sta Z Z.heap "com/example/edictum/edictum/io/XpathTokens$Kind" "LEFT_PAREN" "Lcom/example/edictum/edictum/io/XpathTokens$Kind;" (.ref w3)) (E_w3 : Exa Z Z.heap w3 "com/example/edictum/edictum/io/XpathTokens$Kind") (Sg6 : Sta Z Z.heap "com/example/edictum/edictum/io/XpathTokens$Kind" "LEFT_BRACKET" "Lcom/example/edictum/edictum/io/XpathTokens$Kind;" (.ref w4)) (E_w4 : Exa Z Z.heap w4 "com/example/edictum/edictum/io/XpathTokens$Kind") (Sg8 : Sta Z Z.heap "com/example/edictum/edictum/io/XpathTokens$Kind" "COMMA" "Lcom/example/edictum/edictum/io/XpathTokens$Kind;" (.ref w5)) (E_w5 : Exa Z Z.heap w5 "com/example/edictum/edictum/io/XpathTokens$Kind") (Sg10 : Sta Z Z.heap "com/example/edictum/edictum/io/XpathTokens$Kind" "RIGHT_PAREN" "Lcom/example/edictum/edictum/io/XpathTokens$Kind;" (.ref w6)) (E_w6 : Exa Z Z.heap w6 "com/example/edictum/edictum/io/XpathTokens$Kind") (Sg12 : Sta Z Z.heap "com/example/edictum/edictum/io/XpathTokens$Kind" "RIGHT_BRACKET" "Lcom/example/edictum/edictum/io/XpathTokens$Kind;" (.ref w7)) (E_w7 : Exa Z Z.heap w7 "com/example/edictum/edictum/io/XpathTokens$Kind") (Sg14 : Sta Z Z.heap "com/example/edictum/edictum/io/XpathTokens$Kind" "SLASH" "Lcom/example/edictum/edictum/io/XpathTokens$Kind;" (.ref w8)) (E_w8 : Exa Z Z.heap w8 "com/example/edictum/edictum/io/XpathTokens$Kind") (Sg16 : Sta Z Z.heap "com/example/edictum/edictum/io/XpathTokens$Kind" "DOUBLE_SLASH" "Lcom/example/edictum/edictum/io/XpathTokens$Kind;" (.ref w9)) (E_w9 : Exa Z Z.heap w9 "com/example/edictum/edictum/io/XpathTokens$Kind") (Sg18 : Sta Z Z.heap "com/example/edictum/edictum/io/XpathTokens$Kind" "OPERATOR" "Lcom/example/edictum/edictum/io/XpathTokens$Kind;" (.ref w10)) (E_w10 : Exa Z Z.heap w10 "com/example/edictum/edictum/io/XpathTokens$Kind") (Sg20 : Sta Z Z.heap "com/example/edictum/edictum/io/XpathTokens$Kind" "AXIS" "Lcom/example/edictum/edictum/io/XpathTokens$Kind;" (.ref w11)) (E_w11 : Exa Z Z.heap w11 "com/example/edictum/edictum/io/XpathTokens$Kind") (Sg22 : Sta Z Z.heap "com/example/edictum/edictum/io/XpathTokens$Kind" "FUNCTION" "Lcom/example/edictum/edictum/io/XpathTokens$Kind;" (.ref w12)) (E_w12 : Exa Z Z.heap w12 "com/example/edictum/edictum/io/XpathTokens$Kind") (Sg24 : Sta Z Z.heap "com/example/edictum/edictum/io/XpathTokens$Kind" "NODE_TYPE" "Lcom/example/edictum/edictum/io/XpathTokens$Kind;" (.ref w13)) (E_w13 : Exa Z Z.heap w13 "com/example/edictum/edictum/io/XpathTokens$Kind") (Sg26 : Sta Z Z.heap "com/example/edictum/edictum/io/XpathTokens$Kind" "NAME_TEST" "Lcom/example/edictum/edictum/io/XpathTokens$Kind;" (.ref w14)) (E_w14 : Exa Z Z.heap w14 "com/example/edictum/edictum/io/XpathTokens$Kind") (Sg28 : Sta Z Z.heap "com/example/edictum/edictum/io/XpathTokens$Kind" "DOT" "Lcom/example/edictum/edictum/io/XpathTokens$Kind;" (.ref w15)) (E_w15 : Exa Z Z.heap w15 "com/example/edictum/edictum/io/XpathTokens$Kind") (Sg30 : Sta Z Z.heap "com/example/edictum/edictum/io/XpathTokens$Kind" "DOT_DOT" "Lcom/example/edictum/edictum/io/XpathTokens$Kind;" (.ref w16)) (E_w16 : Exa Z Z.heap w16 "com/example/edictum/edictum/io/XpathTokens$Kind") (Sg32 : Sta Z Z.heap "com/example/edictum/edictum/io/XpathTokens$Kind" "LITERAL" "Lcom/example/edictum/edictum/io/XpathTokens$Kind;" (.ref w17)) (E_w17 : Exa Z Z.heap w17 "com/example/edictum/edictum/io/XpathTokens$Kind") (Sg34 : Sta Z Z.heap "com/example/edictum/edictum/io/XpathTokens$Kind" "NUMBER" "Lcom/example/edictum/edictum/io/XpathTokens$Kind;" (.ref w18)) (E_w18 : Exa Z Z.heap w18 "com/example/edictum/edictum/io/XpathTokens$Kind") (F_w4_ordinal : Fld Z Z.heap w4 "java/lang/Enum" "ordinal" "I" (.int 3)) (F_w1_ordinal : Fld Z Z.heap w1 "java/lang/Enum" "ordinal" "I" (.int 0)) (F_w11_ordinal : Fld Z Z.heap w11 "java/lang/Enum" "ordinal" "I" (.int 10)) (F_w13_ordinal : Fld Z Z.heap w13 "java/lang/Enum" "ordinal" "I" (.int 12)) (F_w14_ordinal : Fld Z Z.heap w14 "java/lang/Enum" "ordinal" "I" (.int 13)) (F_w15_ordinal : Fld Z Z.heap w15 "java/lang/Enum" "ordinal" "I" (.int 14)) (F_w16_ordinal : Fld Z Z.heap w16 "java/lang/Enum" "ordinal" "I" (.int 15)) (F_w3_ordinal : Fld Z Z.heap w3 "java/lang/Enum" "ordinal" "I" (.int 2)) (F_w2_ordinal : Fld Z Z.heap w2 "java/lang/Enum" "ordinal" "I" (.int 1)) (F_w8_ordinal : Fld Z Z.heap w8 "java/lang/Enum" "ordinal" "I" (.int 7)) (F_w12_ordinal : Fld Z Z.heap w12 "java/lang/Enum" "ordinal" "I" (.int 11)) (F_w5_ordinal : Fld Z Z.heap w5 "java/lang/Enum" "ordinal" "I" (.int 4)) (F_w9_ordinal : Fld Z Z.heap w9 "java/lang/Enum" "ordinal" "I" (.int 8)) (F_w17_ordinal : Fld Z Z.heap w17 "java/lang/Enum" "ordinal" "I" (.int 16)) (F_w7_ordinal : Fld Z Z.heap w7 "java/lang/Enum" "ordinal" "I" (.int 6)) (F_w18_ordinal : Fld Z Z.heap w18 "java/lang/Enum" "ordinal" "I" (.int 17)) (F_w6_ordinal : Fld Z Z.heap w6 "java/lang/Enum" "ordinal" "I" (.int 5)) (F_w10_ordinal : Fld Z Z.heap w10 "java/lang/Enum" "ordinal" "I" (.int 9)) (P1 : Arv Z h0 o1 kk1 (.object "com/example/edictum/edictum/io/XpathTokens$Kind") (18 : Int32) [(.ref w1), (.ref w2), (.ref w3), (.ref w4), (.ref w5), (.ref w6), (.ref w7), (.ref w8), (.ref w9), (.ref w10), (.ref w11), (.ref w12), (.ref w13), (.ref w14), (.ref w15), (.ref w16), (.ref w17), (.ref w18)] .null) (P2 : Ovr Z kk1 "com/example/edictum/edictum/io/XpathTokens$Kind") (P3 : Arv Z h0 o2 kk2 .boolean (18 : Int32) [(.int 1), (.int 0), (.int 0), (.int 0), (.int 0), (.int 0), (.int 0), (.int 0), (.int 0), (.int 0), (.int 0), (.int 0), (.int 0), (.int 0), (.int 0), (.int 0), (.int 0), (.int 0)] (.int (0 : Int32))) (P4 : n0 ≤ o1) (P5 : o1 < h0.size) (P6 : n0 ≤ o2) (P7 : o2 < h0.size) (P8 : o1 ≠ o2) :
    Fin p e below s n0 (T0.setTop (mkF m 146 #[iv p0s, rv o1, .unset, .unset] [(.ref o2)])) := by
  obtain ⟨cl1, Ar1, q1, S1, N1z, H1, G1⟩ := P3
  have hin1 : ¬ ((4 : Int32) < 0 ∨ cl1.slots.size ≤ ((4 : Int32)).toNatClampNeg) := inb_of S1 ⟨by decide, by decide⟩
  obtain ⟨T2, h2, X2, e2, W2, st2⟩ := stZ X0 hx hZ e0 Ar1 (j := (4 : Int32)) hin1 (g := (mkF m 149 #[iv p0s, rv o1, .unset, .unset] [(.int 0), (.int 4), (.ref o2), (.ref o2)])) rfl rfl (hb hby at_149)
  have N2 := Fr.snoc X2 N0 P6
  have V2 : Arv Z h2 o2 kk2 .boolean (18 : Int32) [(.int 1), (.int 0), (.int 0), (.int 0), (.int 0), (.int 0), (.int 0), (.int 0), (.int 0), (.int 0), (.int 0), (.int 0), (.int 0), (.int 0), (.int 0), (.int 0), (.int 0), (.int 0)] (.int (0 : Int32)) := Arv.set Ar1 q1 S1 N1z H1 G1 (by decide) W2 4 rfl (Nat.le_of_ble_eq_true rfl)
  obtain ⟨cl3, Ar3, q3, S3, N3z, H3, G3⟩ := V2
  have hin3 : ¬ ((5 : Int32) < 0 ∨ cl3.slots.size ≤ ((5 : Int32)).toNatClampNeg) := inb_of S3 ⟨by decide, by decide⟩
  obtain ⟨T4, h4, X4, e4, W4, st4⟩ := stZ X2 hx hZ e2 Ar3 (j := (5 : Int32)) hin3 (g := (mkF m 153 #[iv p0s, rv o1, .unset, .unset] [(.int 0), (.int 5), (.ref o2), (.ref o2)])) rfl rfl (hb hby at_153)
  have N4 := Fr.snoc X4 N2 P6
  have V4 : Arv Z h4 o2 kk2 .boolean (18 : Int32) [(.int 1), (.int 0), (.int 0), (.int 0), (.int 0), (.int 0), (.int 0), (.int 0), (.int 0), (.int 0), (.int 0), (.int 0), (.int 0), (.int 0), (.int 0), (.int 0), (.int 0), (.int 0)] (.int (0 : Int32)) := Arv.set Ar3 q3 S3 N3z H3 G3 (by decide) W4 5 rfl (Nat.le_of_ble_eq_true rfl)
  obtain ⟨cl5, Ar5, q5, S5, N5z, H5, G5⟩ := V4
  have hin5 : ¬ ((6 : Int32) < 0 ∨ cl5.slots.size ≤ ((6 : Int32)).toNatClampNeg) := inb_of S5 ⟨by decide, by decide⟩
  obtain ⟨T6, h6, X6, e6, W6, st6⟩ := stZ X4 hx hZ e4 Ar5 (j := (6 : Int32)) hin5 (g := (mkF m 158 #[iv p0s, rv o1, .unset, .unset] [(.int 0), (.int 6), (.ref o2), (.ref o2)])) rfl rfl (hb hby at_158)
  have N6 := Fr.snoc X6 N4 P6
  have V6 : Arv Z h6 o2 kk2 .boolean (18 : Int32) [(.int 1), (.int 0), (.int 0), (.int 0), (.int 0), (.int 0), (.int 0), (.int 0), (.int 0), (.int 0), (.int 0), (.int 0), (.int 0), (.int 0), (.int 0), (.int 0), (.int 0), (.int 0)] (.int (0 : Int32)) := Arv.set Ar5 q5 S5 N5z H5 G5 (by decide) W6 6 rfl (Nat.le_of_ble_eq_true rfl)
  obtain ⟨cl7, Ar7, q7, S7, N7z, H7, G7⟩ := V6
  have hin7 : ¬ ((7 : Int32) < 0 ∨ cl7.slots.size ≤ ((7 : Int32)).toNatClampNeg) := inb_of S7 ⟨by decide, by decide⟩
  obtain ⟨T8, h8, X8, e8, W8, st8⟩ := stZ X6 hx hZ e6 Ar7 (j := (7 : Int32)) hin7 (g := (mkF m 163 #[iv p0s, rv o1, .unset, .unset] [(.int 0), (.int 7), (.ref o2), (.ref o2)])) rfl rfl (hb hby at_163)
  have N8 := Fr.snoc X8 N6 P6
  have V8 : Arv Z h8 o2 kk2 .boolean (18 : Int32) [(.int 1), (.int 0), (.int 0), (.int 0), (.int 0), (.int 0), (.int 0), (.int 0), (.int 0), (.int 0), (.int 0), (.int 0), (.int 0), (.int 0), (.int 0), (.int 0), (.int 0), (.int 0)] (.int (0 : Int32)) := Arv.set Ar7 q7 S7 N7z H7 G7 (by decide) W8 7 rfl (Nat.le_of_ble_eq_true rfl)
  obtain ⟨cl9, Ar9, q9, S9, N9z, H9, G9⟩ := V8
  have hin9 : ¬ ((8 : Int32) < 0 ∨ cl9.slots.size ≤ ((8 : Int32)).toNatClampNeg) := inb_of S9 ⟨by decide, by decide⟩
  obtain ⟨T10, h10, X10, e10, W10, st10⟩ := stZ X8 hx hZ e8 Ar9 (j := (8 : Int32)) hin9 (g := (mkF m 168 #[iv p0s, rv o1, .unset, .unset] [(.int 0), (.int 8), (.ref o2), (.ref o2)])) rfl rfl (hb hby at_168)
  have N10 := Fr.snoc X10 N8 P6
  have V10 : Arv Z h10 o2 kk2 .boolean (18 : Int32) [(.int 1), (.int 0), (.int 0), (.int 0), (.int 0), (.int 0), (.int 0), (.int 0), (.int 0), (.int 0), (.int 0), (.int 0), (.int 0), (.int 0), (.int 0), (.int 0), (.int 0), (.int 0)] (.int (0 : Int32)) := Arv.set Ar9 q9 S9 N9z H9 G9 (by decide) W10 8 rfl (Nat.le_of_ble_eq_true rfl)
  have F1_11 : Arv Z h2 o1 kk1 (.object "com/example/edictum/edictum/io/XpathTokens$Kind") (18 : Int32) [(.ref w1), (.ref w2), (.ref w3), (.ref w4), (.ref w5), (.ref w6), (.ref w7), (.ref w8), (.ref w9), (.ref w10), (.ref w11), (.ref w12), (.ref w13), (.ref w14), (.ref w15), (.ref w16), (.ref w17), (.ref w18)] .null := P1.other W2 P8
  have F2_12 : Arv Z h4 o1 kk1 (.object "com/example/edictum/edictum/io/XpathTokens$Kind") (18 : Int32) [(.ref w1), (.ref w2), (.ref w3), (.ref w4), (.ref w5), (.ref w6), (.ref w7), (.ref w8), (.ref w9), (.ref w10), (.ref w11), (.ref w12), (.ref w13), (.ref w14), (.ref w15), (.ref w16), (.ref w17), (.ref w18)] .null := F1_11.other W4 P8
  have F3_13 : Arv Z h6 o1 kk1 (.object "com/example/edictum/edictum/io/XpathTokens$Kind") (18 : Int32) [(.ref w1), (.ref w2), (.ref w3), (.ref w4), (.ref w5), (.ref w6), (.ref w7), (.ref w8), (.ref w9), (.ref w10), (.ref w11), (.ref w12), (.ref w13), (.ref w14), (.ref w15), (.ref w16), (.ref w17), (.ref w18)] .null := F2_12.other W6 P8
  have F4_14 : Arv Z h8 o1 kk1 (.object "com/example/edictum/edictum/io/XpathTokens$Kind") (18 : Int32) [(.ref w1), (.ref w2), (.ref w3), (.ref w4), (.ref w5), (.ref w6), (.ref w7), (.ref w8), (.ref w9), (.ref w10), (.ref w11), (.ref w12), (.ref w13), (.ref w14), (.ref w15), (.ref w16), (.ref w17), (.ref w18)] .null := F3_13.other W8 P8
  have F5_15 : Arv Z h10 o1 kk1 (.object "com/example/edictum/edictum/io/XpathTokens$Kind") (18 : Int32) [(.ref w1), (.ref w2), (.ref w3), (.ref w4), (.ref w5), (.ref w6), (.ref w7), (.ref w8), (.ref w9), (.ref w10), (.ref w11), (.ref w12), (.ref w13), (.ref w14), (.ref w15), (.ref w16), (.ref w17), (.ref w18)] .null := F4_14.other W10 P8
  have lt_o1_1 : o1 < h2.size := Nat.lt_of_lt_of_le P5 (Keep.of_wr W2).1
  have lt_o1_2 : o1 < h4.size := Nat.lt_of_lt_of_le lt_o1_1 (Keep.of_wr W4).1
  have lt_o1_3 : o1 < h6.size := Nat.lt_of_lt_of_le lt_o1_2 (Keep.of_wr W6).1
  have lt_o1_4 : o1 < h8.size := Nat.lt_of_lt_of_le lt_o1_3 (Keep.of_wr W8).1
  have lt_o1_5 : o1 < h10.size := Nat.lt_of_lt_of_le lt_o1_4 (Keep.of_wr W10).1
  have lt_o2_1 : o2 < h2.size := Nat.lt_of_lt_of_le P7 (Keep.of_wr W2).1
  have lt_o2_2 : o2 < h4.size := Nat.lt_of_lt_of_le lt_o2_1 (Keep.of_wr W4).1
  have lt_o2_3 : o2 < h6.size := Nat.lt_of_lt_of_le lt_o2_2 (Keep.of_wr W6).1
  have lt_o2_4 : o2 < h8.size := Nat.lt_of_lt_of_le lt_o2_3 (Keep.of_wr W8).1
  have lt_o2_5 : o2 < h10.size := Nat.lt_of_lt_of_le lt_o2_4 (Keep.of_wr W10).1
  have Z2 : n0 ≤ h2.size := Nat.le_trans Z0 (Keep.of_wr W2).1
  have Z4 : n0 ≤ h4.size := Nat.le_trans Z2 (Keep.of_wr W4).1
  have Z6 : n0 ≤ h6.size := Nat.le_trans Z4 (Keep.of_wr W6).1
  have Z8 : n0 ≤ h8.size := Nat.le_trans Z6 (Keep.of_wr W8).1
  have Z10 : n0 ≤ h10.size := Nat.le_trans Z8 (Keep.of_wr W10).1
  have O2 : Old Z n0 h2 := O0.wr W2 P6
  have O4 : Old Z n0 h4 := O2.wr W4 P6
  have O6 : Old Z n0 h6 := O4.wr W6 P6
  have O8 : Old Z n0 h8 := O6.wr W8 P6
  have O10 : Old Z n0 h10 := O8.wr W10 P6
  refine Fin.pre (fun t k => ?_) (pc_7 (o1 := o1) (o2 := o2) (kk1 := kk1) (kk2 := kk2) X10 hx hZ hw hby hml hown hre hlk e10 N10 Z10 O10 Sg0 E_w1 Sg2 E_w2 Sg4 E_w3 Sg6 E_w4 Sg8 E_w5 Sg10 E_w6 Sg12 E_w7 Sg14 E_w8 Sg16 E_w9 Sg18 E_w10 Sg20 E_w11 Sg22 E_w12 Sg24 E_w13 Sg26 E_w14 Sg28 E_w15 Sg30 E_w16 Sg32 E_w17 Sg34 E_w18 F_w4_ordinal F_w1_ordinal F_w11_ordinal F_w13_ordinal F_w14_ordinal F_w15_ordinal F_w16_ordinal F_w3_ordinal F_w2_ordinal F_w8_ordinal F_w12_ordinal F_w5_ordinal F_w9_ordinal F_w17_ordinal F_w7_ordinal F_w18_ordinal F_w6_ordinal F_w10_ordinal F5_15 P2 V10 P4 lt_o1_5 P6 lt_o2_5 P8)
  show SF p e below T0 (mkF m 146 #[iv p0s, rv o1, .unset, .unset] [(.ref o2)]) _
  refine XS.dup X0.here hx rfl (hb hby at_146) rfl rfl ?_
  show SF p e below T0 (mkF m 147 #[iv p0s, rv o1, .unset, .unset] [(.ref o2), (.ref o2)]) _
  refine XS.iconst X0.here hx rfl (hb hby at_147) ?_
  show SF p e below T0 (mkF m 148 #[iv p0s, rv o1, .unset, .unset] [(.int 4), (.ref o2), (.ref o2)]) _
  refine XS.iconst X0.here hx rfl (hb hby at_148) ?_
  show SF p e below T0 (mkF m 149 #[iv p0s, rv o1, .unset, .unset] [(.int 0), (.int 4), (.ref o2), (.ref o2)]) _
  refine st2 _ ?_
  show SF p e below T2 (mkF m 150 #[iv p0s, rv o1, .unset, .unset] [(.ref o2)]) _
  refine XS.dup X2.here hx rfl (hb hby at_150) rfl rfl ?_
  show SF p e below T2 (mkF m 151 #[iv p0s, rv o1, .unset, .unset] [(.ref o2), (.ref o2)]) _
  refine XS.iconst X2.here hx rfl (hb hby at_151) ?_
  show SF p e below T2 (mkF m 152 #[iv p0s, rv o1, .unset, .unset] [(.int 5), (.ref o2), (.ref o2)]) _
  refine XS.iconst X2.here hx rfl (hb hby at_152) ?_
  show SF p e below T2 (mkF m 153 #[iv p0s, rv o1, .unset, .unset] [(.int 0), (.int 5), (.ref o2), (.ref o2)]) _
  refine st4 _ ?_
  show SF p e below T4 (mkF m 154 #[iv p0s, rv o1, .unset, .unset] [(.ref o2)]) _
  refine XS.dup X4.here hx rfl (hb hby at_154) rfl rfl ?_
  show SF p e below T4 (mkF m 155 #[iv p0s, rv o1, .unset, .unset] [(.ref o2), (.ref o2)]) _
  refine XS.bipush X4.here hx rfl (hb hby at_155) ?_
  show SF p e below T4 (mkF m 157 #[iv p0s, rv o1, .unset, .unset] [(.int 6), (.ref o2), (.ref o2)]) _
  refine XS.iconst X4.here hx rfl (hb hby at_157) ?_
  show SF p e below T4 (mkF m 158 #[iv p0s, rv o1, .unset, .unset] [(.int 0), (.int 6), (.ref o2), (.ref o2)]) _
  refine st6 _ ?_
  show SF p e below T6 (mkF m 159 #[iv p0s, rv o1, .unset, .unset] [(.ref o2)]) _
  refine XS.dup X6.here hx rfl (hb hby at_159) rfl rfl ?_
  show SF p e below T6 (mkF m 160 #[iv p0s, rv o1, .unset, .unset] [(.ref o2), (.ref o2)]) _
  refine XS.bipush X6.here hx rfl (hb hby at_160) ?_
  show SF p e below T6 (mkF m 162 #[iv p0s, rv o1, .unset, .unset] [(.int 7), (.ref o2), (.ref o2)]) _
  refine XS.iconst X6.here hx rfl (hb hby at_162) ?_
  show SF p e below T6 (mkF m 163 #[iv p0s, rv o1, .unset, .unset] [(.int 0), (.int 7), (.ref o2), (.ref o2)]) _
  refine st8 _ ?_
  show SF p e below T8 (mkF m 164 #[iv p0s, rv o1, .unset, .unset] [(.ref o2)]) _
  refine XS.dup X8.here hx rfl (hb hby at_164) rfl rfl ?_
  show SF p e below T8 (mkF m 165 #[iv p0s, rv o1, .unset, .unset] [(.ref o2), (.ref o2)]) _
  refine XS.bipush X8.here hx rfl (hb hby at_165) ?_
  show SF p e below T8 (mkF m 167 #[iv p0s, rv o1, .unset, .unset] [(.int 8), (.ref o2), (.ref o2)]) _
  refine XS.iconst X8.here hx rfl (hb hby at_167) ?_
  show SF p e below T8 (mkF m 168 #[iv p0s, rv o1, .unset, .unset] [(.int 0), (.int 8), (.ref o2), (.ref o2)]) _
  refine st10 _ ?_
  exact k
set_option maxRecDepth 65536 in
set_option maxHeartbeats 400000000 in
theorem pc_5 {p : Program} {l : Launch} {e : Env} {s : State} {m : MethodId} {below : List Frame} {meth : Method} {c : Code} {T0 : State} {locs : List Loc} {Z : State} {a0 : Array Value} {h0 : Heap} {n0 : Nat} {p0s : Int32} {w1 : Addr} {w2 : Addr} {w3 : Addr} {w4 : Addr} {w5 : Addr} {w6 : Addr} {w7 : Addr} {w8 : Addr} {w9 : Addr} {w10 : Addr} {w11 : Addr} {w12 : Addr} {w13 : Addr} {w14 : Addr} {w15 : Addr} {w16 : Addr} {w17 : Addr} {w18 : Addr} {o1 : Addr} {kk1 : ClassId} (X0 : Stand p l e room_1 s m #[(.int p0s)] below meth c T0 locs 1 18) (hx : p.tables.exec = Jvm.exec) (hZ : Z.Warmed39 s.vm) (hw : HW Z a0) (hby : c.code = code) (hml : c.maxLocals = 4) (hown : s.vm.findClass "com/example/edictum/edictum/io/KindBeginsStepPinLaw" = some m.cls) (hre : meth.sig.returnType = some .boolean) (hlk : meth.locks = false) (e0 : T0.heap = h0) (N0 : Fr n0 locs) (Z0 : n0 ≤ h0.size) (O0 : Old Z n0 h0) (Sg0 : Sta Z Z.heap "com/example/edictum/edictum/io/XpathTokens$Kind" "AT" "Lcom/example/edictum/edictum/io/XpathTokens$Kind;" (.ref w1)) (E_w1 : Exa Z Z.heap w1 "com/example/edictum/edictum/io/XpathTokens$Kind") (Sg2 : Sta Z Z.heap "com/example/edictum/edictum/io/XpathTokens$Kind" "AXIS_SEPARATOR" "Lcom/example/edictum/edictum/io/XpathTokens$Kind;" (.ref w2)) (E_w2 : Exa Z Z.heap w2 "com/example/edictum/edictum/io/XpathTokens$Kind") (Sg4 : Sta Z Z.heap "com/example/edictum/edictum/io/XpathTokens$Kind" "LEFT_PAREN" "Lcom/example/edictum/edictum/io/XpathTokens$Kind;" (.ref w3)) (E_w3 : Exa Z Z.heap w3 "com/example/edictum/edictum/io/XpathTokens$Kind") (Sg6 : Sta Z Z.heap "com/example/edictum/edictum/io/XpathTokens$Kind" "LEFT_BRACKET" "Lcom/example/edictum/edictum/io/XpathTokens$Kind;" (.ref w4)) (E_w4 : Exa Z Z.heap w4 "com/example/edictum/edictum/io/XpathTokens$Kind") (Sg8 : Sta Z Z.heap "com/example/edictum/edictum/io/XpathTokens$Kind" "COMMA" "Lcom/example/edictum/edictum/io/XpathTokens$Kind;" (.ref w5)) (E_w5 : Exa Z Z.heap w5 "com/example/edictum/edictum/io/XpathTokens$Kind") (Sg10 : Sta Z Z.heap "com/example/edictum/edictum/io/XpathTokens$Kind" "RIGHT_PAREN" "Lcom/example/edictum/edictum/io/XpathTokens$Kind;" (.ref w6)) (E_w6 : Exa Z Z.heap w6 "com/example/edictum/edictum/io/XpathTokens$Kind") (Sg12 : Sta Z Z.heap "com/example/edictum/edictum/io/XpathTokens$Kind" "RIGHT_BRACKET" "Lcom/example/edictum/edictum/io/XpathTokens$Kind;" (.ref w7)) (E_w7 : Exa Z Z.heap w7 "com/example/edictum/edictum/io/XpathTokens$Kind") (Sg14 : Sta Z Z.heap "com/example/edictum/edictum/io/XpathTokens$Kind" "SLASH" "Lcom/example/edictum/edictum/io/XpathTokens$Kind;" (.ref w8)) (E_w8 : Exa Z Z.heap w8 "com/example/edictum/edictum/io/XpathTokens$Kind") (Sg16 : Sta Z Z.heap "com/example/edictum/edictum/io/XpathTokens$Kind" "DOUBLE_SLASH" "Lcom/example/edictum/edictum/io/XpathTokens$Kind;" (.ref w9)) (E_w9 : Exa Z Z.heap w9 "com/example/edictum/edictum/io/XpathTokens$Kind") (Sg18 : Sta Z Z.heap "com/example/edictum/edictum/io/XpathTokens$Kind" "OPERATOR" "Lcom/example/edictum/edictum/io/XpathTokens$Kind;" (.ref w10)) (E_w10 : Exa Z Z.heap w10 "com/example/edictum/edictum/io/XpathTokens$Kind") (Sg20 : Sta Z Z.heap "com/example/edictum/edictum/io/XpathTokens$Kind" "AXIS" "Lcom/example/edictum/edictum/io/XpathTokens$Kind;" (.ref w11)) (E_w11 : Exa Z Z.heap w11 "com/example/edictum/edictum/io/XpathTokens$Kind") (Sg22 : Sta Z Z.heap "com/example/edictum/edictum/io/XpathTokens$Kind" "FUNCTION" "Lcom/example/edictum/edictum/io/XpathTokens$Kind;" (.ref w12)) (E_w12 : Exa Z Z.heap w12 "com/example/edictum/edictum/io/XpathTokens$Kind") (Sg24 : Sta Z Z.heap "com/example/edictum/edictum/io/XpathTokens$Kind" "NODE_TYPE" "Lcom/example/edictum/edictum/io/XpathTokens$Kind;" (.ref w13)) (E_w13 : Exa Z Z.heap w13 "com/example/edictum/edictum/io/XpathTokens$Kind") (Sg26 : Sta Z Z.heap "com/example/edictum/edictum/io/XpathTokens$Kind" "NAME_TEST" "Lcom/example/edictum/edictum/io/XpathTokens$Kind;" (.ref w14)) (E_w14 : Exa Z Z.heap w14 "com/example/edictum/edictum/io/XpathTokens$Kind") (Sg28 : Sta Z Z.heap "com/example/edictum/edictum/io/XpathTokens$Kind" "DOT" "Lcom/example/edictum/edictum/io/XpathTokens$Kind;" (.ref w15)) (E_w15 : Exa Z Z.heap w15 "com/example/edictum/edictum/io/XpathTokens$Kind") (Sg30 : Sta Z Z.heap "com/example/edictum/edictum/io/XpathTokens$Kind" "DOT_DOT" "Lcom/example/edictum/edictum/io/XpathTokens$Kind;" (.ref w16)) (E_w16 : Exa Z Z.heap w16 "com/example/edictum/edictum/io/XpathTokens$Kind") (Sg32 : Sta Z Z.heap "com/example/edictum/edictum/io/XpathTokens$Kind" "LITERAL" "Lcom/example/edictum/edictum/io/XpathTokens$Kind;" (.ref w17)) (E_w17 : Exa Z Z.heap w17 "com/example/edictum/edictum/io/XpathTokens$Kind") (Sg34 : Sta Z Z.heap "com/example/edictum/edictum/io/XpathTokens$Kind" "NUMBER" "Lcom/example/edictum/edictum/io/XpathTokens$Kind;" (.ref w18)) (E_w18 : Exa Z Z.heap w18 "com/example/edictum/edictum/io/XpathTokens$Kind") (F_w4_ordinal : Fld Z Z.heap w4 "java/lang/Enum" "ordinal" "I" (.int 3)) (F_w1_ordinal : Fld Z Z.heap w1 "java/lang/Enum" "ordinal" "I" (.int 0)) (F_w11_ordinal : Fld Z Z.heap w11 "java/lang/Enum" "ordinal" "I" (.int 10)) (F_w13_ordinal : Fld Z Z.heap w13 "java/lang/Enum" "ordinal" "I" (.int 12)) (F_w14_ordinal : Fld Z Z.heap w14 "java/lang/Enum" "ordinal" "I" (.int 13)) (F_w15_ordinal : Fld Z Z.heap w15 "java/lang/Enum" "ordinal" "I" (.int 14)) (F_w16_ordinal : Fld Z Z.heap w16 "java/lang/Enum" "ordinal" "I" (.int 15)) (F_w3_ordinal : Fld Z Z.heap w3 "java/lang/Enum" "ordinal" "I" (.int 2)) (F_w2_ordinal : Fld Z Z.heap w2 "java/lang/Enum" "ordinal" "I" (.int 1)) (F_w8_ordinal : Fld Z Z.heap w8 "java/lang/Enum" "ordinal" "I" (.int 7)) (F_w12_ordinal : Fld Z Z.heap w12 "java/lang/Enum" "ordinal" "I" (.int 11)) (F_w5_ordinal : Fld Z Z.heap w5 "java/lang/Enum" "ordinal" "I" (.int 4)) (F_w9_ordinal : Fld Z Z.heap w9 "java/lang/Enum" "ordinal" "I" (.int 8)) (F_w17_ordinal : Fld Z Z.heap w17 "java/lang/Enum" "ordinal" "I" (.int 16)) (F_w7_ordinal : Fld Z Z.heap w7 "java/lang/Enum" "ordinal" "I" (.int 6)) (F_w18_ordinal : Fld Z Z.heap w18 "java/lang/Enum" "ordinal" "I" (.int 17)) (F_w6_ordinal : Fld Z Z.heap w6 "java/lang/Enum" "ordinal" "I" (.int 5)) (F_w10_ordinal : Fld Z Z.heap w10 "java/lang/Enum" "ordinal" "I" (.int 9)) (P1 : Arv Z h0 o1 kk1 (.object "com/example/edictum/edictum/io/XpathTokens$Kind") (18 : Int32) [(.ref w1), (.ref w2), (.ref w3), (.ref w4), (.ref w5), (.ref w6), (.ref w7), (.ref w8), (.ref w9), (.ref w10), (.ref w11), (.ref w12), (.ref w13), (.ref w14), (.ref w15), (.ref w16), (.ref w17), (.ref w18)] .null) (P2 : Ovr Z kk1 "com/example/edictum/edictum/io/XpathTokens$Kind") (P3 : n0 ≤ o1) (P4 : o1 < h0.size) :
    Fin p e below s n0 (T0.setTop (mkF m 126 #[iv p0s, rv o1, .unset, .unset] [])) := by
  obtain ⟨T1, h1, k1, X1, e1, E1, A1, st1⟩ := newP X0 hx hZ (tw hw 40 rfl) e0 (g := (mkF m 128 #[iv p0s, rv o1, .unset, .unset] [(.int 18)])) rfl (hb hby at_128) rfl (by decide) (cap := 18) (by decide) (by decide) (by decide) (by decide)
  obtain ⟨b2, g1⟩ : ∃ z, z = h0.size := ⟨_, rfl⟩
  rw [← g1] at A1 st1
  have V1 : Arv Z h1 b2 k1 .boolean (18 : Int32) [(.int 0), (.int 0), (.int 0), (.int 0), (.int 0), (.int 0), (.int 0), (.int 0), (.int 0), (.int 0), (.int 0), (.int 0), (.int 0), (.int 0), (.int 0), (.int 0), (.int 0), (.int 0)] (.int (0 : Int32)) := (Arv.new A1 (by decide)).pad (pad_rep [] (.int (0 : Int32)) 18)
  obtain ⟨cl2, Ar2, q2, S2, N2z, H2, G2⟩ := V1
  have hin2 : ¬ ((0 : Int32) < 0 ∨ cl2.slots.size ≤ ((0 : Int32)).toNatClampNeg) := inb_of S2 ⟨by decide, by decide⟩
  obtain ⟨T3, h3, X3, e3, W3, st3⟩ := stZ X1 hx hZ e1 Ar2 (j := (0 : Int32)) hin2 (g := (mkF m 133 #[iv p0s, rv o1, .unset, .unset] [(.int 1), (.int 0), (.ref b2), (.ref b2)])) rfl rfl (hb hby at_133)
  have g_b2 : n0 ≤ b2 := Nat.le_trans Z0 (Nat.le_of_eq g1.symm)
  have N3 := Fr.snoc X3 N0 g_b2
  have V3 : Arv Z h3 b2 k1 .boolean (18 : Int32) [(.int 1), (.int 0), (.int 0), (.int 0), (.int 0), (.int 0), (.int 0), (.int 0), (.int 0), (.int 0), (.int 0), (.int 0), (.int 0), (.int 0), (.int 0), (.int 0), (.int 0), (.int 0)] (.int (0 : Int32)) := Arv.set Ar2 q2 S2 N2z H2 G2 (by decide) W3 0 rfl (Nat.le_of_ble_eq_true rfl)
  obtain ⟨cl4, Ar4, q4, S4, N4z, H4, G4⟩ := V3
  have hin4 : ¬ ((1 : Int32) < 0 ∨ cl4.slots.size ≤ ((1 : Int32)).toNatClampNeg) := inb_of S4 ⟨by decide, by decide⟩
  obtain ⟨T5, h5, X5, e5, W5, st5⟩ := stZ X3 hx hZ e3 Ar4 (j := (1 : Int32)) hin4 (g := (mkF m 137 #[iv p0s, rv o1, .unset, .unset] [(.int 0), (.int 1), (.ref b2), (.ref b2)])) rfl rfl (hb hby at_137)
  have N5 := Fr.snoc X5 N3 g_b2
  have V5 : Arv Z h5 b2 k1 .boolean (18 : Int32) [(.int 1), (.int 0), (.int 0), (.int 0), (.int 0), (.int 0), (.int 0), (.int 0), (.int 0), (.int 0), (.int 0), (.int 0), (.int 0), (.int 0), (.int 0), (.int 0), (.int 0), (.int 0)] (.int (0 : Int32)) := Arv.set Ar4 q4 S4 N4z H4 G4 (by decide) W5 1 rfl (Nat.le_of_ble_eq_true rfl)
  obtain ⟨cl6, Ar6, q6, S6, N6z, H6, G6⟩ := V5
  have hin6 : ¬ ((2 : Int32) < 0 ∨ cl6.slots.size ≤ ((2 : Int32)).toNatClampNeg) := inb_of S6 ⟨by decide, by decide⟩
  obtain ⟨T7, h7, X7, e7, W7, st7⟩ := stZ X5 hx hZ e5 Ar6 (j := (2 : Int32)) hin6 (g := (mkF m 141 #[iv p0s, rv o1, .unset, .unset] [(.int 0), (.int 2), (.ref b2), (.ref b2)])) rfl rfl (hb hby at_141)
  have N7 := Fr.snoc X7 N5 g_b2
  have V7 : Arv Z h7 b2 k1 .boolean (18 : Int32) [(.int 1), (.int 0), (.int 0), (.int 0), (.int 0), (.int 0), (.int 0), (.int 0), (.int 0), (.int 0), (.int 0), (.int 0), (.int 0), (.int 0), (.int 0), (.int 0), (.int 0), (.int 0)] (.int (0 : Int32)) := Arv.set Ar6 q6 S6 N6z H6 G6 (by decide) W7 2 rfl (Nat.le_of_ble_eq_true rfl)
  obtain ⟨cl8, Ar8, q8, S8, N8z, H8, G8⟩ := V7
  have hin8 : ¬ ((3 : Int32) < 0 ∨ cl8.slots.size ≤ ((3 : Int32)).toNatClampNeg) := inb_of S8 ⟨by decide, by decide⟩
  obtain ⟨T9, h9, X9, e9, W9, st9⟩ := stZ X7 hx hZ e7 Ar8 (j := (3 : Int32)) hin8 (g := (mkF m 145 #[iv p0s, rv o1, .unset, .unset] [(.int 0), (.int 3), (.ref b2), (.ref b2)])) rfl rfl (hb hby at_145)
  have N9 := Fr.snoc X9 N7 g_b2
  have V9 : Arv Z h9 b2 k1 .boolean (18 : Int32) [(.int 1), (.int 0), (.int 0), (.int 0), (.int 0), (.int 0), (.int 0), (.int 0), (.int 0), (.int 0), (.int 0), (.int 0), (.int 0), (.int 0), (.int 0), (.int 0), (.int 0), (.int 0)] (.int (0 : Int32)) := Arv.set Ar8 q8 S8 N8z H8 G8 (by decide) W9 3 rfl (Nat.le_of_ble_eq_true rfl)
  have F1_10 : Arv Z h1 o1 kk1 (.object "com/example/edictum/edictum/io/XpathTokens$Kind") (18 : Int32) [(.ref w1), (.ref w2), (.ref w3), (.ref w4), (.ref w5), (.ref w6), (.ref w7), (.ref w8), (.ref w9), (.ref w10), (.ref w11), (.ref w12), (.ref w13), (.ref w14), (.ref w15), (.ref w16), (.ref w17), (.ref w18)] .null := P1.ext E1
  have F2_11 : Arv Z h3 o1 kk1 (.object "com/example/edictum/edictum/io/XpathTokens$Kind") (18 : Int32) [(.ref w1), (.ref w2), (.ref w3), (.ref w4), (.ref w5), (.ref w6), (.ref w7), (.ref w8), (.ref w9), (.ref w10), (.ref w11), (.ref w12), (.ref w13), (.ref w14), (.ref w15), (.ref w16), (.ref w17), (.ref w18)] .null := F1_10.other W3 (Nat.ne_of_lt (Nat.lt_of_lt_of_le P4 (Nat.le_of_eq g1.symm)))
  have F3_12 : Arv Z h5 o1 kk1 (.object "com/example/edictum/edictum/io/XpathTokens$Kind") (18 : Int32) [(.ref w1), (.ref w2), (.ref w3), (.ref w4), (.ref w5), (.ref w6), (.ref w7), (.ref w8), (.ref w9), (.ref w10), (.ref w11), (.ref w12), (.ref w13), (.ref w14), (.ref w15), (.ref w16), (.ref w17), (.ref w18)] .null := F2_11.other W5 (Nat.ne_of_lt (Nat.lt_of_lt_of_le P4 (Nat.le_of_eq g1.symm)))
  have F4_13 : Arv Z h7 o1 kk1 (.object "com/example/edictum/edictum/io/XpathTokens$Kind") (18 : Int32) [(.ref w1), (.ref w2), (.ref w3), (.ref w4), (.ref w5), (.ref w6), (.ref w7), (.ref w8), (.ref w9), (.ref w10), (.ref w11), (.ref w12), (.ref w13), (.ref w14), (.ref w15), (.ref w16), (.ref w17), (.ref w18)] .null := F3_12.other W7 (Nat.ne_of_lt (Nat.lt_of_lt_of_le P4 (Nat.le_of_eq g1.symm)))
  have F5_14 : Arv Z h9 o1 kk1 (.object "com/example/edictum/edictum/io/XpathTokens$Kind") (18 : Int32) [(.ref w1), (.ref w2), (.ref w3), (.ref w4), (.ref w5), (.ref w6), (.ref w7), (.ref w8), (.ref w9), (.ref w10), (.ref w11), (.ref w12), (.ref w13), (.ref w14), (.ref w15), (.ref w16), (.ref w17), (.ref w18)] .null := F4_13.other W9 (Nat.ne_of_lt (Nat.lt_of_lt_of_le P4 (Nat.le_of_eq g1.symm)))
  have lt_o1_1 : o1 < h1.size := Nat.lt_of_lt_of_le P4 E1.1
  have lt_o1_2 : o1 < h3.size := Nat.lt_of_lt_of_le lt_o1_1 (Keep.of_wr W3).1
  have lt_o1_3 : o1 < h5.size := Nat.lt_of_lt_of_le lt_o1_2 (Keep.of_wr W5).1
  have lt_o1_4 : o1 < h7.size := Nat.lt_of_lt_of_le lt_o1_3 (Keep.of_wr W7).1
  have lt_o1_5 : o1 < h9.size := Nat.lt_of_lt_of_le lt_o1_4 (Keep.of_wr W9).1
  have lt_b2_2 : b2 < h3.size := Nat.lt_of_lt_of_le A1.lt (Keep.of_wr W3).1
  have lt_b2_3 : b2 < h5.size := Nat.lt_of_lt_of_le lt_b2_2 (Keep.of_wr W5).1
  have lt_b2_4 : b2 < h7.size := Nat.lt_of_lt_of_le lt_b2_3 (Keep.of_wr W7).1
  have lt_b2_5 : b2 < h9.size := Nat.lt_of_lt_of_le lt_b2_4 (Keep.of_wr W9).1
  have Z1 : n0 ≤ h1.size := Nat.le_trans Z0 E1.1
  have Z3 : n0 ≤ h3.size := Nat.le_trans Z1 (Keep.of_wr W3).1
  have Z5 : n0 ≤ h5.size := Nat.le_trans Z3 (Keep.of_wr W5).1
  have Z7 : n0 ≤ h7.size := Nat.le_trans Z5 (Keep.of_wr W7).1
  have Z9 : n0 ≤ h9.size := Nat.le_trans Z7 (Keep.of_wr W9).1
  have O1 : Old Z n0 h1 := O0.ext E1
  have O3 : Old Z n0 h3 := O1.wr W3 g_b2
  have O5 : Old Z n0 h5 := O3.wr W5 g_b2
  have O7 : Old Z n0 h7 := O5.wr W7 g_b2
  have O9 : Old Z n0 h9 := O7.wr W9 g_b2
  refine Fin.pre (fun t k => ?_) (pc_6 (o1 := o1) (o2 := b2) (kk1 := kk1) (kk2 := k1) X9 hx hZ hw hby hml hown hre hlk e9 N9 Z9 O9 Sg0 E_w1 Sg2 E_w2 Sg4 E_w3 Sg6 E_w4 Sg8 E_w5 Sg10 E_w6 Sg12 E_w7 Sg14 E_w8 Sg16 E_w9 Sg18 E_w10 Sg20 E_w11 Sg22 E_w12 Sg24 E_w13 Sg26 E_w14 Sg28 E_w15 Sg30 E_w16 Sg32 E_w17 Sg34 E_w18 F_w4_ordinal F_w1_ordinal F_w11_ordinal F_w13_ordinal F_w14_ordinal F_w15_ordinal F_w16_ordinal F_w3_ordinal F_w2_ordinal F_w8_ordinal F_w12_ordinal F_w5_ordinal F_w9_ordinal F_w17_ordinal F_w7_ordinal F_w18_ordinal F_w6_ordinal F_w10_ordinal F5_14 P2 V9 P3 lt_o1_5 g_b2 lt_b2_5 (Nat.ne_of_lt (Nat.lt_of_lt_of_le P4 (Nat.le_of_eq g1.symm))))
  show SF p e below T0 (mkF m 126 #[iv p0s, rv o1, .unset, .unset] []) _
  refine XS.bipush X0.here hx rfl (hb hby at_126) ?_
  show SF p e below T0 (mkF m 128 #[iv p0s, rv o1, .unset, .unset] [(.int 18)]) _
  refine st1 _ ?_
  show SF p e below T1 (mkF m 130 #[iv p0s, rv o1, .unset, .unset] [(.ref b2)]) _
  refine XS.dup X1.here hx rfl (hb hby at_130) rfl rfl ?_
  show SF p e below T1 (mkF m 131 #[iv p0s, rv o1, .unset, .unset] [(.ref b2), (.ref b2)]) _
  refine XS.iconst X1.here hx rfl (hb hby at_131) ?_
  show SF p e below T1 (mkF m 132 #[iv p0s, rv o1, .unset, .unset] [(.int 0), (.ref b2), (.ref b2)]) _
  refine XS.iconst X1.here hx rfl (hb hby at_132) ?_
  show SF p e below T1 (mkF m 133 #[iv p0s, rv o1, .unset, .unset] [(.int 1), (.int 0), (.ref b2), (.ref b2)]) _
  refine st3 _ ?_
  show SF p e below T3 (mkF m 134 #[iv p0s, rv o1, .unset, .unset] [(.ref b2)]) _
  refine XS.dup X3.here hx rfl (hb hby at_134) rfl rfl ?_
  show SF p e below T3 (mkF m 135 #[iv p0s, rv o1, .unset, .unset] [(.ref b2), (.ref b2)]) _
  refine XS.iconst X3.here hx rfl (hb hby at_135) ?_
  show SF p e below T3 (mkF m 136 #[iv p0s, rv o1, .unset, .unset] [(.int 1), (.ref b2), (.ref b2)]) _
  refine XS.iconst X3.here hx rfl (hb hby at_136) ?_
  show SF p e below T3 (mkF m 137 #[iv p0s, rv o1, .unset, .unset] [(.int 0), (.int 1), (.ref b2), (.ref b2)]) _
  refine st5 _ ?_
  show SF p e below T5 (mkF m 138 #[iv p0s, rv o1, .unset, .unset] [(.ref b2)]) _
  refine XS.dup X5.here hx rfl (hb hby at_138) rfl rfl ?_
  show SF p e below T5 (mkF m 139 #[iv p0s, rv o1, .unset, .unset] [(.ref b2), (.ref b2)]) _
  refine XS.iconst X5.here hx rfl (hb hby at_139) ?_
  show SF p e below T5 (mkF m 140 #[iv p0s, rv o1, .unset, .unset] [(.int 2), (.ref b2), (.ref b2)]) _
  refine XS.iconst X5.here hx rfl (hb hby at_140) ?_
  show SF p e below T5 (mkF m 141 #[iv p0s, rv o1, .unset, .unset] [(.int 0), (.int 2), (.ref b2), (.ref b2)]) _
  refine st7 _ ?_
  show SF p e below T7 (mkF m 142 #[iv p0s, rv o1, .unset, .unset] [(.ref b2)]) _
  refine XS.dup X7.here hx rfl (hb hby at_142) rfl rfl ?_
  show SF p e below T7 (mkF m 143 #[iv p0s, rv o1, .unset, .unset] [(.ref b2), (.ref b2)]) _
  refine XS.iconst X7.here hx rfl (hb hby at_143) ?_
  show SF p e below T7 (mkF m 144 #[iv p0s, rv o1, .unset, .unset] [(.int 3), (.ref b2), (.ref b2)]) _
  refine XS.iconst X7.here hx rfl (hb hby at_144) ?_
  show SF p e below T7 (mkF m 145 #[iv p0s, rv o1, .unset, .unset] [(.int 0), (.int 3), (.ref b2), (.ref b2)]) _
  refine st9 _ ?_
  exact k
set_option maxRecDepth 65536 in
set_option maxHeartbeats 400000000 in
theorem pc_4 {p : Program} {l : Launch} {e : Env} {s : State} {m : MethodId} {below : List Frame} {meth : Method} {c : Code} {T0 : State} {locs : List Loc} {Z : State} {a0 : Array Value} {h0 : Heap} {n0 : Nat} {p0s : Int32} {w1 : Addr} {w2 : Addr} {w3 : Addr} {w4 : Addr} {w5 : Addr} {w6 : Addr} {w7 : Addr} {w8 : Addr} {w9 : Addr} {w10 : Addr} {w11 : Addr} {w12 : Addr} {w13 : Addr} {w14 : Addr} {w15 : Addr} {w16 : Addr} {w17 : Addr} {w18 : Addr} {o1 : Addr} {kk1 : ClassId} (X0 : Stand p l e room_1 s m #[(.int p0s)] below meth c T0 locs 1 18) (hx : p.tables.exec = Jvm.exec) (hZ : Z.Warmed39 s.vm) (hw : HW Z a0) (hby : c.code = code) (hml : c.maxLocals = 4) (hown : s.vm.findClass "com/example/edictum/edictum/io/KindBeginsStepPinLaw" = some m.cls) (hre : meth.sig.returnType = some .boolean) (hlk : meth.locks = false) (e0 : T0.heap = h0) (N0 : Fr n0 locs) (Z0 : n0 ≤ h0.size) (O0 : Old Z n0 h0) (Sg0 : Sta Z Z.heap "com/example/edictum/edictum/io/XpathTokens$Kind" "AT" "Lcom/example/edictum/edictum/io/XpathTokens$Kind;" (.ref w1)) (E_w1 : Exa Z Z.heap w1 "com/example/edictum/edictum/io/XpathTokens$Kind") (Sg2 : Sta Z Z.heap "com/example/edictum/edictum/io/XpathTokens$Kind" "AXIS_SEPARATOR" "Lcom/example/edictum/edictum/io/XpathTokens$Kind;" (.ref w2)) (E_w2 : Exa Z Z.heap w2 "com/example/edictum/edictum/io/XpathTokens$Kind") (Sg4 : Sta Z Z.heap "com/example/edictum/edictum/io/XpathTokens$Kind" "LEFT_PAREN" "Lcom/example/edictum/edictum/io/XpathTokens$Kind;" (.ref w3)) (E_w3 : Exa Z Z.heap w3 "com/example/edictum/edictum/io/XpathTokens$Kind") (Sg6 : Sta Z Z.heap "com/example/edictum/edictum/io/XpathTokens$Kind" "LEFT_BRACKET" "Lcom/example/edictum/edictum/io/XpathTokens$Kind;" (.ref w4)) (E_w4 : Exa Z Z.heap w4 "com/example/edictum/edictum/io/XpathTokens$Kind") (Sg8 : Sta Z Z.heap "com/example/edictum/edictum/io/XpathTokens$Kind" "COMMA" "Lcom/example/edictum/edictum/io/XpathTokens$Kind;" (.ref w5)) (E_w5 : Exa Z Z.heap w5 "com/example/edictum/edictum/io/XpathTokens$Kind") (Sg10 : Sta Z Z.heap "com/example/edictum/edictum/io/XpathTokens$Kind" "RIGHT_PAREN" "Lcom/example/edictum/edictum/io/XpathTokens$Kind;" (.ref w6)) (E_w6 : Exa Z Z.heap w6 "com/example/edictum/edictum/io/XpathTokens$Kind") (Sg12 : Sta Z Z.heap "com/example/edictum/edictum/io/XpathTokens$Kind" "RIGHT_BRACKET" "Lcom/example/edictum/edictum/io/XpathTokens$Kind;" (.ref w7)) (E_w7 : Exa Z Z.heap w7 "com/example/edictum/edictum/io/XpathTokens$Kind") (Sg14 : Sta Z Z.heap "com/example/edictum/edictum/io/XpathTokens$Kind" "SLASH" "Lcom/example/edictum/edictum/io/XpathTokens$Kind;" (.ref w8)) (E_w8 : Exa Z Z.heap w8 "com/example/edictum/edictum/io/XpathTokens$Kind") (Sg16 : Sta Z Z.heap "com/example/edictum/edictum/io/XpathTokens$Kind" "DOUBLE_SLASH" "Lcom/example/edictum/edictum/io/XpathTokens$Kind;" (.ref w9)) (E_w9 : Exa Z Z.heap w9 "com/example/edictum/edictum/io/XpathTokens$Kind") (Sg18 : Sta Z Z.heap "com/example/edictum/edictum/io/XpathTokens$Kind" "OPERATOR" "Lcom/example/edictum/edictum/io/XpathTokens$Kind;" (.ref w10)) (E_w10 : Exa Z Z.heap w10 "com/example/edictum/edictum/io/XpathTokens$Kind") (Sg20 : Sta Z Z.heap "com/example/edictum/edictum/io/XpathTokens$Kind" "AXIS" "Lcom/example/edictum/edictum/io/XpathTokens$Kind;" (.ref w11)) (E_w11 : Exa Z Z.heap w11 "com/example/edictum/edictum/io/XpathTokens$Kind") (Sg22 : Sta Z Z.heap "com/example/edictum/edictum/io/XpathTokens$Kind" "FUNCTION" "Lcom/example/edictum/edictum/io/XpathTokens$Kind;" (.ref w12)) (E_w12 : Exa Z Z.heap w12 "com/example/edictum/edictum/io/XpathTokens$Kind") (Sg24 : Sta Z Z.heap "com/example/edictum/edictum/io/XpathTokens$Kind" "NODE_TYPE" "Lcom/example/edictum/edictum/io/XpathTokens$Kind;" (.ref w13)) (E_w13 : Exa Z Z.heap w13 "com/example/edictum/edictum/io/XpathTokens$Kind") (Sg26 : Sta Z Z.heap "com/example/edictum/edictum/io/XpathTokens$Kind" "NAME_TEST" "Lcom/example/edictum/edictum/io/XpathTokens$Kind;" (.ref w14)) (E_w14 : Exa Z Z.heap w14 "com/example/edictum/edictum/io/XpathTokens$Kind") (Sg28 : Sta Z Z.heap "com/example/edictum/edictum/io/XpathTokens$Kind" "DOT" "Lcom/example/edictum/edictum/io/XpathTokens$Kind;" (.ref w15)) (E_w15 : Exa Z Z.heap w15 "com/example/edictum/edictum/io/XpathTokens$Kind") (Sg30 : Sta Z Z.heap "com/example/edictum/edictum/io/XpathTokens$Kind" "DOT_DOT" "Lcom/example/edictum/edictum/io/XpathTokens$Kind;" (.ref w16)) (E_w16 : Exa Z Z.heap w16 "com/example/edictum/edictum/io/XpathTokens$Kind") (Sg32 : Sta Z Z.heap "com/example/edictum/edictum/io/XpathTokens$Kind" "LITERAL" "Lcom/example/edictum/edictum/io/XpathTokens$Kind;" (.ref w17)) (E_w17 : Exa Z Z.heap w17 "com/example/edictum/edictum/io/XpathTokens$Kind") (Sg34 : Sta Z Z.heap "com/example/edictum/edictum/io/XpathTokens$Kind" "NUMBER" "Lcom/example/edictum/edictum/io/XpathTokens$Kind;" (.ref w18)) (E_w18 : Exa Z Z.heap w18 "com/example/edictum/edictum/io/XpathTokens$Kind") (F_w4_ordinal : Fld Z Z.heap w4 "java/lang/Enum" "ordinal" "I" (.int 3)) (F_w1_ordinal : Fld Z Z.heap w1 "java/lang/Enum" "ordinal" "I" (.int 0)) (F_w11_ordinal : Fld Z Z.heap w11 "java/lang/Enum" "ordinal" "I" (.int 10)) (F_w13_ordinal : Fld Z Z.heap w13 "java/lang/Enum" "ordinal" "I" (.int 12)) (F_w14_ordinal : Fld Z Z.heap w14 "java/lang/Enum" "ordinal" "I" (.int 13)) (F_w15_ordinal : Fld Z Z.heap w15 "java/lang/Enum" "ordinal" "I" (.int 14)) (F_w16_ordinal : Fld Z Z.heap w16 "java/lang/Enum" "ordinal" "I" (.int 15)) (F_w3_ordinal : Fld Z Z.heap w3 "java/lang/Enum" "ordinal" "I" (.int 2)) (F_w2_ordinal : Fld Z Z.heap w2 "java/lang/Enum" "ordinal" "I" (.int 1)) (F_w8_ordinal : Fld Z Z.heap w8 "java/lang/Enum" "ordinal" "I" (.int 7)) (F_w12_ordinal : Fld Z Z.heap w12 "java/lang/Enum" "ordinal" "I" (.int 11)) (F_w5_ordinal : Fld Z Z.heap w5 "java/lang/Enum" "ordinal" "I" (.int 4)) (F_w9_ordinal : Fld Z Z.heap w9 "java/lang/Enum" "ordinal" "I" (.int 8)) (F_w17_ordinal : Fld Z Z.heap w17 "java/lang/Enum" "ordinal" "I" (.int 16)) (F_w7_ordinal : Fld Z Z.heap w7 "java/lang/Enum" "ordinal" "I" (.int 6)) (F_w18_ordinal : Fld Z Z.heap w18 "java/lang/Enum" "ordinal" "I" (.int 17)) (F_w6_ordinal : Fld Z Z.heap w6 "java/lang/Enum" "ordinal" "I" (.int 5)) (F_w10_ordinal : Fld Z Z.heap w10 "java/lang/Enum" "ordinal" "I" (.int 9)) (P1 : Arv Z h0 o1 kk1 (.object "com/example/edictum/edictum/io/XpathTokens$Kind") (18 : Int32) [(.ref w1), (.ref w2), (.ref w3), (.ref w4), (.ref w5), (.ref w6), (.ref w7), (.ref w8), (.ref w9), (.ref w10), (.ref w11), (.ref w12), (.ref w13), (.ref w14), (.ref w15), (.ref w16), .null, .null] .null) (P2 : Ovr Z kk1 "com/example/edictum/edictum/io/XpathTokens$Kind") (P3 : n0 ≤ o1) (P4 : o1 < h0.size) :
    Fin p e below s n0 (T0.setTop (mkF m 111 #[iv p0s, .unset, .unset, .unset] [(.ref o1)])) := by
  obtain ⟨T1, X1, e1, st1⟩ := getS2 X0 hx hZ hown (host := "") (Or.inl (tw hw 36 rfl)) Via.refl e0 (Sg32.ext O0.2) (g := (mkF m 114 #[iv p0s, .unset, .unset, .unset] [(.int 16), (.ref o1), (.ref o1)])) rfl (hb hby at_114)
  obtain ⟨cl2, Ar2, q2, S2, N2z, H2, G2⟩ := P1
  have hin2 : ¬ ((16 : Int32) < 0 ∨ cl2.slots.size ≤ ((16 : Int32)).toNatClampNeg) := inb_of S2 ⟨by decide, by decide⟩
  obtain ⟨T3, h3, X3, e3, W3, st3⟩ := stR X1 hx hZ e1 Ar2 (j := (16 : Int32)) hin2 rfl (Sto.ofV Ar2 q2 P2 (Ins.self (E_w17.ext O0.2))) (g := (mkF m 117 #[iv p0s, .unset, .unset, .unset] [(.ref w17), (.int 16), (.ref o1), (.ref o1)])) rfl rfl (hb hby at_117)
  have N3 := Fr.snoc X3 N0 P3
  have V3 : Arv Z h3 o1 kk1 (.object "com/example/edictum/edictum/io/XpathTokens$Kind") (18 : Int32) [(.ref w1), (.ref w2), (.ref w3), (.ref w4), (.ref w5), (.ref w6), (.ref w7), (.ref w8), (.ref w9), (.ref w10), (.ref w11), (.ref w12), (.ref w13), (.ref w14), (.ref w15), (.ref w16), (.ref w17), .null] .null := Arv.set Ar2 q2 S2 N2z H2 G2 rfl W3 16 rfl (Nat.le_of_ble_eq_true rfl)
  have O3 : Old Z n0 h3 := O0.wr W3 P3
  obtain ⟨T4, X4, e4, st4⟩ := getS2 X3 hx hZ hown (host := "") (Or.inl (tw hw 38 rfl)) Via.refl e3 (Sg34.ext O3.2) (g := (mkF m 121 #[iv p0s, .unset, .unset, .unset] [(.int 17), (.ref o1), (.ref o1)])) rfl (hb hby at_121)
  obtain ⟨cl5, Ar5, q5, S5, N5z, H5, G5⟩ := V3
  have hin5 : ¬ ((17 : Int32) < 0 ∨ cl5.slots.size ≤ ((17 : Int32)).toNatClampNeg) := inb_of S5 ⟨by decide, by decide⟩
  obtain ⟨T6, h6, X6, e6, W6, st6⟩ := stR X4 hx hZ e4 Ar5 (j := (17 : Int32)) hin5 rfl (Sto.ofV Ar5 q5 P2 (Ins.self (E_w18.ext O3.2))) (g := (mkF m 124 #[iv p0s, .unset, .unset, .unset] [(.ref w18), (.int 17), (.ref o1), (.ref o1)])) rfl rfl (hb hby at_124)
  have N6 := Fr.snoc X6 N3 P3
  have V6 : Arv Z h6 o1 kk1 (.object "com/example/edictum/edictum/io/XpathTokens$Kind") (18 : Int32) [(.ref w1), (.ref w2), (.ref w3), (.ref w4), (.ref w5), (.ref w6), (.ref w7), (.ref w8), (.ref w9), (.ref w10), (.ref w11), (.ref w12), (.ref w13), (.ref w14), (.ref w15), (.ref w16), (.ref w17), (.ref w18)] .null := Arv.set Ar5 q5 S5 N5z H5 G5 rfl W6 17 rfl (Nat.le_of_ble_eq_true rfl)
  have lt_o1_1 : o1 < h3.size := Nat.lt_of_lt_of_le P4 (Keep.of_wr W3).1
  have lt_o1_2 : o1 < h6.size := Nat.lt_of_lt_of_le lt_o1_1 (Keep.of_wr W6).1
  have Z3 : n0 ≤ h3.size := Nat.le_trans Z0 (Keep.of_wr W3).1
  have Z6 : n0 ≤ h6.size := Nat.le_trans Z3 (Keep.of_wr W6).1
  have O6 : Old Z n0 h6 := O3.wr W6 P3
  refine Fin.pre (fun t k => ?_) (pc_5 (o1 := o1) (kk1 := kk1) X6 hx hZ hw hby hml hown hre hlk e6 N6 Z6 O6 Sg0 E_w1 Sg2 E_w2 Sg4 E_w3 Sg6 E_w4 Sg8 E_w5 Sg10 E_w6 Sg12 E_w7 Sg14 E_w8 Sg16 E_w9 Sg18 E_w10 Sg20 E_w11 Sg22 E_w12 Sg24 E_w13 Sg26 E_w14 Sg28 E_w15 Sg30 E_w16 Sg32 E_w17 Sg34 E_w18 F_w4_ordinal F_w1_ordinal F_w11_ordinal F_w13_ordinal F_w14_ordinal F_w15_ordinal F_w16_ordinal F_w3_ordinal F_w2_ordinal F_w8_ordinal F_w12_ordinal F_w5_ordinal F_w9_ordinal F_w17_ordinal F_w7_ordinal F_w18_ordinal F_w6_ordinal F_w10_ordinal V6 P2 P3 lt_o1_2)
  show SF p e below T0 (mkF m 111 #[iv p0s, .unset, .unset, .unset] [(.ref o1)]) _
  refine XS.dup X0.here hx rfl (hb hby at_111) rfl rfl ?_
  show SF p e below T0 (mkF m 112 #[iv p0s, .unset, .unset, .unset] [(.ref o1), (.ref o1)]) _
  refine XS.bipush X0.here hx rfl (hb hby at_112) ?_
  show SF p e below T0 (mkF m 114 #[iv p0s, .unset, .unset, .unset] [(.int 16), (.ref o1), (.ref o1)]) _
  refine st1 _ ?_
  show SF p e below T1 (mkF m 117 #[iv p0s, .unset, .unset, .unset] [(.ref w17), (.int 16), (.ref o1), (.ref o1)]) _
  refine st3 _ ?_
  show SF p e below T3 (mkF m 118 #[iv p0s, .unset, .unset, .unset] [(.ref o1)]) _
  refine XS.dup X3.here hx rfl (hb hby at_118) rfl rfl ?_
  show SF p e below T3 (mkF m 119 #[iv p0s, .unset, .unset, .unset] [(.ref o1), (.ref o1)]) _
  refine XS.bipush X3.here hx rfl (hb hby at_119) ?_
  show SF p e below T3 (mkF m 121 #[iv p0s, .unset, .unset, .unset] [(.int 17), (.ref o1), (.ref o1)]) _
  refine st4 _ ?_
  show SF p e below T4 (mkF m 124 #[iv p0s, .unset, .unset, .unset] [(.ref w18), (.int 17), (.ref o1), (.ref o1)]) _
  refine st6 _ ?_
  show SF p e below T6 (mkF m 125 #[iv p0s, .unset, .unset, .unset] [(.ref o1)]) _
  refine XS.astoreN X6.here hx rfl (hb hby at_125) rfl rfl (l' := #[iv p0s, rv o1, .unset, .unset]) rfl ?_
  exact k
set_option maxRecDepth 65536 in
set_option maxHeartbeats 400000000 in
theorem pc_3 {p : Program} {l : Launch} {e : Env} {s : State} {m : MethodId} {below : List Frame} {meth : Method} {c : Code} {T0 : State} {locs : List Loc} {Z : State} {a0 : Array Value} {h0 : Heap} {n0 : Nat} {p0s : Int32} {w1 : Addr} {w2 : Addr} {w3 : Addr} {w4 : Addr} {w5 : Addr} {w6 : Addr} {w7 : Addr} {w8 : Addr} {w9 : Addr} {w10 : Addr} {w11 : Addr} {w12 : Addr} {w13 : Addr} {w14 : Addr} {w15 : Addr} {w16 : Addr} {w17 : Addr} {w18 : Addr} {o1 : Addr} {kk1 : ClassId} (X0 : Stand p l e room_1 s m #[(.int p0s)] below meth c T0 locs 1 18) (hx : p.tables.exec = Jvm.exec) (hZ : Z.Warmed39 s.vm) (hw : HW Z a0) (hby : c.code = code) (hml : c.maxLocals = 4) (hown : s.vm.findClass "com/example/edictum/edictum/io/KindBeginsStepPinLaw" = some m.cls) (hre : meth.sig.returnType = some .boolean) (hlk : meth.locks = false) (e0 : T0.heap = h0) (N0 : Fr n0 locs) (Z0 : n0 ≤ h0.size) (O0 : Old Z n0 h0) (Sg0 : Sta Z Z.heap "com/example/edictum/edictum/io/XpathTokens$Kind" "AT" "Lcom/example/edictum/edictum/io/XpathTokens$Kind;" (.ref w1)) (E_w1 : Exa Z Z.heap w1 "com/example/edictum/edictum/io/XpathTokens$Kind") (Sg2 : Sta Z Z.heap "com/example/edictum/edictum/io/XpathTokens$Kind" "AXIS_SEPARATOR" "Lcom/example/edictum/edictum/io/XpathTokens$Kind;" (.ref w2)) (E_w2 : Exa Z Z.heap w2 "com/example/edictum/edictum/io/XpathTokens$Kind") (Sg4 : Sta Z Z.heap "com/example/edictum/edictum/io/XpathTokens$Kind" "LEFT_PAREN" "Lcom/example/edictum/edictum/io/XpathTokens$Kind;" (.ref w3)) (E_w3 : Exa Z Z.heap w3 "com/example/edictum/edictum/io/XpathTokens$Kind") (Sg6 : Sta Z Z.heap "com/example/edictum/edictum/io/XpathTokens$Kind" "LEFT_BRACKET" "Lcom/example/edictum/edictum/io/XpathTokens$Kind;" (.ref w4)) (E_w4 : Exa Z Z.heap w4 "com/example/edictum/edictum/io/XpathTokens$Kind") (Sg8 : Sta Z Z.heap "com/example/edictum/edictum/io/XpathTokens$Kind" "COMMA" "Lcom/example/edictum/edictum/io/XpathTokens$Kind;" (.ref w5)) (E_w5 : Exa Z Z.heap w5 "com/example/edictum/edictum/io/XpathTokens$Kind") (Sg10 : Sta Z Z.heap "com/example/edictum/edictum/io/XpathTokens$Kind" "RIGHT_PAREN" "Lcom/example/edictum/edictum/io/XpathTokens$Kind;" (.ref w6)) (E_w6 : Exa Z Z.heap w6 "com/example/edictum/edictum/io/XpathTokens$Kind") (Sg12 : Sta Z Z.heap "com/example/edictum/edictum/io/XpathTokens$Kind" "RIGHT_BRACKET" "Lcom/example/edictum/edictum/io/XpathTokens$Kind;" (.ref w7)) (E_w7 : Exa Z Z.heap w7 "com/example/edictum/edictum/io/XpathTokens$Kind") (Sg14 : Sta Z Z.heap "com/example/edictum/edictum/io/XpathTokens$Kind" "SLASH" "Lcom/example/edictum/edictum/io/XpathTokens$Kind;" (.ref w8)) (E_w8 : Exa Z Z.heap w8 "com/example/edictum/edictum/io/XpathTokens$Kind") (Sg16 : Sta Z Z.heap "com/example/edictum/edictum/io/XpathTokens$Kind" "DOUBLE_SLASH" "Lcom/example/edictum/edictum/io/XpathTokens$Kind;" (.ref w9)) (E_w9 : Exa Z Z.heap w9 "com/example/edictum/edictum/io/XpathTokens$Kind") (Sg18 : Sta Z Z.heap "com/example/edictum/edictum/io/XpathTokens$Kind" "OPERATOR" "Lcom/example/edictum/edictum/io/XpathTokens$Kind;" (.ref w10)) (E_w10 : Exa Z Z.heap w10 "com/example/edictum/edictum/io/XpathTokens$Kind") (Sg20 : Sta Z Z.heap "com/example/edictum/edictum/io/XpathTokens$Kind" "AXIS" "Lcom/example/edictum/edictum/io/XpathTokens$Kind;" (.ref w11)) (E_w11 : Exa Z Z.heap w11 "com/example/edictum/edictum/io/XpathTokens$Kind") (Sg22 : Sta Z Z.heap "com/example/edictum/edictum/io/XpathTokens$Kind" "FUNCTION" "Lcom/example/edictum/edictum/io/XpathTokens$Kind;" (.ref w12)) (E_w12 : Exa Z Z.heap w12 "com/example/edictum/edictum/io/XpathTokens$Kind") (Sg24 : Sta Z Z.heap "com/example/edictum/edictum/io/XpathTokens$Kind" "NODE_TYPE" "Lcom/example/edictum/edictum/io/XpathTokens$Kind;" (.ref w13)) (E_w13 : Exa Z Z.heap w13 "com/example/edictum/edictum/io/XpathTokens$Kind") (Sg26 : Sta Z Z.heap "com/example/edictum/edictum/io/XpathTokens$Kind" "NAME_TEST" "Lcom/example/edictum/edictum/io/XpathTokens$Kind;" (.ref w14)) (E_w14 : Exa Z Z.heap w14 "com/example/edictum/edictum/io/XpathTokens$Kind") (Sg28 : Sta Z Z.heap "com/example/edictum/edictum/io/XpathTokens$Kind" "DOT" "Lcom/example/edictum/edictum/io/XpathTokens$Kind;" (.ref w15)) (E_w15 : Exa Z Z.heap w15 "com/example/edictum/edictum/io/XpathTokens$Kind") (Sg30 : Sta Z Z.heap "com/example/edictum/edictum/io/XpathTokens$Kind" "DOT_DOT" "Lcom/example/edictum/edictum/io/XpathTokens$Kind;" (.ref w16)) (E_w16 : Exa Z Z.heap w16 "com/example/edictum/edictum/io/XpathTokens$Kind") (Sg32 : Sta Z Z.heap "com/example/edictum/edictum/io/XpathTokens$Kind" "LITERAL" "Lcom/example/edictum/edictum/io/XpathTokens$Kind;" (.ref w17)) (E_w17 : Exa Z Z.heap w17 "com/example/edictum/edictum/io/XpathTokens$Kind") (Sg34 : Sta Z Z.heap "com/example/edictum/edictum/io/XpathTokens$Kind" "NUMBER" "Lcom/example/edictum/edictum/io/XpathTokens$Kind;" (.ref w18)) (E_w18 : Exa Z Z.heap w18 "com/example/edictum/edictum/io/XpathTokens$Kind") (F_w4_ordinal : Fld Z Z.heap w4 "java/lang/Enum" "ordinal" "I" (.int 3)) (F_w1_ordinal : Fld Z Z.heap w1 "java/lang/Enum" "ordinal" "I" (.int 0)) (F_w11_ordinal : Fld Z Z.heap w11 "java/lang/Enum" "ordinal" "I" (.int 10)) (F_w13_ordinal : Fld Z Z.heap w13 "java/lang/Enum" "ordinal" "I" (.int 12)) (F_w14_ordinal : Fld Z Z.heap w14 "java/lang/Enum" "ordinal" "I" (.int 13)) (F_w15_ordinal : Fld Z Z.heap w15 "java/lang/Enum" "ordinal" "I" (.int 14)) (F_w16_ordinal : Fld Z Z.heap w16 "java/lang/Enum" "ordinal" "I" (.int 15)) (F_w3_ordinal : Fld Z Z.heap w3 "java/lang/Enum" "ordinal" "I" (.int 2)) (F_w2_ordinal : Fld Z Z.heap w2 "java/lang/Enum" "ordinal" "I" (.int 1)) (F_w8_ordinal : Fld Z Z.heap w8 "java/lang/Enum" "ordinal" "I" (.int 7)) (F_w12_ordinal : Fld Z Z.heap w12 "java/lang/Enum" "ordinal" "I" (.int 11)) (F_w5_ordinal : Fld Z Z.heap w5 "java/lang/Enum" "ordinal" "I" (.int 4)) (F_w9_ordinal : Fld Z Z.heap w9 "java/lang/Enum" "ordinal" "I" (.int 8)) (F_w17_ordinal : Fld Z Z.heap w17 "java/lang/Enum" "ordinal" "I" (.int 16)) (F_w7_ordinal : Fld Z Z.heap w7 "java/lang/Enum" "ordinal" "I" (.int 6)) (F_w18_ordinal : Fld Z Z.heap w18 "java/lang/Enum" "ordinal" "I" (.int 17)) (F_w6_ordinal : Fld Z Z.heap w6 "java/lang/Enum" "ordinal" "I" (.int 5)) (F_w10_ordinal : Fld Z Z.heap w10 "java/lang/Enum" "ordinal" "I" (.int 9)) (P1 : Arv Z h0 o1 kk1 (.object "com/example/edictum/edictum/io/XpathTokens$Kind") (18 : Int32) [(.ref w1), (.ref w2), (.ref w3), (.ref w4), (.ref w5), (.ref w6), (.ref w7), (.ref w8), (.ref w9), (.ref w10), (.ref w11), (.ref w12), .null, .null, .null, .null, .null, .null] .null) (P2 : Ovr Z kk1 "com/example/edictum/edictum/io/XpathTokens$Kind") (P3 : n0 ≤ o1) (P4 : o1 < h0.size) :
    Fin p e below s n0 (T0.setTop (mkF m 83 #[iv p0s, .unset, .unset, .unset] [(.ref o1)])) := by
  obtain ⟨T1, X1, e1, st1⟩ := getS2 X0 hx hZ hown (host := "") (Or.inl (tw hw 28 rfl)) Via.refl e0 (Sg24.ext O0.2) (g := (mkF m 86 #[iv p0s, .unset, .unset, .unset] [(.int 12), (.ref o1), (.ref o1)])) rfl (hb hby at_86)
  obtain ⟨cl2, Ar2, q2, S2, N2z, H2, G2⟩ := P1
  have hin2 : ¬ ((12 : Int32) < 0 ∨ cl2.slots.size ≤ ((12 : Int32)).toNatClampNeg) := inb_of S2 ⟨by decide, by decide⟩
  obtain ⟨T3, h3, X3, e3, W3, st3⟩ := stR X1 hx hZ e1 Ar2 (j := (12 : Int32)) hin2 rfl (Sto.ofV Ar2 q2 P2 (Ins.self (E_w13.ext O0.2))) (g := (mkF m 89 #[iv p0s, .unset, .unset, .unset] [(.ref w13), (.int 12), (.ref o1), (.ref o1)])) rfl rfl (hb hby at_89)
  have N3 := Fr.snoc X3 N0 P3
  have V3 : Arv Z h3 o1 kk1 (.object "com/example/edictum/edictum/io/XpathTokens$Kind") (18 : Int32) [(.ref w1), (.ref w2), (.ref w3), (.ref w4), (.ref w5), (.ref w6), (.ref w7), (.ref w8), (.ref w9), (.ref w10), (.ref w11), (.ref w12), (.ref w13), .null, .null, .null, .null, .null] .null := Arv.set Ar2 q2 S2 N2z H2 G2 rfl W3 12 rfl (Nat.le_of_ble_eq_true rfl)
  have O3 : Old Z n0 h3 := O0.wr W3 P3
  obtain ⟨T4, X4, e4, st4⟩ := getS2 X3 hx hZ hown (host := "") (Or.inl (tw hw 30 rfl)) Via.refl e3 (Sg26.ext O3.2) (g := (mkF m 93 #[iv p0s, .unset, .unset, .unset] [(.int 13), (.ref o1), (.ref o1)])) rfl (hb hby at_93)
  obtain ⟨cl5, Ar5, q5, S5, N5z, H5, G5⟩ := V3
  have hin5 : ¬ ((13 : Int32) < 0 ∨ cl5.slots.size ≤ ((13 : Int32)).toNatClampNeg) := inb_of S5 ⟨by decide, by decide⟩
  obtain ⟨T6, h6, X6, e6, W6, st6⟩ := stR X4 hx hZ e4 Ar5 (j := (13 : Int32)) hin5 rfl (Sto.ofV Ar5 q5 P2 (Ins.self (E_w14.ext O3.2))) (g := (mkF m 96 #[iv p0s, .unset, .unset, .unset] [(.ref w14), (.int 13), (.ref o1), (.ref o1)])) rfl rfl (hb hby at_96)
  have N6 := Fr.snoc X6 N3 P3
  have V6 : Arv Z h6 o1 kk1 (.object "com/example/edictum/edictum/io/XpathTokens$Kind") (18 : Int32) [(.ref w1), (.ref w2), (.ref w3), (.ref w4), (.ref w5), (.ref w6), (.ref w7), (.ref w8), (.ref w9), (.ref w10), (.ref w11), (.ref w12), (.ref w13), (.ref w14), .null, .null, .null, .null] .null := Arv.set Ar5 q5 S5 N5z H5 G5 rfl W6 13 rfl (Nat.le_of_ble_eq_true rfl)
  have O6 : Old Z n0 h6 := O3.wr W6 P3
  obtain ⟨T7, X7, e7, st7⟩ := getS2 X6 hx hZ hown (host := "") (Or.inl (tw hw 32 rfl)) Via.refl e6 (Sg28.ext O6.2) (g := (mkF m 100 #[iv p0s, .unset, .unset, .unset] [(.int 14), (.ref o1), (.ref o1)])) rfl (hb hby at_100)
  obtain ⟨cl8, Ar8, q8, S8, N8z, H8, G8⟩ := V6
  have hin8 : ¬ ((14 : Int32) < 0 ∨ cl8.slots.size ≤ ((14 : Int32)).toNatClampNeg) := inb_of S8 ⟨by decide, by decide⟩
  obtain ⟨T9, h9, X9, e9, W9, st9⟩ := stR X7 hx hZ e7 Ar8 (j := (14 : Int32)) hin8 rfl (Sto.ofV Ar8 q8 P2 (Ins.self (E_w15.ext O6.2))) (g := (mkF m 103 #[iv p0s, .unset, .unset, .unset] [(.ref w15), (.int 14), (.ref o1), (.ref o1)])) rfl rfl (hb hby at_103)
  have N9 := Fr.snoc X9 N6 P3
  have V9 : Arv Z h9 o1 kk1 (.object "com/example/edictum/edictum/io/XpathTokens$Kind") (18 : Int32) [(.ref w1), (.ref w2), (.ref w3), (.ref w4), (.ref w5), (.ref w6), (.ref w7), (.ref w8), (.ref w9), (.ref w10), (.ref w11), (.ref w12), (.ref w13), (.ref w14), (.ref w15), .null, .null, .null] .null := Arv.set Ar8 q8 S8 N8z H8 G8 rfl W9 14 rfl (Nat.le_of_ble_eq_true rfl)
  have O9 : Old Z n0 h9 := O6.wr W9 P3
  obtain ⟨T10, X10, e10, st10⟩ := getS2 X9 hx hZ hown (host := "") (Or.inl (tw hw 34 rfl)) Via.refl e9 (Sg30.ext O9.2) (g := (mkF m 107 #[iv p0s, .unset, .unset, .unset] [(.int 15), (.ref o1), (.ref o1)])) rfl (hb hby at_107)
  obtain ⟨cl11, Ar11, q11, S11, N11z, H11, G11⟩ := V9
  have hin11 : ¬ ((15 : Int32) < 0 ∨ cl11.slots.size ≤ ((15 : Int32)).toNatClampNeg) := inb_of S11 ⟨by decide, by decide⟩
  obtain ⟨T12, h12, X12, e12, W12, st12⟩ := stR X10 hx hZ e10 Ar11 (j := (15 : Int32)) hin11 rfl (Sto.ofV Ar11 q11 P2 (Ins.self (E_w16.ext O9.2))) (g := (mkF m 110 #[iv p0s, .unset, .unset, .unset] [(.ref w16), (.int 15), (.ref o1), (.ref o1)])) rfl rfl (hb hby at_110)
  have N12 := Fr.snoc X12 N9 P3
  have V12 : Arv Z h12 o1 kk1 (.object "com/example/edictum/edictum/io/XpathTokens$Kind") (18 : Int32) [(.ref w1), (.ref w2), (.ref w3), (.ref w4), (.ref w5), (.ref w6), (.ref w7), (.ref w8), (.ref w9), (.ref w10), (.ref w11), (.ref w12), (.ref w13), (.ref w14), (.ref w15), (.ref w16), .null, .null] .null := Arv.set Ar11 q11 S11 N11z H11 G11 rfl W12 15 rfl (Nat.le_of_ble_eq_true rfl)
  have lt_o1_1 : o1 < h3.size := Nat.lt_of_lt_of_le P4 (Keep.of_wr W3).1
  have lt_o1_2 : o1 < h6.size := Nat.lt_of_lt_of_le lt_o1_1 (Keep.of_wr W6).1
  have lt_o1_3 : o1 < h9.size := Nat.lt_of_lt_of_le lt_o1_2 (Keep.of_wr W9).1
  have lt_o1_4 : o1 < h12.size := Nat.lt_of_lt_of_le lt_o1_3 (Keep.of_wr W12).1
  have Z3 : n0 ≤ h3.size := Nat.le_trans Z0 (Keep.of_wr W3).1
  have Z6 : n0 ≤ h6.size := Nat.le_trans Z3 (Keep.of_wr W6).1
  have Z9 : n0 ≤ h9.size := Nat.le_trans Z6 (Keep.of_wr W9).1
  have Z12 : n0 ≤ h12.size := Nat.le_trans Z9 (Keep.of_wr W12).1
  have O12 : Old Z n0 h12 := O9.wr W12 P3
  refine Fin.pre (fun t k => ?_) (pc_4 (o1 := o1) (kk1 := kk1) X12 hx hZ hw hby hml hown hre hlk e12 N12 Z12 O12 Sg0 E_w1 Sg2 E_w2 Sg4 E_w3 Sg6 E_w4 Sg8 E_w5 Sg10 E_w6 Sg12 E_w7 Sg14 E_w8 Sg16 E_w9 Sg18 E_w10 Sg20 E_w11 Sg22 E_w12 Sg24 E_w13 Sg26 E_w14 Sg28 E_w15 Sg30 E_w16 Sg32 E_w17 Sg34 E_w18 F_w4_ordinal F_w1_ordinal F_w11_ordinal F_w13_ordinal F_w14_ordinal F_w15_ordinal F_w16_ordinal F_w3_ordinal F_w2_ordinal F_w8_ordinal F_w12_ordinal F_w5_ordinal F_w9_ordinal F_w17_ordinal F_w7_ordinal F_w18_ordinal F_w6_ordinal F_w10_ordinal V12 P2 P3 lt_o1_4)
  show SF p e below T0 (mkF m 83 #[iv p0s, .unset, .unset, .unset] [(.ref o1)]) _
  refine XS.dup X0.here hx rfl (hb hby at_83) rfl rfl ?_
  show SF p e below T0 (mkF m 84 #[iv p0s, .unset, .unset, .unset] [(.ref o1), (.ref o1)]) _
  refine XS.bipush X0.here hx rfl (hb hby at_84) ?_
  show SF p e below T0 (mkF m 86 #[iv p0s, .unset, .unset, .unset] [(.int 12), (.ref o1), (.ref o1)]) _
  refine st1 _ ?_
  show SF p e below T1 (mkF m 89 #[iv p0s, .unset, .unset, .unset] [(.ref w13), (.int 12), (.ref o1), (.ref o1)]) _
  refine st3 _ ?_
  show SF p e below T3 (mkF m 90 #[iv p0s, .unset, .unset, .unset] [(.ref o1)]) _
  refine XS.dup X3.here hx rfl (hb hby at_90) rfl rfl ?_
  show SF p e below T3 (mkF m 91 #[iv p0s, .unset, .unset, .unset] [(.ref o1), (.ref o1)]) _
  refine XS.bipush X3.here hx rfl (hb hby at_91) ?_
  show SF p e below T3 (mkF m 93 #[iv p0s, .unset, .unset, .unset] [(.int 13), (.ref o1), (.ref o1)]) _
  refine st4 _ ?_
  show SF p e below T4 (mkF m 96 #[iv p0s, .unset, .unset, .unset] [(.ref w14), (.int 13), (.ref o1), (.ref o1)]) _
  refine st6 _ ?_
  show SF p e below T6 (mkF m 97 #[iv p0s, .unset, .unset, .unset] [(.ref o1)]) _
  refine XS.dup X6.here hx rfl (hb hby at_97) rfl rfl ?_
  show SF p e below T6 (mkF m 98 #[iv p0s, .unset, .unset, .unset] [(.ref o1), (.ref o1)]) _
  refine XS.bipush X6.here hx rfl (hb hby at_98) ?_
  show SF p e below T6 (mkF m 100 #[iv p0s, .unset, .unset, .unset] [(.int 14), (.ref o1), (.ref o1)]) _
  refine st7 _ ?_
  show SF p e below T7 (mkF m 103 #[iv p0s, .unset, .unset, .unset] [(.ref w15), (.int 14), (.ref o1), (.ref o1)]) _
  refine st9 _ ?_
  show SF p e below T9 (mkF m 104 #[iv p0s, .unset, .unset, .unset] [(.ref o1)]) _
  refine XS.dup X9.here hx rfl (hb hby at_104) rfl rfl ?_
  show SF p e below T9 (mkF m 105 #[iv p0s, .unset, .unset, .unset] [(.ref o1), (.ref o1)]) _
  refine XS.bipush X9.here hx rfl (hb hby at_105) ?_
  show SF p e below T9 (mkF m 107 #[iv p0s, .unset, .unset, .unset] [(.int 15), (.ref o1), (.ref o1)]) _
  refine st10 _ ?_
  show SF p e below T10 (mkF m 110 #[iv p0s, .unset, .unset, .unset] [(.ref w16), (.int 15), (.ref o1), (.ref o1)]) _
  refine st12 _ ?_
  exact k
set_option maxRecDepth 65536 in
set_option maxHeartbeats 400000000 in
theorem pc_2 {p : Program} {l : Launch} {e : Env} {s : State} {m : MethodId} {below : List Frame} {meth : Method} {c : Code} {T0 : State} {locs : List Loc} {Z : State} {a0 : Array Value} {h0 : Heap} {n0 : Nat} {p0s : Int32} {w1 : Addr} {w2 : Addr} {w3 : Addr} {w4 : Addr} {w5 : Addr} {w6 : Addr} {w7 : Addr} {w8 : Addr} {w9 : Addr} {w10 : Addr} {w11 : Addr} {w12 : Addr} {w13 : Addr} {w14 : Addr} {w15 : Addr} {w16 : Addr} {w17 : Addr} {w18 : Addr} {o1 : Addr} {kk1 : ClassId} (X0 : Stand p l e room_1 s m #[(.int p0s)] below meth c T0 locs 1 18) (hx : p.tables.exec = Jvm.exec) (hZ : Z.Warmed39 s.vm) (hw : HW Z a0) (hby : c.code = code) (hml : c.maxLocals = 4) (hown : s.vm.findClass "com/example/edictum/edictum/io/KindBeginsStepPinLaw" = some m.cls) (hre : meth.sig.returnType = some .boolean) (hlk : meth.locks = false) (e0 : T0.heap = h0) (N0 : Fr n0 locs) (Z0 : n0 ≤ h0.size) (O0 : Old Z n0 h0) (Sg0 : Sta Z Z.heap "com/example/edictum/edictum/io/XpathTokens$Kind" "AT" "Lcom/example/edictum/edictum/io/XpathTokens$Kind;" (.ref w1)) (E_w1 : Exa Z Z.heap w1 "com/example/edictum/edictum/io/XpathTokens$Kind") (Sg2 : Sta Z Z.heap "com/example/edictum/edictum/io/XpathTokens$Kind" "AXIS_SEPARATOR" "Lcom/example/edictum/edictum/io/XpathTokens$Kind;" (.ref w2)) (E_w2 : Exa Z Z.heap w2 "com/example/edictum/edictum/io/XpathTokens$Kind") (Sg4 : Sta Z Z.heap "com/example/edictum/edictum/io/XpathTokens$Kind" "LEFT_PAREN" "Lcom/example/edictum/edictum/io/XpathTokens$Kind;" (.ref w3)) (E_w3 : Exa Z Z.heap w3 "com/example/edictum/edictum/io/XpathTokens$Kind") (Sg6 : Sta Z Z.heap "com/example/edictum/edictum/io/XpathTokens$Kind" "LEFT_BRACKET" "Lcom/example/edictum/edictum/io/XpathTokens$Kind;" (.ref w4)) (E_w4 : Exa Z Z.heap w4 "com/example/edictum/edictum/io/XpathTokens$Kind") (Sg8 : Sta Z Z.heap "com/example/edictum/edictum/io/XpathTokens$Kind" "COMMA" "Lcom/example/edictum/edictum/io/XpathTokens$Kind;" (.ref w5)) (E_w5 : Exa Z Z.heap w5 "com/example/edictum/edictum/io/XpathTokens$Kind") (Sg10 : Sta Z Z.heap "com/example/edictum/edictum/io/XpathTokens$Kind" "RIGHT_PAREN" "Lcom/example/edictum/edictum/io/XpathTokens$Kind;" (.ref w6)) (E_w6 : Exa Z Z.heap w6 "com/example/edictum/edictum/io/XpathTokens$Kind") (Sg12 : Sta Z Z.heap "com/example/edictum/edictum/io/XpathTokens$Kind" "RIGHT_BRACKET" "Lcom/example/edictum/edictum/io/XpathTokens$Kind;" (.ref w7)) (E_w7 : Exa Z Z.heap w7 "com/example/edictum/edictum/io/XpathTokens$Kind") (Sg14 : Sta Z Z.heap "com/example/edictum/edictum/io/XpathTokens$Kind" "SLASH" "Lcom/example/edictum/edictum/io/XpathTokens$Kind;" (.ref w8)) (E_w8 : Exa Z Z.heap w8 "com/example/edictum/edictum/io/XpathTokens$Kind") (Sg16 : Sta Z Z.heap "com/example/edictum/edictum/io/XpathTokens$Kind" "DOUBLE_SLASH" "Lcom/example/edictum/edictum/io/XpathTokens$Kind;" (.ref w9)) (E_w9 : Exa Z Z.heap w9 "com/example/edictum/edictum/io/XpathTokens$Kind") (Sg18 : Sta Z Z.heap "com/example/edictum/edictum/io/XpathTokens$Kind" "OPERATOR" "Lcom/example/edictum/edictum/io/XpathTokens$Kind;" (.ref w10)) (E_w10 : Exa Z Z.heap w10 "com/example/edictum/edictum/io/XpathTokens$Kind") (Sg20 : Sta Z Z.heap "com/example/edictum/edictum/io/XpathTokens$Kind" "AXIS" "Lcom/example/edictum/edictum/io/XpathTokens$Kind;" (.ref w11)) (E_w11 : Exa Z Z.heap w11 "com/example/edictum/edictum/io/XpathTokens$Kind") (Sg22 : Sta Z Z.heap "com/example/edictum/edictum/io/XpathTokens$Kind" "FUNCTION" "Lcom/example/edictum/edictum/io/XpathTokens$Kind;" (.ref w12)) (E_w12 : Exa Z Z.heap w12 "com/example/edictum/edictum/io/XpathTokens$Kind") (Sg24 : Sta Z Z.heap "com/example/edictum/edictum/io/XpathTokens$Kind" "NODE_TYPE" "Lcom/example/edictum/edictum/io/XpathTokens$Kind;" (.ref w13)) (E_w13 : Exa Z Z.heap w13 "com/example/edictum/edictum/io/XpathTokens$Kind") (Sg26 : Sta Z Z.heap "com/example/edictum/edictum/io/XpathTokens$Kind" "NAME_TEST" "Lcom/example/edictum/edictum/io/XpathTokens$Kind;" (.ref w14)) (E_w14 : Exa Z Z.heap w14 "com/example/edictum/edictum/io/XpathTokens$Kind") (Sg28 : Sta Z Z.heap "com/example/edictum/edictum/io/XpathTokens$Kind" "DOT" "Lcom/example/edictum/edictum/io/XpathTokens$Kind;" (.ref w15)) (E_w15 : Exa Z Z.heap w15 "com/example/edictum/edictum/io/XpathTokens$Kind") (Sg30 : Sta Z Z.heap "com/example/edictum/edictum/io/XpathTokens$Kind" "DOT_DOT" "Lcom/example/edictum/edictum/io/XpathTokens$Kind;" (.ref w16)) (E_w16 : Exa Z Z.heap w16 "com/example/edictum/edictum/io/XpathTokens$Kind") (Sg32 : Sta Z Z.heap "com/example/edictum/edictum/io/XpathTokens$Kind" "LITERAL" "Lcom/example/edictum/edictum/io/XpathTokens$Kind;" (.ref w17)) (E_w17 : Exa Z Z.heap w17 "com/example/edictum/edictum/io/XpathTokens$Kind") (Sg34 : Sta Z Z.heap "com/example/edictum/edictum/io/XpathTokens$Kind" "NUMBER" "Lcom/example/edictum/edictum/io/XpathTokens$Kind;" (.ref w18)) (E_w18 : Exa Z Z.heap w18 "com/example/edictum/edictum/io/XpathTokens$Kind") (F_w4_ordinal : Fld Z Z.heap w4 "java/lang/Enum" "ordinal" "I" (.int 3)) (F_w1_ordinal : Fld Z Z.heap w1 "java/lang/Enum" "ordinal" "I" (.int 0)) (F_w11_ordinal : Fld Z Z.heap w11 "java/lang/Enum" "ordinal" "I" (.int 10)) (F_w13_ordinal : Fld Z Z.heap w13 "java/lang/Enum" "ordinal" "I" (.int 12)) (F_w14_ordinal : Fld Z Z.heap w14 "java/lang/Enum" "ordinal" "I" (.int 13)) (F_w15_ordinal : Fld Z Z.heap w15 "java/lang/Enum" "ordinal" "I" (.int 14)) (F_w16_ordinal : Fld Z Z.heap w16 "java/lang/Enum" "ordinal" "I" (.int 15)) (F_w3_ordinal : Fld Z Z.heap w3 "java/lang/Enum" "ordinal" "I" (.int 2)) (F_w2_ordinal : Fld Z Z.heap w2 "java/lang/Enum" "ordinal" "I" (.int 1)) (F_w8_ordinal : Fld Z Z.heap w8 "java/lang/Enum" "ordinal" "I" (.int 7)) (F_w12_ordinal : Fld Z Z.heap w12 "java/lang/Enum" "ordinal" "I" (.int 11)) (F_w5_ordinal : Fld Z Z.heap w5 "java/lang/Enum" "ordinal" "I" (.int 4)) (F_w9_ordinal : Fld Z Z.heap w9 "java/lang/Enum" "ordinal" "I" (.int 8)) (F_w17_ordinal : Fld Z Z.heap w17 "java/lang/Enum" "ordinal" "I" (.int 16)) (F_w7_ordinal : Fld Z Z.heap w7 "java/lang/Enum" "ordinal" "I" (.int 6)) (F_w18_ordinal : Fld Z Z.heap w18 "java/lang/Enum" "ordinal" "I" (.int 17)) (F_w6_ordinal : Fld Z Z.heap w6 "java/lang/Enum" "ordinal" "I" (.int 5)) (F_w10_ordinal : Fld Z Z.heap w10 "java/lang/Enum" "ordinal" "I" (.int 9)) (P1 : Arv Z h0 o1 kk1 (.object "com/example/edictum/edictum/io/XpathTokens$Kind") (18 : Int32) [(.ref w1), (.ref w2), (.ref w3), (.ref w4), (.ref w5), (.ref w6), (.ref w7), (.ref w8), .null, .null, .null, .null, .null, .null, .null, .null, .null, .null] .null) (P2 : Ovr Z kk1 "com/example/edictum/edictum/io/XpathTokens$Kind") (P3 : n0 ≤ o1) (P4 : o1 < h0.size) :
    Fin p e below s n0 (T0.setTop (mkF m 55 #[iv p0s, .unset, .unset, .unset] [(.ref o1)])) := by
  obtain ⟨T1, X1, e1, st1⟩ := getS2 X0 hx hZ hown (host := "") (Or.inl (tw hw 20 rfl)) Via.refl e0 (Sg16.ext O0.2) (g := (mkF m 58 #[iv p0s, .unset, .unset, .unset] [(.int 8), (.ref o1), (.ref o1)])) rfl (hb hby at_58)
  obtain ⟨cl2, Ar2, q2, S2, N2z, H2, G2⟩ := P1
  have hin2 : ¬ ((8 : Int32) < 0 ∨ cl2.slots.size ≤ ((8 : Int32)).toNatClampNeg) := inb_of S2 ⟨by decide, by decide⟩
  obtain ⟨T3, h3, X3, e3, W3, st3⟩ := stR X1 hx hZ e1 Ar2 (j := (8 : Int32)) hin2 rfl (Sto.ofV Ar2 q2 P2 (Ins.self (E_w9.ext O0.2))) (g := (mkF m 61 #[iv p0s, .unset, .unset, .unset] [(.ref w9), (.int 8), (.ref o1), (.ref o1)])) rfl rfl (hb hby at_61)
  have N3 := Fr.snoc X3 N0 P3
  have V3 : Arv Z h3 o1 kk1 (.object "com/example/edictum/edictum/io/XpathTokens$Kind") (18 : Int32) [(.ref w1), (.ref w2), (.ref w3), (.ref w4), (.ref w5), (.ref w6), (.ref w7), (.ref w8), (.ref w9), .null, .null, .null, .null, .null, .null, .null, .null, .null] .null := Arv.set Ar2 q2 S2 N2z H2 G2 rfl W3 8 rfl (Nat.le_of_ble_eq_true rfl)
  have O3 : Old Z n0 h3 := O0.wr W3 P3
  obtain ⟨T4, X4, e4, st4⟩ := getS2 X3 hx hZ hown (host := "") (Or.inl (tw hw 22 rfl)) Via.refl e3 (Sg18.ext O3.2) (g := (mkF m 65 #[iv p0s, .unset, .unset, .unset] [(.int 9), (.ref o1), (.ref o1)])) rfl (hb hby at_65)
  obtain ⟨cl5, Ar5, q5, S5, N5z, H5, G5⟩ := V3
  have hin5 : ¬ ((9 : Int32) < 0 ∨ cl5.slots.size ≤ ((9 : Int32)).toNatClampNeg) := inb_of S5 ⟨by decide, by decide⟩
  obtain ⟨T6, h6, X6, e6, W6, st6⟩ := stR X4 hx hZ e4 Ar5 (j := (9 : Int32)) hin5 rfl (Sto.ofV Ar5 q5 P2 (Ins.self (E_w10.ext O3.2))) (g := (mkF m 68 #[iv p0s, .unset, .unset, .unset] [(.ref w10), (.int 9), (.ref o1), (.ref o1)])) rfl rfl (hb hby at_68)
  have N6 := Fr.snoc X6 N3 P3
  have V6 : Arv Z h6 o1 kk1 (.object "com/example/edictum/edictum/io/XpathTokens$Kind") (18 : Int32) [(.ref w1), (.ref w2), (.ref w3), (.ref w4), (.ref w5), (.ref w6), (.ref w7), (.ref w8), (.ref w9), (.ref w10), .null, .null, .null, .null, .null, .null, .null, .null] .null := Arv.set Ar5 q5 S5 N5z H5 G5 rfl W6 9 rfl (Nat.le_of_ble_eq_true rfl)
  have O6 : Old Z n0 h6 := O3.wr W6 P3
  obtain ⟨T7, X7, e7, st7⟩ := getS2 X6 hx hZ hown (host := "") (Or.inl (tw hw 24 rfl)) Via.refl e6 (Sg20.ext O6.2) (g := (mkF m 72 #[iv p0s, .unset, .unset, .unset] [(.int 10), (.ref o1), (.ref o1)])) rfl (hb hby at_72)
  obtain ⟨cl8, Ar8, q8, S8, N8z, H8, G8⟩ := V6
  have hin8 : ¬ ((10 : Int32) < 0 ∨ cl8.slots.size ≤ ((10 : Int32)).toNatClampNeg) := inb_of S8 ⟨by decide, by decide⟩
  obtain ⟨T9, h9, X9, e9, W9, st9⟩ := stR X7 hx hZ e7 Ar8 (j := (10 : Int32)) hin8 rfl (Sto.ofV Ar8 q8 P2 (Ins.self (E_w11.ext O6.2))) (g := (mkF m 75 #[iv p0s, .unset, .unset, .unset] [(.ref w11), (.int 10), (.ref o1), (.ref o1)])) rfl rfl (hb hby at_75)
  have N9 := Fr.snoc X9 N6 P3
  have V9 : Arv Z h9 o1 kk1 (.object "com/example/edictum/edictum/io/XpathTokens$Kind") (18 : Int32) [(.ref w1), (.ref w2), (.ref w3), (.ref w4), (.ref w5), (.ref w6), (.ref w7), (.ref w8), (.ref w9), (.ref w10), (.ref w11), .null, .null, .null, .null, .null, .null, .null] .null := Arv.set Ar8 q8 S8 N8z H8 G8 rfl W9 10 rfl (Nat.le_of_ble_eq_true rfl)
  have O9 : Old Z n0 h9 := O6.wr W9 P3
  obtain ⟨T10, X10, e10, st10⟩ := getS2 X9 hx hZ hown (host := "") (Or.inl (tw hw 26 rfl)) Via.refl e9 (Sg22.ext O9.2) (g := (mkF m 79 #[iv p0s, .unset, .unset, .unset] [(.int 11), (.ref o1), (.ref o1)])) rfl (hb hby at_79)
  obtain ⟨cl11, Ar11, q11, S11, N11z, H11, G11⟩ := V9
  have hin11 : ¬ ((11 : Int32) < 0 ∨ cl11.slots.size ≤ ((11 : Int32)).toNatClampNeg) := inb_of S11 ⟨by decide, by decide⟩
  obtain ⟨T12, h12, X12, e12, W12, st12⟩ := stR X10 hx hZ e10 Ar11 (j := (11 : Int32)) hin11 rfl (Sto.ofV Ar11 q11 P2 (Ins.self (E_w12.ext O9.2))) (g := (mkF m 82 #[iv p0s, .unset, .unset, .unset] [(.ref w12), (.int 11), (.ref o1), (.ref o1)])) rfl rfl (hb hby at_82)
  have N12 := Fr.snoc X12 N9 P3
  have V12 : Arv Z h12 o1 kk1 (.object "com/example/edictum/edictum/io/XpathTokens$Kind") (18 : Int32) [(.ref w1), (.ref w2), (.ref w3), (.ref w4), (.ref w5), (.ref w6), (.ref w7), (.ref w8), (.ref w9), (.ref w10), (.ref w11), (.ref w12), .null, .null, .null, .null, .null, .null] .null := Arv.set Ar11 q11 S11 N11z H11 G11 rfl W12 11 rfl (Nat.le_of_ble_eq_true rfl)
  have lt_o1_1 : o1 < h3.size := Nat.lt_of_lt_of_le P4 (Keep.of_wr W3).1
  have lt_o1_2 : o1 < h6.size := Nat.lt_of_lt_of_le lt_o1_1 (Keep.of_wr W6).1
  have lt_o1_3 : o1 < h9.size := Nat.lt_of_lt_of_le lt_o1_2 (Keep.of_wr W9).1
  have lt_o1_4 : o1 < h12.size := Nat.lt_of_lt_of_le lt_o1_3 (Keep.of_wr W12).1
  have Z3 : n0 ≤ h3.size := Nat.le_trans Z0 (Keep.of_wr W3).1
  have Z6 : n0 ≤ h6.size := Nat.le_trans Z3 (Keep.of_wr W6).1
  have Z9 : n0 ≤ h9.size := Nat.le_trans Z6 (Keep.of_wr W9).1
  have Z12 : n0 ≤ h12.size := Nat.le_trans Z9 (Keep.of_wr W12).1
  have O12 : Old Z n0 h12 := O9.wr W12 P3
  refine Fin.pre (fun t k => ?_) (pc_3 (o1 := o1) (kk1 := kk1) X12 hx hZ hw hby hml hown hre hlk e12 N12 Z12 O12 Sg0 E_w1 Sg2 E_w2 Sg4 E_w3 Sg6 E_w4 Sg8 E_w5 Sg10 E_w6 Sg12 E_w7 Sg14 E_w8 Sg16 E_w9 Sg18 E_w10 Sg20 E_w11 Sg22 E_w12 Sg24 E_w13 Sg26 E_w14 Sg28 E_w15 Sg30 E_w16 Sg32 E_w17 Sg34 E_w18 F_w4_ordinal F_w1_ordinal F_w11_ordinal F_w13_ordinal F_w14_ordinal F_w15_ordinal F_w16_ordinal F_w3_ordinal F_w2_ordinal F_w8_ordinal F_w12_ordinal F_w5_ordinal F_w9_ordinal F_w17_ordinal F_w7_ordinal F_w18_ordinal F_w6_ordinal F_w10_ordinal V12 P2 P3 lt_o1_4)
  show SF p e below T0 (mkF m 55 #[iv p0s, .unset, .unset, .unset] [(.ref o1)]) _
  refine XS.dup X0.here hx rfl (hb hby at_55) rfl rfl ?_
  show SF p e below T0 (mkF m 56 #[iv p0s, .unset, .unset, .unset] [(.ref o1), (.ref o1)]) _
  refine XS.bipush X0.here hx rfl (hb hby at_56) ?_
  show SF p e below T0 (mkF m 58 #[iv p0s, .unset, .unset, .unset] [(.int 8), (.ref o1), (.ref o1)]) _
  refine st1 _ ?_
  show SF p e below T1 (mkF m 61 #[iv p0s, .unset, .unset, .unset] [(.ref w9), (.int 8), (.ref o1), (.ref o1)]) _
  refine st3 _ ?_
  show SF p e below T3 (mkF m 62 #[iv p0s, .unset, .unset, .unset] [(.ref o1)]) _
  refine XS.dup X3.here hx rfl (hb hby at_62) rfl rfl ?_
  show SF p e below T3 (mkF m 63 #[iv p0s, .unset, .unset, .unset] [(.ref o1), (.ref o1)]) _
  refine XS.bipush X3.here hx rfl (hb hby at_63) ?_
  show SF p e below T3 (mkF m 65 #[iv p0s, .unset, .unset, .unset] [(.int 9), (.ref o1), (.ref o1)]) _
  refine st4 _ ?_
  show SF p e below T4 (mkF m 68 #[iv p0s, .unset, .unset, .unset] [(.ref w10), (.int 9), (.ref o1), (.ref o1)]) _
  refine st6 _ ?_
  show SF p e below T6 (mkF m 69 #[iv p0s, .unset, .unset, .unset] [(.ref o1)]) _
  refine XS.dup X6.here hx rfl (hb hby at_69) rfl rfl ?_
  show SF p e below T6 (mkF m 70 #[iv p0s, .unset, .unset, .unset] [(.ref o1), (.ref o1)]) _
  refine XS.bipush X6.here hx rfl (hb hby at_70) ?_
  show SF p e below T6 (mkF m 72 #[iv p0s, .unset, .unset, .unset] [(.int 10), (.ref o1), (.ref o1)]) _
  refine st7 _ ?_
  show SF p e below T7 (mkF m 75 #[iv p0s, .unset, .unset, .unset] [(.ref w11), (.int 10), (.ref o1), (.ref o1)]) _
  refine st9 _ ?_
  show SF p e below T9 (mkF m 76 #[iv p0s, .unset, .unset, .unset] [(.ref o1)]) _
  refine XS.dup X9.here hx rfl (hb hby at_76) rfl rfl ?_
  show SF p e below T9 (mkF m 77 #[iv p0s, .unset, .unset, .unset] [(.ref o1), (.ref o1)]) _
  refine XS.bipush X9.here hx rfl (hb hby at_77) ?_
  show SF p e below T9 (mkF m 79 #[iv p0s, .unset, .unset, .unset] [(.int 11), (.ref o1), (.ref o1)]) _
  refine st10 _ ?_
  show SF p e below T10 (mkF m 82 #[iv p0s, .unset, .unset, .unset] [(.ref w12), (.int 11), (.ref o1), (.ref o1)]) _
  refine st12 _ ?_
  exact k
set_option maxRecDepth 65536 in
set_option maxHeartbeats 400000000 in
theorem pc_1 {p : Program} {l : Launch} {e : Env} {s : State} {m : MethodId} {below : List Frame} {meth : Method} {c : Code} {T0 : State} {locs : List Loc} {Z : State} {a0 : Array Value} {h0 : Heap} {n0 : Nat} {p0s : Int32} {w1 : Addr} {w2 : Addr} {w3 : Addr} {w4 : Addr} {w5 : Addr} {w6 : Addr} {w7 : Addr} {w8 : Addr} {w9 : Addr} {w10 : Addr} {w11 : Addr} {w12 : Addr} {w13 : Addr} {w14 : Addr} {w15 : Addr} {w16 : Addr} {w17 : Addr} {w18 : Addr} {o1 : Addr} {kk1 : ClassId} (X0 : Stand p l e room_1 s m #[(.int p0s)] below meth c T0 locs 1 18) (hx : p.tables.exec = Jvm.exec) (hZ : Z.Warmed39 s.vm) (hw : HW Z a0) (hby : c.code = code) (hml : c.maxLocals = 4) (hown : s.vm.findClass "com/example/edictum/edictum/io/KindBeginsStepPinLaw" = some m.cls) (hre : meth.sig.returnType = some .boolean) (hlk : meth.locks = false) (e0 : T0.heap = h0) (N0 : Fr n0 locs) (Z0 : n0 ≤ h0.size) (O0 : Old Z n0 h0) (Sg0 : Sta Z Z.heap "com/example/edictum/edictum/io/XpathTokens$Kind" "AT" "Lcom/example/edictum/edictum/io/XpathTokens$Kind;" (.ref w1)) (E_w1 : Exa Z Z.heap w1 "com/example/edictum/edictum/io/XpathTokens$Kind") (Sg2 : Sta Z Z.heap "com/example/edictum/edictum/io/XpathTokens$Kind" "AXIS_SEPARATOR" "Lcom/example/edictum/edictum/io/XpathTokens$Kind;" (.ref w2)) (E_w2 : Exa Z Z.heap w2 "com/example/edictum/edictum/io/XpathTokens$Kind") (Sg4 : Sta Z Z.heap "com/example/edictum/edictum/io/XpathTokens$Kind" "LEFT_PAREN" "Lcom/example/edictum/edictum/io/XpathTokens$Kind;" (.ref w3)) (E_w3 : Exa Z Z.heap w3 "com/example/edictum/edictum/io/XpathTokens$Kind") (Sg6 : Sta Z Z.heap "com/example/edictum/edictum/io/XpathTokens$Kind" "LEFT_BRACKET" "Lcom/example/edictum/edictum/io/XpathTokens$Kind;" (.ref w4)) (E_w4 : Exa Z Z.heap w4 "com/example/edictum/edictum/io/XpathTokens$Kind") (Sg8 : Sta Z Z.heap "com/example/edictum/edictum/io/XpathTokens$Kind" "COMMA" "Lcom/example/edictum/edictum/io/XpathTokens$Kind;" (.ref w5)) (E_w5 : Exa Z Z.heap w5 "com/example/edictum/edictum/io/XpathTokens$Kind") (Sg10 : Sta Z Z.heap "com/example/edictum/edictum/io/XpathTokens$Kind" "RIGHT_PAREN" "Lcom/example/edictum/edictum/io/XpathTokens$Kind;" (.ref w6)) (E_w6 : Exa Z Z.heap w6 "com/example/edictum/edictum/io/XpathTokens$Kind") (Sg12 : Sta Z Z.heap "com/example/edictum/edictum/io/XpathTokens$Kind" "RIGHT_BRACKET" "Lcom/example/edictum/edictum/io/XpathTokens$Kind;" (.ref w7)) (E_w7 : Exa Z Z.heap w7 "com/example/edictum/edictum/io/XpathTokens$Kind") (Sg14 : Sta Z Z.heap "com/example/edictum/edictum/io/XpathTokens$Kind" "SLASH" "Lcom/example/edictum/edictum/io/XpathTokens$Kind;" (.ref w8)) (E_w8 : Exa Z Z.heap w8 "com/example/edictum/edictum/io/XpathTokens$Kind") (Sg16 : Sta Z Z.heap "com/example/edictum/edictum/io/XpathTokens$Kind" "DOUBLE_SLASH" "Lcom/example/edictum/edictum/io/XpathTokens$Kind;" (.ref w9)) (E_w9 : Exa Z Z.heap w9 "com/example/edictum/edictum/io/XpathTokens$Kind") (Sg18 : Sta Z Z.heap "com/example/edictum/edictum/io/XpathTokens$Kind" "OPERATOR" "Lcom/example/edictum/edictum/io/XpathTokens$Kind;" (.ref w10)) (E_w10 : Exa Z Z.heap w10 "com/example/edictum/edictum/io/XpathTokens$Kind") (Sg20 : Sta Z Z.heap "com/example/edictum/edictum/io/XpathTokens$Kind" "AXIS" "Lcom/example/edictum/edictum/io/XpathTokens$Kind;" (.ref w11)) (E_w11 : Exa Z Z.heap w11 "com/example/edictum/edictum/io/XpathTokens$Kind") (Sg22 : Sta Z Z.heap "com/example/edictum/edictum/io/XpathTokens$Kind" "FUNCTION" "Lcom/example/edictum/edictum/io/XpathTokens$Kind;" (.ref w12)) (E_w12 : Exa Z Z.heap w12 "com/example/edictum/edictum/io/XpathTokens$Kind") (Sg24 : Sta Z Z.heap "com/example/edictum/edictum/io/XpathTokens$Kind" "NODE_TYPE" "Lcom/example/edictum/edictum/io/XpathTokens$Kind;" (.ref w13)) (E_w13 : Exa Z Z.heap w13 "com/example/edictum/edictum/io/XpathTokens$Kind") (Sg26 : Sta Z Z.heap "com/example/edictum/edictum/io/XpathTokens$Kind" "NAME_TEST" "Lcom/example/edictum/edictum/io/XpathTokens$Kind;" (.ref w14)) (E_w14 : Exa Z Z.heap w14 "com/example/edictum/edictum/io/XpathTokens$Kind") (Sg28 : Sta Z Z.heap "com/example/edictum/edictum/io/XpathTokens$Kind" "DOT" "Lcom/example/edictum/edictum/io/XpathTokens$Kind;" (.ref w15)) (E_w15 : Exa Z Z.heap w15 "com/example/edictum/edictum/io/XpathTokens$Kind") (Sg30 : Sta Z Z.heap "com/example/edictum/edictum/io/XpathTokens$Kind" "DOT_DOT" "Lcom/example/edictum/edictum/io/XpathTokens$Kind;" (.ref w16)) (E_w16 : Exa Z Z.heap w16 "com/example/edictum/edictum/io/XpathTokens$Kind") (Sg32 : Sta Z Z.heap "com/example/edictum/edictum/io/XpathTokens$Kind" "LITERAL" "Lcom/example/edictum/edictum/io/XpathTokens$Kind;" (.ref w17)) (E_w17 : Exa Z Z.heap w17 "com/example/edictum/edictum/io/XpathTokens$Kind") (Sg34 : Sta Z Z.heap "com/example/edictum/edictum/io/XpathTokens$Kind" "NUMBER" "Lcom/example/edictum/edictum/io/XpathTokens$Kind;" (.ref w18)) (E_w18 : Exa Z Z.heap w18 "com/example/edictum/edictum/io/XpathTokens$Kind") (F_w4_ordinal : Fld Z Z.heap w4 "java/lang/Enum" "ordinal" "I" (.int 3)) (F_w1_ordinal : Fld Z Z.heap w1 "java/lang/Enum" "ordinal" "I" (.int 0)) (F_w11_ordinal : Fld Z Z.heap w11 "java/lang/Enum" "ordinal" "I" (.int 10)) (F_w13_ordinal : Fld Z Z.heap w13 "java/lang/Enum" "ordinal" "I" (.int 12)) (F_w14_ordinal : Fld Z Z.heap w14 "java/lang/Enum" "ordinal" "I" (.int 13)) (F_w15_ordinal : Fld Z Z.heap w15 "java/lang/Enum" "ordinal" "I" (.int 14)) (F_w16_ordinal : Fld Z Z.heap w16 "java/lang/Enum" "ordinal" "I" (.int 15)) (F_w3_ordinal : Fld Z Z.heap w3 "java/lang/Enum" "ordinal" "I" (.int 2)) (F_w2_ordinal : Fld Z Z.heap w2 "java/lang/Enum" "ordinal" "I" (.int 1)) (F_w8_ordinal : Fld Z Z.heap w8 "java/lang/Enum" "ordinal" "I" (.int 7)) (F_w12_ordinal : Fld Z Z.heap w12 "java/lang/Enum" "ordinal" "I" (.int 11)) (F_w5_ordinal : Fld Z Z.heap w5 "java/lang/Enum" "ordinal" "I" (.int 4)) (F_w9_ordinal : Fld Z Z.heap w9 "java/lang/Enum" "ordinal" "I" (.int 8)) (F_w17_ordinal : Fld Z Z.heap w17 "java/lang/Enum" "ordinal" "I" (.int 16)) (F_w7_ordinal : Fld Z Z.heap w7 "java/lang/Enum" "ordinal" "I" (.int 6)) (F_w18_ordinal : Fld Z Z.heap w18 "java/lang/Enum" "ordinal" "I" (.int 17)) (F_w6_ordinal : Fld Z Z.heap w6 "java/lang/Enum" "ordinal" "I" (.int 5)) (F_w10_ordinal : Fld Z Z.heap w10 "java/lang/Enum" "ordinal" "I" (.int 9)) (P1 : Arv Z h0 o1 kk1 (.object "com/example/edictum/edictum/io/XpathTokens$Kind") (18 : Int32) [(.ref w1), (.ref w2), (.ref w3), (.ref w4), .null, .null, .null, .null, .null, .null, .null, .null, .null, .null, .null, .null, .null, .null] .null) (P2 : Ovr Z kk1 "com/example/edictum/edictum/io/XpathTokens$Kind") (P3 : n0 ≤ o1) (P4 : o1 < h0.size) :
    Fin p e below s n0 (T0.setTop (mkF m 29 #[iv p0s, .unset, .unset, .unset] [(.ref o1)])) := by
  obtain ⟨T1, X1, e1, st1⟩ := getS2 X0 hx hZ hown (host := "") (Or.inl (tw hw 12 rfl)) Via.refl e0 (Sg8.ext O0.2) (g := (mkF m 31 #[iv p0s, .unset, .unset, .unset] [(.int 4), (.ref o1), (.ref o1)])) rfl (hb hby at_31)
  obtain ⟨cl2, Ar2, q2, S2, N2z, H2, G2⟩ := P1
  have hin2 : ¬ ((4 : Int32) < 0 ∨ cl2.slots.size ≤ ((4 : Int32)).toNatClampNeg) := inb_of S2 ⟨by decide, by decide⟩
  obtain ⟨T3, h3, X3, e3, W3, st3⟩ := stR X1 hx hZ e1 Ar2 (j := (4 : Int32)) hin2 rfl (Sto.ofV Ar2 q2 P2 (Ins.self (E_w5.ext O0.2))) (g := (mkF m 34 #[iv p0s, .unset, .unset, .unset] [(.ref w5), (.int 4), (.ref o1), (.ref o1)])) rfl rfl (hb hby at_34)
  have N3 := Fr.snoc X3 N0 P3
  have V3 : Arv Z h3 o1 kk1 (.object "com/example/edictum/edictum/io/XpathTokens$Kind") (18 : Int32) [(.ref w1), (.ref w2), (.ref w3), (.ref w4), (.ref w5), .null, .null, .null, .null, .null, .null, .null, .null, .null, .null, .null, .null, .null] .null := Arv.set Ar2 q2 S2 N2z H2 G2 rfl W3 4 rfl (Nat.le_of_ble_eq_true rfl)
  have O3 : Old Z n0 h3 := O0.wr W3 P3
  obtain ⟨T4, X4, e4, st4⟩ := getS2 X3 hx hZ hown (host := "") (Or.inl (tw hw 14 rfl)) Via.refl e3 (Sg10.ext O3.2) (g := (mkF m 37 #[iv p0s, .unset, .unset, .unset] [(.int 5), (.ref o1), (.ref o1)])) rfl (hb hby at_37)
  obtain ⟨cl5, Ar5, q5, S5, N5z, H5, G5⟩ := V3
  have hin5 : ¬ ((5 : Int32) < 0 ∨ cl5.slots.size ≤ ((5 : Int32)).toNatClampNeg) := inb_of S5 ⟨by decide, by decide⟩
  obtain ⟨T6, h6, X6, e6, W6, st6⟩ := stR X4 hx hZ e4 Ar5 (j := (5 : Int32)) hin5 rfl (Sto.ofV Ar5 q5 P2 (Ins.self (E_w6.ext O3.2))) (g := (mkF m 40 #[iv p0s, .unset, .unset, .unset] [(.ref w6), (.int 5), (.ref o1), (.ref o1)])) rfl rfl (hb hby at_40)
  have N6 := Fr.snoc X6 N3 P3
  have V6 : Arv Z h6 o1 kk1 (.object "com/example/edictum/edictum/io/XpathTokens$Kind") (18 : Int32) [(.ref w1), (.ref w2), (.ref w3), (.ref w4), (.ref w5), (.ref w6), .null, .null, .null, .null, .null, .null, .null, .null, .null, .null, .null, .null] .null := Arv.set Ar5 q5 S5 N5z H5 G5 rfl W6 5 rfl (Nat.le_of_ble_eq_true rfl)
  have O6 : Old Z n0 h6 := O3.wr W6 P3
  obtain ⟨T7, X7, e7, st7⟩ := getS2 X6 hx hZ hown (host := "") (Or.inl (tw hw 16 rfl)) Via.refl e6 (Sg12.ext O6.2) (g := (mkF m 44 #[iv p0s, .unset, .unset, .unset] [(.int 6), (.ref o1), (.ref o1)])) rfl (hb hby at_44)
  obtain ⟨cl8, Ar8, q8, S8, N8z, H8, G8⟩ := V6
  have hin8 : ¬ ((6 : Int32) < 0 ∨ cl8.slots.size ≤ ((6 : Int32)).toNatClampNeg) := inb_of S8 ⟨by decide, by decide⟩
  obtain ⟨T9, h9, X9, e9, W9, st9⟩ := stR X7 hx hZ e7 Ar8 (j := (6 : Int32)) hin8 rfl (Sto.ofV Ar8 q8 P2 (Ins.self (E_w7.ext O6.2))) (g := (mkF m 47 #[iv p0s, .unset, .unset, .unset] [(.ref w7), (.int 6), (.ref o1), (.ref o1)])) rfl rfl (hb hby at_47)
  have N9 := Fr.snoc X9 N6 P3
  have V9 : Arv Z h9 o1 kk1 (.object "com/example/edictum/edictum/io/XpathTokens$Kind") (18 : Int32) [(.ref w1), (.ref w2), (.ref w3), (.ref w4), (.ref w5), (.ref w6), (.ref w7), .null, .null, .null, .null, .null, .null, .null, .null, .null, .null, .null] .null := Arv.set Ar8 q8 S8 N8z H8 G8 rfl W9 6 rfl (Nat.le_of_ble_eq_true rfl)
  have O9 : Old Z n0 h9 := O6.wr W9 P3
  obtain ⟨T10, X10, e10, st10⟩ := getS2 X9 hx hZ hown (host := "") (Or.inl (tw hw 18 rfl)) Via.refl e9 (Sg14.ext O9.2) (g := (mkF m 51 #[iv p0s, .unset, .unset, .unset] [(.int 7), (.ref o1), (.ref o1)])) rfl (hb hby at_51)
  obtain ⟨cl11, Ar11, q11, S11, N11z, H11, G11⟩ := V9
  have hin11 : ¬ ((7 : Int32) < 0 ∨ cl11.slots.size ≤ ((7 : Int32)).toNatClampNeg) := inb_of S11 ⟨by decide, by decide⟩
  obtain ⟨T12, h12, X12, e12, W12, st12⟩ := stR X10 hx hZ e10 Ar11 (j := (7 : Int32)) hin11 rfl (Sto.ofV Ar11 q11 P2 (Ins.self (E_w8.ext O9.2))) (g := (mkF m 54 #[iv p0s, .unset, .unset, .unset] [(.ref w8), (.int 7), (.ref o1), (.ref o1)])) rfl rfl (hb hby at_54)
  have N12 := Fr.snoc X12 N9 P3
  have V12 : Arv Z h12 o1 kk1 (.object "com/example/edictum/edictum/io/XpathTokens$Kind") (18 : Int32) [(.ref w1), (.ref w2), (.ref w3), (.ref w4), (.ref w5), (.ref w6), (.ref w7), (.ref w8), .null, .null, .null, .null, .null, .null, .null, .null, .null, .null] .null := Arv.set Ar11 q11 S11 N11z H11 G11 rfl W12 7 rfl (Nat.le_of_ble_eq_true rfl)
  have lt_o1_1 : o1 < h3.size := Nat.lt_of_lt_of_le P4 (Keep.of_wr W3).1
  have lt_o1_2 : o1 < h6.size := Nat.lt_of_lt_of_le lt_o1_1 (Keep.of_wr W6).1
  have lt_o1_3 : o1 < h9.size := Nat.lt_of_lt_of_le lt_o1_2 (Keep.of_wr W9).1
  have lt_o1_4 : o1 < h12.size := Nat.lt_of_lt_of_le lt_o1_3 (Keep.of_wr W12).1
  have Z3 : n0 ≤ h3.size := Nat.le_trans Z0 (Keep.of_wr W3).1
  have Z6 : n0 ≤ h6.size := Nat.le_trans Z3 (Keep.of_wr W6).1
  have Z9 : n0 ≤ h9.size := Nat.le_trans Z6 (Keep.of_wr W9).1
  have Z12 : n0 ≤ h12.size := Nat.le_trans Z9 (Keep.of_wr W12).1
  have O12 : Old Z n0 h12 := O9.wr W12 P3
  refine Fin.pre (fun t k => ?_) (pc_2 (o1 := o1) (kk1 := kk1) X12 hx hZ hw hby hml hown hre hlk e12 N12 Z12 O12 Sg0 E_w1 Sg2 E_w2 Sg4 E_w3 Sg6 E_w4 Sg8 E_w5 Sg10 E_w6 Sg12 E_w7 Sg14 E_w8 Sg16 E_w9 Sg18 E_w10 Sg20 E_w11 Sg22 E_w12 Sg24 E_w13 Sg26 E_w14 Sg28 E_w15 Sg30 E_w16 Sg32 E_w17 Sg34 E_w18 F_w4_ordinal F_w1_ordinal F_w11_ordinal F_w13_ordinal F_w14_ordinal F_w15_ordinal F_w16_ordinal F_w3_ordinal F_w2_ordinal F_w8_ordinal F_w12_ordinal F_w5_ordinal F_w9_ordinal F_w17_ordinal F_w7_ordinal F_w18_ordinal F_w6_ordinal F_w10_ordinal V12 P2 P3 lt_o1_4)
  show SF p e below T0 (mkF m 29 #[iv p0s, .unset, .unset, .unset] [(.ref o1)]) _
  refine XS.dup X0.here hx rfl (hb hby at_29) rfl rfl ?_
  show SF p e below T0 (mkF m 30 #[iv p0s, .unset, .unset, .unset] [(.ref o1), (.ref o1)]) _
  refine XS.iconst X0.here hx rfl (hb hby at_30) ?_
  show SF p e below T0 (mkF m 31 #[iv p0s, .unset, .unset, .unset] [(.int 4), (.ref o1), (.ref o1)]) _
  refine st1 _ ?_
  show SF p e below T1 (mkF m 34 #[iv p0s, .unset, .unset, .unset] [(.ref w5), (.int 4), (.ref o1), (.ref o1)]) _
  refine st3 _ ?_
  show SF p e below T3 (mkF m 35 #[iv p0s, .unset, .unset, .unset] [(.ref o1)]) _
  refine XS.dup X3.here hx rfl (hb hby at_35) rfl rfl ?_
  show SF p e below T3 (mkF m 36 #[iv p0s, .unset, .unset, .unset] [(.ref o1), (.ref o1)]) _
  refine XS.iconst X3.here hx rfl (hb hby at_36) ?_
  show SF p e below T3 (mkF m 37 #[iv p0s, .unset, .unset, .unset] [(.int 5), (.ref o1), (.ref o1)]) _
  refine st4 _ ?_
  show SF p e below T4 (mkF m 40 #[iv p0s, .unset, .unset, .unset] [(.ref w6), (.int 5), (.ref o1), (.ref o1)]) _
  refine st6 _ ?_
  show SF p e below T6 (mkF m 41 #[iv p0s, .unset, .unset, .unset] [(.ref o1)]) _
  refine XS.dup X6.here hx rfl (hb hby at_41) rfl rfl ?_
  show SF p e below T6 (mkF m 42 #[iv p0s, .unset, .unset, .unset] [(.ref o1), (.ref o1)]) _
  refine XS.bipush X6.here hx rfl (hb hby at_42) ?_
  show SF p e below T6 (mkF m 44 #[iv p0s, .unset, .unset, .unset] [(.int 6), (.ref o1), (.ref o1)]) _
  refine st7 _ ?_
  show SF p e below T7 (mkF m 47 #[iv p0s, .unset, .unset, .unset] [(.ref w7), (.int 6), (.ref o1), (.ref o1)]) _
  refine st9 _ ?_
  show SF p e below T9 (mkF m 48 #[iv p0s, .unset, .unset, .unset] [(.ref o1)]) _
  refine XS.dup X9.here hx rfl (hb hby at_48) rfl rfl ?_
  show SF p e below T9 (mkF m 49 #[iv p0s, .unset, .unset, .unset] [(.ref o1), (.ref o1)]) _
  refine XS.bipush X9.here hx rfl (hb hby at_49) ?_
  show SF p e below T9 (mkF m 51 #[iv p0s, .unset, .unset, .unset] [(.int 7), (.ref o1), (.ref o1)]) _
  refine st10 _ ?_
  show SF p e below T10 (mkF m 54 #[iv p0s, .unset, .unset, .unset] [(.ref w8), (.int 7), (.ref o1), (.ref o1)]) _
  refine st12 _ ?_
  exact k
theorem pn_1 : plainName "com/example/edictum/edictum/io/KindBeginsStepPinLaw" = true := by first | (simp [plainName, overriddenIn]; done) | decide +kernel
theorem ef_1 (m : MethodId) (x0 : Int32) : entryFrame m #[(.int x0)] maxLocals = mkF m 0 #[.val (.int x0), .unset, .unset, .unset] [] := by first | (simp [entryFrame, mkF, argsToLocals, Value.category, maxLocals]; done) | rfl
set_option maxRecDepth 65536 in
set_option maxHeartbeats 400000000 in
theorem rm0 (l : Launch) (Z : State) (a0 : Array Value) (hw : HW Z a0) (ws : List Jvm.Cond) (p0s : Int32) (w1 : Addr) (w2 : Addr) (w3 : Addr) (w4 : Addr) (w5 : Addr) (w6 : Addr) (w7 : Addr) (w8 : Addr) (w9 : Addr) (w10 : Addr) (w11 : Addr) (w12 : Addr) (w13 : Addr) (w14 : Addr) (w15 : Addr) (w16 : Addr) (w17 : Addr) (w18 : Addr) (h0 : Heap) (n0 : Nat) (Z0 : n0 ≤ h0.size) (O0 : Old Z n0 h0) (Sg0 : Sta Z Z.heap "com/example/edictum/edictum/io/XpathTokens$Kind" "AT" "Lcom/example/edictum/edictum/io/XpathTokens$Kind;" (.ref w1)) (E_w1 : Exa Z Z.heap w1 "com/example/edictum/edictum/io/XpathTokens$Kind") (Sg2 : Sta Z Z.heap "com/example/edictum/edictum/io/XpathTokens$Kind" "AXIS_SEPARATOR" "Lcom/example/edictum/edictum/io/XpathTokens$Kind;" (.ref w2)) (E_w2 : Exa Z Z.heap w2 "com/example/edictum/edictum/io/XpathTokens$Kind") (Sg4 : Sta Z Z.heap "com/example/edictum/edictum/io/XpathTokens$Kind" "LEFT_PAREN" "Lcom/example/edictum/edictum/io/XpathTokens$Kind;" (.ref w3)) (E_w3 : Exa Z Z.heap w3 "com/example/edictum/edictum/io/XpathTokens$Kind") (Sg6 : Sta Z Z.heap "com/example/edictum/edictum/io/XpathTokens$Kind" "LEFT_BRACKET" "Lcom/example/edictum/edictum/io/XpathTokens$Kind;" (.ref w4)) (E_w4 : Exa Z Z.heap w4 "com/example/edictum/edictum/io/XpathTokens$Kind") (Sg8 : Sta Z Z.heap "com/example/edictum/edictum/io/XpathTokens$Kind" "COMMA" "Lcom/example/edictum/edictum/io/XpathTokens$Kind;" (.ref w5)) (E_w5 : Exa Z Z.heap w5 "com/example/edictum/edictum/io/XpathTokens$Kind") (Sg10 : Sta Z Z.heap "com/example/edictum/edictum/io/XpathTokens$Kind" "RIGHT_PAREN" "Lcom/example/edictum/edictum/io/XpathTokens$Kind;" (.ref w6)) (E_w6 : Exa Z Z.heap w6 "com/example/edictum/edictum/io/XpathTokens$Kind") (Sg12 : Sta Z Z.heap "com/example/edictum/edictum/io/XpathTokens$Kind" "RIGHT_BRACKET" "Lcom/example/edictum/edictum/io/XpathTokens$Kind;" (.ref w7)) (E_w7 : Exa Z Z.heap w7 "com/example/edictum/edictum/io/XpathTokens$Kind") (Sg14 : Sta Z Z.heap "com/example/edictum/edictum/io/XpathTokens$Kind" "SLASH" "Lcom/example/edictum/edictum/io/XpathTokens$Kind;" (.ref w8)) (E_w8 : Exa Z Z.heap w8 "com/example/edictum/edictum/io/XpathTokens$Kind") (Sg16 : Sta Z Z.heap "com/example/edictum/edictum/io/XpathTokens$Kind" "DOUBLE_SLASH" "Lcom/example/edictum/edictum/io/XpathTokens$Kind;" (.ref w9)) (E_w9 : Exa Z Z.heap w9 "com/example/edictum/edictum/io/XpathTokens$Kind") (Sg18 : Sta Z Z.heap "com/example/edictum/edictum/io/XpathTokens$Kind" "OPERATOR" "Lcom/example/edictum/edictum/io/XpathTokens$Kind;" (.ref w10)) (E_w10 : Exa Z Z.heap w10 "com/example/edictum/edictum/io/XpathTokens$Kind") (Sg20 : Sta Z Z.heap "com/example/edictum/edictum/io/XpathTokens$Kind" "AXIS" "Lcom/example/edictum/edictum/io/XpathTokens$Kind;" (.ref w11)) (E_w11 : Exa Z Z.heap w11 "com/example/edictum/edictum/io/XpathTokens$Kind") (Sg22 : Sta Z Z.heap "com/example/edictum/edictum/io/XpathTokens$Kind" "FUNCTION" "Lcom/example/edictum/edictum/io/XpathTokens$Kind;" (.ref w12)) (E_w12 : Exa Z Z.heap w12 "com/example/edictum/edictum/io/XpathTokens$Kind") (Sg24 : Sta Z Z.heap "com/example/edictum/edictum/io/XpathTokens$Kind" "NODE_TYPE" "Lcom/example/edictum/edictum/io/XpathTokens$Kind;" (.ref w13)) (E_w13 : Exa Z Z.heap w13 "com/example/edictum/edictum/io/XpathTokens$Kind") (Sg26 : Sta Z Z.heap "com/example/edictum/edictum/io/XpathTokens$Kind" "NAME_TEST" "Lcom/example/edictum/edictum/io/XpathTokens$Kind;" (.ref w14)) (E_w14 : Exa Z Z.heap w14 "com/example/edictum/edictum/io/XpathTokens$Kind") (Sg28 : Sta Z Z.heap "com/example/edictum/edictum/io/XpathTokens$Kind" "DOT" "Lcom/example/edictum/edictum/io/XpathTokens$Kind;" (.ref w15)) (E_w15 : Exa Z Z.heap w15 "com/example/edictum/edictum/io/XpathTokens$Kind") (Sg30 : Sta Z Z.heap "com/example/edictum/edictum/io/XpathTokens$Kind" "DOT_DOT" "Lcom/example/edictum/edictum/io/XpathTokens$Kind;" (.ref w16)) (E_w16 : Exa Z Z.heap w16 "com/example/edictum/edictum/io/XpathTokens$Kind") (Sg32 : Sta Z Z.heap "com/example/edictum/edictum/io/XpathTokens$Kind" "LITERAL" "Lcom/example/edictum/edictum/io/XpathTokens$Kind;" (.ref w17)) (E_w17 : Exa Z Z.heap w17 "com/example/edictum/edictum/io/XpathTokens$Kind") (Sg34 : Sta Z Z.heap "com/example/edictum/edictum/io/XpathTokens$Kind" "NUMBER" "Lcom/example/edictum/edictum/io/XpathTokens$Kind;" (.ref w18)) (E_w18 : Exa Z Z.heap w18 "com/example/edictum/edictum/io/XpathTokens$Kind") (F_w4_ordinal : Fld Z Z.heap w4 "java/lang/Enum" "ordinal" "I" (.int 3)) (F_w1_ordinal : Fld Z Z.heap w1 "java/lang/Enum" "ordinal" "I" (.int 0)) (F_w11_ordinal : Fld Z Z.heap w11 "java/lang/Enum" "ordinal" "I" (.int 10)) (F_w13_ordinal : Fld Z Z.heap w13 "java/lang/Enum" "ordinal" "I" (.int 12)) (F_w14_ordinal : Fld Z Z.heap w14 "java/lang/Enum" "ordinal" "I" (.int 13)) (F_w15_ordinal : Fld Z Z.heap w15 "java/lang/Enum" "ordinal" "I" (.int 14)) (F_w16_ordinal : Fld Z Z.heap w16 "java/lang/Enum" "ordinal" "I" (.int 15)) (F_w3_ordinal : Fld Z Z.heap w3 "java/lang/Enum" "ordinal" "I" (.int 2)) (F_w2_ordinal : Fld Z Z.heap w2 "java/lang/Enum" "ordinal" "I" (.int 1)) (F_w8_ordinal : Fld Z Z.heap w8 "java/lang/Enum" "ordinal" "I" (.int 7)) (F_w12_ordinal : Fld Z Z.heap w12 "java/lang/Enum" "ordinal" "I" (.int 11)) (F_w5_ordinal : Fld Z Z.heap w5 "java/lang/Enum" "ordinal" "I" (.int 4)) (F_w9_ordinal : Fld Z Z.heap w9 "java/lang/Enum" "ordinal" "I" (.int 8)) (F_w17_ordinal : Fld Z Z.heap w17 "java/lang/Enum" "ordinal" "I" (.int 16)) (F_w7_ordinal : Fld Z Z.heap w7 "java/lang/Enum" "ordinal" "I" (.int 6)) (F_w18_ordinal : Fld Z Z.heap w18 "java/lang/Enum" "ordinal" "I" (.int 17)) (F_w6_ordinal : Fld Z Z.heap w6 "java/lang/Enum" "ordinal" "I" (.int 5)) (F_w10_ordinal : Fld Z Z.heap w10 "java/lang/Enum" "ordinal" "I" (.int 9)) :
    MF l Z x (Jvm.Cond.code x code maxLocals ret) ws room_1 #[(.int p0s)] h0 (fun v _ L => v = some (.int (1 : Int32)) ∧ Fr n0 L) := by
  refine MetFree.of_bodySF (plainFor_of_name pn_1) hisR ?_
  intro p e s m args below meth c s₁ Bd hml0 hP hK
  obtain ⟨rfl, hZ, hh⟩ := hP
  have hx := Bd.exec
  have hby := Bd.bytes
  have hml : c.maxLocals = 4 := hml0
  have hown : s.vm.findClass "com/example/edictum/edictum/io/KindBeginsStepPinLaw" = some m.cls := findClass_of_methodNamed Bd.named
  have hnm := (name_of_methodNamed Bd.named Bd.method).1
  have X0 : Stand p l e room_1 s m #[(.int p0s)] below meth c s₁ [] 0 0 := Stand.of_body Bd
  have e0 : s₁.heap = h0 := by rw [← hh, Bd.state]; rfl
  have N0 := Fr.nil n0
  have pre0 : ∀ t, SF p e below s₁ (mkF m 0 #[iv p0s, .unset, .unset, .unset] []) t → SF p e below s₁ (entryFrame m #[(.int p0s)] maxLocals) t := fun t k => castTop (ef_1 m p0s) k
  have hre := Bd.returns
  have hlk : meth.locks = false := by first | assumption | exact BodyLoose.notSynchronized Bd | exact Body.notSynchronized Bd
  show Fin p e below s n0 _
  obtain ⟨T1, h1, k1, X1, e1, E1, A1, Ov1, st1⟩ := newR X0 hx hZ hown (tw hw 0 rfl) (tw hw 1 rfl) e0 (g := (mkF m 2 #[iv p0s, .unset, .unset, .unset] [(.int 18)])) rfl (hb hby at_2) rfl (by decide) (cap := 18) (by decide) (by decide) (by decide) (by decide)
  obtain ⟨b1, g1⟩ : ∃ z, z = h0.size := ⟨_, rfl⟩
  rw [← g1] at A1 st1
  have V1 : Arv Z h1 b1 k1 (.object "com/example/edictum/edictum/io/XpathTokens$Kind") (18 : Int32) [.null, .null, .null, .null, .null, .null, .null, .null, .null, .null, .null, .null, .null, .null, .null, .null, .null, .null] .null := (Arv.new A1 (by decide)).pad (pad_rep [] .null 18)
  have O1 : Old Z n0 h1 := O0.ext E1
  obtain ⟨T2, X2, e2, st2⟩ := getS2 X1 hx hZ hown (host := "") (Or.inl (tw hw 2 rfl)) Via.refl e1 (Sg0.ext O1.2) (g := (mkF m 7 #[iv p0s, .unset, .unset, .unset] [(.int 0), (.ref b1), (.ref b1)])) rfl (hb hby at_7)
  obtain ⟨cl3, Ar3, q3, S3, N3z, H3, G3⟩ := V1
  have hin3 : ¬ ((0 : Int32) < 0 ∨ cl3.slots.size ≤ ((0 : Int32)).toNatClampNeg) := inb_of S3 ⟨by decide, by decide⟩
  obtain ⟨T4, h4, X4, e4, W4, st4⟩ := stR X2 hx hZ e2 Ar3 (j := (0 : Int32)) hin3 rfl (Sto.ofV Ar3 q3 Ov1 (Ins.self (E_w1.ext O1.2))) (g := (mkF m 10 #[iv p0s, .unset, .unset, .unset] [(.ref w1), (.int 0), (.ref b1), (.ref b1)])) rfl rfl (hb hby at_10)
  have g_b1 : n0 ≤ b1 := Nat.le_trans Z0 (Nat.le_of_eq g1.symm)
  have N4 := Fr.snoc X4 N0 g_b1
  have V4 : Arv Z h4 b1 k1 (.object "com/example/edictum/edictum/io/XpathTokens$Kind") (18 : Int32) [(.ref w1), .null, .null, .null, .null, .null, .null, .null, .null, .null, .null, .null, .null, .null, .null, .null, .null, .null] .null := Arv.set Ar3 q3 S3 N3z H3 G3 rfl W4 0 rfl (Nat.le_of_ble_eq_true rfl)
  have O4 : Old Z n0 h4 := O1.wr W4 g_b1
  obtain ⟨T5, X5, e5, st5⟩ := getS2 X4 hx hZ hown (host := "") (Or.inl (tw hw 6 rfl)) Via.refl e4 (Sg2.ext O4.2) (g := (mkF m 13 #[iv p0s, .unset, .unset, .unset] [(.int 1), (.ref b1), (.ref b1)])) rfl (hb hby at_13)
  obtain ⟨cl6, Ar6, q6, S6, N6z, H6, G6⟩ := V4
  have hin6 : ¬ ((1 : Int32) < 0 ∨ cl6.slots.size ≤ ((1 : Int32)).toNatClampNeg) := inb_of S6 ⟨by decide, by decide⟩
  obtain ⟨T7, h7, X7, e7, W7, st7⟩ := stR X5 hx hZ e5 Ar6 (j := (1 : Int32)) hin6 rfl (Sto.ofV Ar6 q6 Ov1 (Ins.self (E_w2.ext O4.2))) (g := (mkF m 16 #[iv p0s, .unset, .unset, .unset] [(.ref w2), (.int 1), (.ref b1), (.ref b1)])) rfl rfl (hb hby at_16)
  have N7 := Fr.snoc X7 N4 g_b1
  have V7 : Arv Z h7 b1 k1 (.object "com/example/edictum/edictum/io/XpathTokens$Kind") (18 : Int32) [(.ref w1), (.ref w2), .null, .null, .null, .null, .null, .null, .null, .null, .null, .null, .null, .null, .null, .null, .null, .null] .null := Arv.set Ar6 q6 S6 N6z H6 G6 rfl W7 1 rfl (Nat.le_of_ble_eq_true rfl)
  have O7 : Old Z n0 h7 := O4.wr W7 g_b1
  obtain ⟨T8, X8, e8, st8⟩ := getS2 X7 hx hZ hown (host := "") (Or.inl (tw hw 8 rfl)) Via.refl e7 (Sg4.ext O7.2) (g := (mkF m 19 #[iv p0s, .unset, .unset, .unset] [(.int 2), (.ref b1), (.ref b1)])) rfl (hb hby at_19)
  obtain ⟨cl9, Ar9, q9, S9, N9z, H9, G9⟩ := V7
  have hin9 : ¬ ((2 : Int32) < 0 ∨ cl9.slots.size ≤ ((2 : Int32)).toNatClampNeg) := inb_of S9 ⟨by decide, by decide⟩
  obtain ⟨T10, h10, X10, e10, W10, st10⟩ := stR X8 hx hZ e8 Ar9 (j := (2 : Int32)) hin9 rfl (Sto.ofV Ar9 q9 Ov1 (Ins.self (E_w3.ext O7.2))) (g := (mkF m 22 #[iv p0s, .unset, .unset, .unset] [(.ref w3), (.int 2), (.ref b1), (.ref b1)])) rfl rfl (hb hby at_22)
  have N10 := Fr.snoc X10 N7 g_b1
  have V10 : Arv Z h10 b1 k1 (.object "com/example/edictum/edictum/io/XpathTokens$Kind") (18 : Int32) [(.ref w1), (.ref w2), (.ref w3), .null, .null, .null, .null, .null, .null, .null, .null, .null, .null, .null, .null, .null, .null, .null] .null := Arv.set Ar9 q9 S9 N9z H9 G9 rfl W10 2 rfl (Nat.le_of_ble_eq_true rfl)
  have O10 : Old Z n0 h10 := O7.wr W10 g_b1
  obtain ⟨T11, X11, e11, st11⟩ := getS2 X10 hx hZ hown (host := "") (Or.inl (tw hw 10 rfl)) Via.refl e10 (Sg6.ext O10.2) (g := (mkF m 25 #[iv p0s, .unset, .unset, .unset] [(.int 3), (.ref b1), (.ref b1)])) rfl (hb hby at_25)
  obtain ⟨cl12, Ar12, q12, S12, N12z, H12, G12⟩ := V10
  have hin12 : ¬ ((3 : Int32) < 0 ∨ cl12.slots.size ≤ ((3 : Int32)).toNatClampNeg) := inb_of S12 ⟨by decide, by decide⟩
  obtain ⟨T13, h13, X13, e13, W13, st13⟩ := stR X11 hx hZ e11 Ar12 (j := (3 : Int32)) hin12 rfl (Sto.ofV Ar12 q12 Ov1 (Ins.self (E_w4.ext O10.2))) (g := (mkF m 28 #[iv p0s, .unset, .unset, .unset] [(.ref w4), (.int 3), (.ref b1), (.ref b1)])) rfl rfl (hb hby at_28)
  have N13 := Fr.snoc X13 N10 g_b1
  have V13 : Arv Z h13 b1 k1 (.object "com/example/edictum/edictum/io/XpathTokens$Kind") (18 : Int32) [(.ref w1), (.ref w2), (.ref w3), (.ref w4), .null, .null, .null, .null, .null, .null, .null, .null, .null, .null, .null, .null, .null, .null] .null := Arv.set Ar12 q12 S12 N12z H12 G12 rfl W13 3 rfl (Nat.le_of_ble_eq_true rfl)
  have lt_b1_2 : b1 < h4.size := Nat.lt_of_lt_of_le A1.lt (Keep.of_wr W4).1
  have lt_b1_3 : b1 < h7.size := Nat.lt_of_lt_of_le lt_b1_2 (Keep.of_wr W7).1
  have lt_b1_4 : b1 < h10.size := Nat.lt_of_lt_of_le lt_b1_3 (Keep.of_wr W10).1
  have lt_b1_5 : b1 < h13.size := Nat.lt_of_lt_of_le lt_b1_4 (Keep.of_wr W13).1
  have Z1 : n0 ≤ h1.size := Nat.le_trans Z0 E1.1
  have Z4 : n0 ≤ h4.size := Nat.le_trans Z1 (Keep.of_wr W4).1
  have Z7 : n0 ≤ h7.size := Nat.le_trans Z4 (Keep.of_wr W7).1
  have Z10 : n0 ≤ h10.size := Nat.le_trans Z7 (Keep.of_wr W10).1
  have Z13 : n0 ≤ h13.size := Nat.le_trans Z10 (Keep.of_wr W13).1
  have O13 : Old Z n0 h13 := O10.wr W13 g_b1
  refine Fin.pre (fun t k => pre0 _ (?_)) (pc_1 (o1 := b1) (kk1 := k1) X13 hx hZ hw hby hml hown hre hlk e13 N13 Z13 O13 Sg0 E_w1 Sg2 E_w2 Sg4 E_w3 Sg6 E_w4 Sg8 E_w5 Sg10 E_w6 Sg12 E_w7 Sg14 E_w8 Sg16 E_w9 Sg18 E_w10 Sg20 E_w11 Sg22 E_w12 Sg24 E_w13 Sg26 E_w14 Sg28 E_w15 Sg30 E_w16 Sg32 E_w17 Sg34 E_w18 F_w4_ordinal F_w1_ordinal F_w11_ordinal F_w13_ordinal F_w14_ordinal F_w15_ordinal F_w16_ordinal F_w3_ordinal F_w2_ordinal F_w8_ordinal F_w12_ordinal F_w5_ordinal F_w9_ordinal F_w17_ordinal F_w7_ordinal F_w18_ordinal F_w6_ordinal F_w10_ordinal V13 Ov1 g_b1 lt_b1_5)
  show SF p e below s₁ (mkF m 0 #[iv p0s, .unset, .unset, .unset] []) _
  refine XS.bipush X0.here hx rfl (hb hby at_0) ?_
  show SF p e below s₁ (mkF m 2 #[iv p0s, .unset, .unset, .unset] [(.int 18)]) _
  refine st1 _ ?_
  show SF p e below T1 (mkF m 5 #[iv p0s, .unset, .unset, .unset] [(.ref b1)]) _
  refine XS.dup X1.here hx rfl (hb hby at_5) rfl rfl ?_
  show SF p e below T1 (mkF m 6 #[iv p0s, .unset, .unset, .unset] [(.ref b1), (.ref b1)]) _
  refine XS.iconst X1.here hx rfl (hb hby at_6) ?_
  show SF p e below T1 (mkF m 7 #[iv p0s, .unset, .unset, .unset] [(.int 0), (.ref b1), (.ref b1)]) _
  refine st2 _ ?_
  show SF p e below T2 (mkF m 10 #[iv p0s, .unset, .unset, .unset] [(.ref w1), (.int 0), (.ref b1), (.ref b1)]) _
  refine st4 _ ?_
  show SF p e below T4 (mkF m 11 #[iv p0s, .unset, .unset, .unset] [(.ref b1)]) _
  refine XS.dup X4.here hx rfl (hb hby at_11) rfl rfl ?_
  show SF p e below T4 (mkF m 12 #[iv p0s, .unset, .unset, .unset] [(.ref b1), (.ref b1)]) _
  refine XS.iconst X4.here hx rfl (hb hby at_12) ?_
  show SF p e below T4 (mkF m 13 #[iv p0s, .unset, .unset, .unset] [(.int 1), (.ref b1), (.ref b1)]) _
  refine st5 _ ?_
  show SF p e below T5 (mkF m 16 #[iv p0s, .unset, .unset, .unset] [(.ref w2), (.int 1), (.ref b1), (.ref b1)]) _
  refine st7 _ ?_
  show SF p e below T7 (mkF m 17 #[iv p0s, .unset, .unset, .unset] [(.ref b1)]) _
  refine XS.dup X7.here hx rfl (hb hby at_17) rfl rfl ?_
  show SF p e below T7 (mkF m 18 #[iv p0s, .unset, .unset, .unset] [(.ref b1), (.ref b1)]) _
  refine XS.iconst X7.here hx rfl (hb hby at_18) ?_
  show SF p e below T7 (mkF m 19 #[iv p0s, .unset, .unset, .unset] [(.int 2), (.ref b1), (.ref b1)]) _
  refine st8 _ ?_
  show SF p e below T8 (mkF m 22 #[iv p0s, .unset, .unset, .unset] [(.ref w3), (.int 2), (.ref b1), (.ref b1)]) _
  refine st10 _ ?_
  show SF p e below T10 (mkF m 23 #[iv p0s, .unset, .unset, .unset] [(.ref b1)]) _
  refine XS.dup X10.here hx rfl (hb hby at_23) rfl rfl ?_
  show SF p e below T10 (mkF m 24 #[iv p0s, .unset, .unset, .unset] [(.ref b1), (.ref b1)]) _
  refine XS.iconst X10.here hx rfl (hb hby at_24) ?_
  show SF p e below T10 (mkF m 25 #[iv p0s, .unset, .unset, .unset] [(.int 3), (.ref b1), (.ref b1)]) _
  refine st11 _ ?_
  show SF p e below T11 (mkF m 28 #[iv p0s, .unset, .unset, .unset] [(.ref w4), (.int 3), (.ref b1), (.ref b1)]) _
  refine st13 _ ?_
  exact k
set_option maxRecDepth 65536 in
set_option maxHeartbeats 40000000 in
theorem comes_1 {Post : Tables → Env → Array Value → State → Outcome → State → Prop} (hpost : ∀ tb e args s v u, (limb_1_1.after args s (.returned v) u = true ∧ limb_1_2.after args s (.returned v) u = true ∧ True) → FrameEnd s (.returned v) u (Jvm.fieldLocs frame_1_writes args s ++ Jvm.arrayLocs frame_1_arrays args s ++ Jvm.staticLocs frame_1_statics s) 16 192 → Post tb e args s (.returned v) u) :
    ArmFor flags0 classFile x code maxLocals ret World_1 tables_1 room_1 Calls_1 rest_1 Pre_1 Post := by
  intro l hfl _ _ p e ha hc hk s m args below hf hA hF happ hP
  obtain ⟨hcalls, hrest, hpre⟩ := hP
  obtain ⟨-, -, -, hnamed, -, -, -, hat⟩ := (Spec.applies_iff hf).mp happ
  obtain ⟨hg, hn⟩ := and_e (Cond.before_iff.mp (show (Jvm.Cond.and given_1 narrow_1).before args s = true from hpre))
  obtain ⟨gv0, gr0⟩ := and_e hg
  have gv1 := gr0
  obtain ⟨av0, rfl⟩ : ∃ av0 : Value, args = #[av0] := by
    have hs : args.size = 1 := by simpa [Cond.value, given_1] using gv0
    obtain ⟨L⟩ := args
    match L, hs with
    | [av0], _ => exact ⟨av0, rfl⟩
  have hw := fun d (hd : d ∈ tables_1) => atoms_spec (ws := Jvm.Cond.code x code maxLocals ret :: tables_1) hat d (List.mem_cons_of_mem _ hd)
  have hfit : Fit s := fun {y c} hc i hi => by
    obtain ⟨ha, rfl⟩ := Array.getElem?_eq_some_iff.mp hc
    have q := List.all_eq_true.mp ((Array.all_eq_true_iff_forall_mem.mp hF) _ (Array.getElem_mem ha)) i (List.mem_range.mpr hi)
    simpa [Array.getElem?_eq_getElem hi] using q
  obtain ⟨p0s, ei0⟩ := is_v gv1
  obtain rfl : av0 = (.int p0s) := Option.some.inj ei0
  obtain ⟨nv0, nr0⟩ := and_e hn
  obtain ⟨nv1, nr1⟩ := and_e nr0
  obtain ⟨nv2, nr2⟩ := and_e nr1
  obtain ⟨nv3, nr3⟩ := and_e nr2
  obtain ⟨nv4, nr4⟩ := and_e nr3
  obtain ⟨nv5, nr5⟩ := and_e nr4
  obtain ⟨nv6, nr6⟩ := and_e nr5
  obtain ⟨nv7, nr7⟩ := and_e nr6
  obtain ⟨nv8, nr8⟩ := and_e nr7
  obtain ⟨nv9, nr9⟩ := and_e nr8
  obtain ⟨nv10, nr10⟩ := and_e nr9
  obtain ⟨nv11, nr11⟩ := and_e nr10
  obtain ⟨nv12, nr12⟩ := and_e nr11
  obtain ⟨nv13, nr13⟩ := and_e nr12
  obtain ⟨nv14, nr14⟩ := and_e nr13
  obtain ⟨nv15, nr15⟩ := and_e nr14
  obtain ⟨nv16, nr16⟩ := and_e nr15
  obtain ⟨nv17, nr17⟩ := and_e nr16
  obtain ⟨nv18, nr18⟩ := and_e nr17
  obtain ⟨nv19, nr19⟩ := and_e nr18
  obtain ⟨nv20, nr20⟩ := and_e nr19
  obtain ⟨nv21, nr21⟩ := and_e nr20
  obtain ⟨nv22, nr22⟩ := and_e nr21
  obtain ⟨nv23, nr23⟩ := and_e nr22
  obtain ⟨nv24, nr24⟩ := and_e nr23
  obtain ⟨nv25, nr25⟩ := and_e nr24
  obtain ⟨nv26, nr26⟩ := and_e nr25
  obtain ⟨nv27, nr27⟩ := and_e nr26
  obtain ⟨nv28, nr28⟩ := and_e nr27
  obtain ⟨nv29, nr29⟩ := and_e nr28
  obtain ⟨nv30, nr30⟩ := and_e nr29
  obtain ⟨nv31, nr31⟩ := and_e nr30
  obtain ⟨nv32, nr32⟩ := and_e nr31
  obtain ⟨nv33, nr33⟩ := and_e nr32
  obtain ⟨nv34, nr34⟩ := and_e nr33
  obtain ⟨w1, ev_w1⟩ := exa_v nv0
  have Sg0 : Sta s s.heap "com/example/edictum/edictum/io/XpathTokens$Kind" "AT" "Lcom/example/edictum/edictum/io/XpathTokens$Kind;" (.ref w1) := Sta.start ev_w1 (Or.inr ⟨(tw hw 3 rfl), (tw hw 4 rfl)⟩)
  have E_w1 : Exa s s.heap w1 "com/example/edictum/edictum/io/XpathTokens$Kind" := Exa.start ev_w1 nv0
  obtain ⟨w2, ev_w2⟩ := exa_v nv1
  have Sg2 : Sta s s.heap "com/example/edictum/edictum/io/XpathTokens$Kind" "AXIS_SEPARATOR" "Lcom/example/edictum/edictum/io/XpathTokens$Kind;" (.ref w2) := Sta.start ev_w2 (Or.inr ⟨(tw hw 3 rfl), (tw hw 7 rfl)⟩)
  have E_w2 : Exa s s.heap w2 "com/example/edictum/edictum/io/XpathTokens$Kind" := Exa.start ev_w2 nv1
  obtain ⟨w3, ev_w3⟩ := exa_v nv2
  have Sg4 : Sta s s.heap "com/example/edictum/edictum/io/XpathTokens$Kind" "LEFT_PAREN" "Lcom/example/edictum/edictum/io/XpathTokens$Kind;" (.ref w3) := Sta.start ev_w3 (Or.inr ⟨(tw hw 3 rfl), (tw hw 9 rfl)⟩)
  have E_w3 : Exa s s.heap w3 "com/example/edictum/edictum/io/XpathTokens$Kind" := Exa.start ev_w3 nv2
  obtain ⟨w4, ev_w4⟩ := exa_v nv3
  have Sg6 : Sta s s.heap "com/example/edictum/edictum/io/XpathTokens$Kind" "LEFT_BRACKET" "Lcom/example/edictum/edictum/io/XpathTokens$Kind;" (.ref w4) := Sta.start ev_w4 (Or.inr ⟨(tw hw 3 rfl), (tw hw 11 rfl)⟩)
  have E_w4 : Exa s s.heap w4 "com/example/edictum/edictum/io/XpathTokens$Kind" := Exa.start ev_w4 nv3
  obtain ⟨w5, ev_w5⟩ := exa_v nv4
  have Sg8 : Sta s s.heap "com/example/edictum/edictum/io/XpathTokens$Kind" "COMMA" "Lcom/example/edictum/edictum/io/XpathTokens$Kind;" (.ref w5) := Sta.start ev_w5 (Or.inr ⟨(tw hw 3 rfl), (tw hw 13 rfl)⟩)
  have E_w5 : Exa s s.heap w5 "com/example/edictum/edictum/io/XpathTokens$Kind" := Exa.start ev_w5 nv4
  obtain ⟨w6, ev_w6⟩ := exa_v nv5
  have Sg10 : Sta s s.heap "com/example/edictum/edictum/io/XpathTokens$Kind" "RIGHT_PAREN" "Lcom/example/edictum/edictum/io/XpathTokens$Kind;" (.ref w6) := Sta.start ev_w6 (Or.inr ⟨(tw hw 3 rfl), (tw hw 15 rfl)⟩)
  have E_w6 : Exa s s.heap w6 "com/example/edictum/edictum/io/XpathTokens$Kind" := Exa.start ev_w6 nv5
  obtain ⟨w7, ev_w7⟩ := exa_v nv6
  have Sg12 : Sta s s.heap "com/example/edictum/edictum/io/XpathTokens$Kind" "RIGHT_BRACKET" "Lcom/example/edictum/edictum/io/XpathTokens$Kind;" (.ref w7) := Sta.start ev_w7 (Or.inr ⟨(tw hw 3 rfl), (tw hw 17 rfl)⟩)
  have E_w7 : Exa s s.heap w7 "com/example/edictum/edictum/io/XpathTokens$Kind" := Exa.start ev_w7 nv6
  obtain ⟨w8, ev_w8⟩ := exa_v nv7
  have Sg14 : Sta s s.heap "com/example/edictum/edictum/io/XpathTokens$Kind" "SLASH" "Lcom/example/edictum/edictum/io/XpathTokens$Kind;" (.ref w8) := Sta.start ev_w8 (Or.inr ⟨(tw hw 3 rfl), (tw hw 19 rfl)⟩)
  have E_w8 : Exa s s.heap w8 "com/example/edictum/edictum/io/XpathTokens$Kind" := Exa.start ev_w8 nv7
  obtain ⟨w9, ev_w9⟩ := exa_v nv8
  have Sg16 : Sta s s.heap "com/example/edictum/edictum/io/XpathTokens$Kind" "DOUBLE_SLASH" "Lcom/example/edictum/edictum/io/XpathTokens$Kind;" (.ref w9) := Sta.start ev_w9 (Or.inr ⟨(tw hw 3 rfl), (tw hw 21 rfl)⟩)
  have E_w9 : Exa s s.heap w9 "com/example/edictum/edictum/io/XpathTokens$Kind" := Exa.start ev_w9 nv8
  obtain ⟨w10, ev_w10⟩ := exa_v nv9
  have Sg18 : Sta s s.heap "com/example/edictum/edictum/io/XpathTokens$Kind" "OPERATOR" "Lcom/example/edictum/edictum/io/XpathTokens$Kind;" (.ref w10) := Sta.start ev_w10 (Or.inr ⟨(tw hw 3 rfl), (tw hw 23 rfl)⟩)
  have E_w10 : Exa s s.heap w10 "com/example/edictum/edictum/io/XpathTokens$Kind" := Exa.start ev_w10 nv9
  obtain ⟨w11, ev_w11⟩ := exa_v nv10
  have Sg20 : Sta s s.heap "com/example/edictum/edictum/io/XpathTokens$Kind" "AXIS" "Lcom/example/edictum/edictum/io/XpathTokens$Kind;" (.ref w11) := Sta.start ev_w11 (Or.inr ⟨(tw hw 3 rfl), (tw hw 25 rfl)⟩)
  have E_w11 : Exa s s.heap w11 "com/example/edictum/edictum/io/XpathTokens$Kind" := Exa.start ev_w11 nv10
  obtain ⟨w12, ev_w12⟩ := exa_v nv11
  have Sg22 : Sta s s.heap "com/example/edictum/edictum/io/XpathTokens$Kind" "FUNCTION" "Lcom/example/edictum/edictum/io/XpathTokens$Kind;" (.ref w12) := Sta.start ev_w12 (Or.inr ⟨(tw hw 3 rfl), (tw hw 27 rfl)⟩)
  have E_w12 : Exa s s.heap w12 "com/example/edictum/edictum/io/XpathTokens$Kind" := Exa.start ev_w12 nv11
  obtain ⟨w13, ev_w13⟩ := exa_v nv12
  have Sg24 : Sta s s.heap "com/example/edictum/edictum/io/XpathTokens$Kind" "NODE_TYPE" "Lcom/example/edictum/edictum/io/XpathTokens$Kind;" (.ref w13) := Sta.start ev_w13 (Or.inr ⟨(tw hw 3 rfl), (tw hw 29 rfl)⟩)
  have E_w13 : Exa s s.heap w13 "com/example/edictum/edictum/io/XpathTokens$Kind" := Exa.start ev_w13 nv12
  obtain ⟨w14, ev_w14⟩ := exa_v nv13
  have Sg26 : Sta s s.heap "com/example/edictum/edictum/io/XpathTokens$Kind" "NAME_TEST" "Lcom/example/edictum/edictum/io/XpathTokens$Kind;" (.ref w14) := Sta.start ev_w14 (Or.inr ⟨(tw hw 3 rfl), (tw hw 31 rfl)⟩)
  have E_w14 : Exa s s.heap w14 "com/example/edictum/edictum/io/XpathTokens$Kind" := Exa.start ev_w14 nv13
  obtain ⟨w15, ev_w15⟩ := exa_v nv14
  have Sg28 : Sta s s.heap "com/example/edictum/edictum/io/XpathTokens$Kind" "DOT" "Lcom/example/edictum/edictum/io/XpathTokens$Kind;" (.ref w15) := Sta.start ev_w15 (Or.inr ⟨(tw hw 3 rfl), (tw hw 33 rfl)⟩)
  have E_w15 : Exa s s.heap w15 "com/example/edictum/edictum/io/XpathTokens$Kind" := Exa.start ev_w15 nv14
  obtain ⟨w16, ev_w16⟩ := exa_v nv15
  have Sg30 : Sta s s.heap "com/example/edictum/edictum/io/XpathTokens$Kind" "DOT_DOT" "Lcom/example/edictum/edictum/io/XpathTokens$Kind;" (.ref w16) := Sta.start ev_w16 (Or.inr ⟨(tw hw 3 rfl), (tw hw 35 rfl)⟩)
  have E_w16 : Exa s s.heap w16 "com/example/edictum/edictum/io/XpathTokens$Kind" := Exa.start ev_w16 nv15
  obtain ⟨w17, ev_w17⟩ := exa_v nv16
  have Sg32 : Sta s s.heap "com/example/edictum/edictum/io/XpathTokens$Kind" "LITERAL" "Lcom/example/edictum/edictum/io/XpathTokens$Kind;" (.ref w17) := Sta.start ev_w17 (Or.inr ⟨(tw hw 3 rfl), (tw hw 37 rfl)⟩)
  have E_w17 : Exa s s.heap w17 "com/example/edictum/edictum/io/XpathTokens$Kind" := Exa.start ev_w17 nv16
  obtain ⟨w18, ev_w18⟩ := exa_v nv17
  have Sg34 : Sta s s.heap "com/example/edictum/edictum/io/XpathTokens$Kind" "NUMBER" "Lcom/example/edictum/edictum/io/XpathTokens$Kind;" (.ref w18) := Sta.start ev_w18 (Or.inr ⟨(tw hw 3 rfl), (tw hw 39 rfl)⟩)
  have E_w18 : Exa s s.heap w18 "com/example/edictum/edictum/io/XpathTokens$Kind" := Exa.start ev_w18 nv17
  have F_w4_ordinal : Fld s s.heap w4 "java/lang/Enum" "ordinal" "I" (.int 3) := Fld.start ((fld_at ev_w4).symm.trans (own_eqv nv18 (Term.int_eval (3))))
  have F_w1_ordinal : Fld s s.heap w1 "java/lang/Enum" "ordinal" "I" (.int 0) := Fld.start ((fld_at ev_w1).symm.trans (own_eqv nv19 (Term.int_eval (0))))
  have F_w11_ordinal : Fld s s.heap w11 "java/lang/Enum" "ordinal" "I" (.int 10) := Fld.start ((fld_at ev_w11).symm.trans (own_eqv nv20 (Term.int_eval (10))))
  have F_w13_ordinal : Fld s s.heap w13 "java/lang/Enum" "ordinal" "I" (.int 12) := Fld.start ((fld_at ev_w13).symm.trans (own_eqv nv21 (Term.int_eval (12))))
  have F_w14_ordinal : Fld s s.heap w14 "java/lang/Enum" "ordinal" "I" (.int 13) := Fld.start ((fld_at ev_w14).symm.trans (own_eqv nv22 (Term.int_eval (13))))
  have F_w15_ordinal : Fld s s.heap w15 "java/lang/Enum" "ordinal" "I" (.int 14) := Fld.start ((fld_at ev_w15).symm.trans (own_eqv nv23 (Term.int_eval (14))))
  have F_w16_ordinal : Fld s s.heap w16 "java/lang/Enum" "ordinal" "I" (.int 15) := Fld.start ((fld_at ev_w16).symm.trans (own_eqv nv24 (Term.int_eval (15))))
  have F_w3_ordinal : Fld s s.heap w3 "java/lang/Enum" "ordinal" "I" (.int 2) := Fld.start ((fld_at ev_w3).symm.trans (own_eqv nv25 (Term.int_eval (2))))
  have F_w2_ordinal : Fld s s.heap w2 "java/lang/Enum" "ordinal" "I" (.int 1) := Fld.start ((fld_at ev_w2).symm.trans (own_eqv nv26 (Term.int_eval (1))))
  have F_w8_ordinal : Fld s s.heap w8 "java/lang/Enum" "ordinal" "I" (.int 7) := Fld.start ((fld_at ev_w8).symm.trans (own_eqv nv27 (Term.int_eval (7))))
  have F_w12_ordinal : Fld s s.heap w12 "java/lang/Enum" "ordinal" "I" (.int 11) := Fld.start ((fld_at ev_w12).symm.trans (own_eqv nv28 (Term.int_eval (11))))
  have F_w5_ordinal : Fld s s.heap w5 "java/lang/Enum" "ordinal" "I" (.int 4) := Fld.start ((fld_at ev_w5).symm.trans (own_eqv nv29 (Term.int_eval (4))))
  have F_w9_ordinal : Fld s s.heap w9 "java/lang/Enum" "ordinal" "I" (.int 8) := Fld.start ((fld_at ev_w9).symm.trans (own_eqv nv30 (Term.int_eval (8))))
  have F_w17_ordinal : Fld s s.heap w17 "java/lang/Enum" "ordinal" "I" (.int 16) := Fld.start ((fld_at ev_w17).symm.trans (own_eqv nv31 (Term.int_eval (16))))
  have F_w7_ordinal : Fld s s.heap w7 "java/lang/Enum" "ordinal" "I" (.int 6) := Fld.start ((fld_at ev_w7).symm.trans (own_eqv nv32 (Term.int_eval (6))))
  have F_w18_ordinal : Fld s s.heap w18 "java/lang/Enum" "ordinal" "I" (.int 17) := Fld.start ((fld_at ev_w18).symm.trans (own_eqv nv33 (Term.int_eval (17))))
  have F_w6_ordinal : Fld s s.heap w6 "java/lang/Enum" "ordinal" "I" (.int 5) := Fld.start ((fld_at ev_w6).symm.trans (own_eqv nv34 (Term.int_eval (5))))
  have F_w10_ordinal : Fld s s.heap w10 "java/lang/Enum" "ordinal" "I" (.int 9) := Fld.start ((fld_at ev_w10).symm.trans (own_eqv nr34 (Term.int_eval (9))))
  have O0 := Old.start s
  obtain ⟨n, o, h1, h2, h3, _, L, rfl, ⟨rfl, N⟩, hq⟩ := rm0 l s _ hw tables_1 p0s w1 w2 w3 w4 w5 w6 w7 w8 w9 w10 w11 w12 w13 w14 w15 w16 w17 w18 s.heap s.heap.size (Nat.le_refl _) O0 Sg0 E_w1 Sg2 E_w2 Sg4 E_w3 Sg6 E_w4 Sg8 E_w5 Sg10 E_w6 Sg12 E_w7 Sg14 E_w8 Sg16 E_w9 Sg18 E_w10 Sg20 E_w11 Sg22 E_w12 Sg24 E_w13 Sg26 E_w14 Sg28 E_w15 Sg30 E_w16 Sg32 E_w17 Sg34 E_w18 F_w4_ordinal F_w1_ordinal F_w11_ordinal F_w13_ordinal F_w14_ordinal F_w15_ordinal F_w16_ordinal F_w3_ordinal F_w2_ordinal F_w8_ordinal F_w12_ordinal F_w5_ordinal F_w9_ordinal F_w17_ordinal F_w7_ordinal F_w18_ordinal F_w6_ordinal F_w10_ordinal p e ha hc hk s m _ below hf ((Spec.applies_iff_loose hf).mp happ).1 ⟨rfl, State.Warmed39.refl s, rfl⟩ trivial
  refine ⟨n, _, h1, h2, h3, hpost _ _ _ _ _ _ ⟨Cond.after_iff.mpr rfl, Cond.after_iff.mpr (eq_i res_at (Term.int_eval (1)) rfl), trivial⟩ ⟨hq.1, hq.2.1, (hq.2.2.sift fun y hy => Or.inr (N y hy)).mono (by decide) (by decide)⟩⟩
theorem main_1_1 : Claimed_1_1 := comes_1 fun _ _ _ _ _ _ h hF => ⟨h.1, hF⟩
theorem main_1_2 : Claimed_1_2 := comes_1 fun _ _ _ _ _ _ h hF => ⟨h.2.1, hF⟩
end Jvm.Pilot.@@N@@
namespace Jvm.Pilot.@@N@@
open Jvm Jvm.ClassFile Sem Op Lib Jvm.Free Jvm.Stand Jvm.Pilot.@@N@@.Jvm.D
/-! MADE BY PROGRAM (witnessworld.py) out of the Statement's table words and the real class files: 15 classes; the members and pool entries that the words name. The judged class is class 1, her method 1. -/
namespace start1
open Jvm.ClassFile
def u (s : String) : CpInfo := .utf8 (stringToUtf16 s)
/-- a pool by its gaps: so many unusable entries, then the entry; so many at the end -/
def gap : Nat → List CpInfo → List CpInfo
  | 0, r => r
  | n + 1, r => .unusable :: gap n r
def poolList (es : List (Nat × CpInfo)) (last : Nat) : List CpInfo := es.foldr (fun e r => gap e.1 (e.2 :: r)) (gap last [])
def pool (es : List (Nat × CpInfo)) (last : Nat) : Array CpInfo := ⟨poolList es last⟩
def fileOf (pool : Array CpInfo) (this : Nat) (attrs : Array Attribute := #[]) (ms : Array MethodInfo := #[]) (fl : Nat := 33) (sup : Nat := 0) (ifs : Array Nat := #[]) (fds : Array FieldInfo := #[]) : ClassFile where
  minorVersion := 0
  majorVersion := 65
  constantPool := pool
  accessFlags := fl
  thisClass := this
  superClass := sup
  interfaces := ifs
  fields := fds
  methods := ms
  attributes := attrs
def plain (name : String) (sup : Option ClassId) : Class where
  name := name
  kind := .ordinary
  loader := none
  accessFlags := 33
  super := sup
  interfaces := #[]
  cf := none
  fields := #[]
  methods := #[]
  instanceTypes := #[]
  staticTypes := #[]
  resolved := #[]
  callSites := []
  init := .initialized
  statics := none
  mirror := none

def pool0 : Array CpInfo := pool [(5, u "<init>"), (0, u "()V"), (1, .class_ 10), (1, u "java/lang/Object")] 113

def k0m0 : Method := { name := "<init>", desc := "()V", sig := { parameters := [], returnType := none }, accessFlags := 1, code := none }
/-- java/lang/Object -/
def k0 : Class := { plain "java/lang/Object" none with
  accessFlags := 33
  interfaces := #[]
  cf := some (fileOf pool0 8 #[] #[{ accessFlags := 1, nameIndex := 5, descriptorIndex := 6, attributes := #[] }] 33 0 #[] #[])
  fields := #[]
  methods := #[k0m0]
  instanceTypes := #[]
  staticTypes := #[]
  resolved := Array.replicate 124 none
  statics := none }

def pool1 : Array CpInfo := pool [(2, .class_ 4), (1, u "java/lang/Object"), (0, u "<init>"), (0, u "()V"), (0, .class_ 8), (0, u "com/example/edictum/edictum/io/XpathTokens$Kind"), (0, .fieldref 7 10), (0, .nameAndType 11 12), (0, u "AT"), (0, u "Lcom/example/edictum/edictum/io/XpathTokens$Kind;"), (0, .fieldref 7 14), (0, .nameAndType 15 12), (0, u "AXIS_SEPARATOR"), (0, .fieldref 7 17), (0, .nameAndType 18 12), (0, u "LEFT_PAREN"), (0, .fieldref 7 20), (0, .nameAndType 21 12), (0, u "LEFT_BRACKET"), (0, .fieldref 7 23), (0, .nameAndType 24 12), (0, u "COMMA"), (0, .fieldref 7 26), (0, .nameAndType 27 12), (0, u "RIGHT_PAREN"), (0, .fieldref 7 29), (0, .nameAndType 30 12), (0, u "RIGHT_BRACKET"), (0, .fieldref 7 32), (0, .nameAndType 33 12), (0, u "SLASH"), (0, .fieldref 7 35), (0, .nameAndType 36 12), (0, u "DOUBLE_SLASH"), (0, .fieldref 7 38), (0, .nameAndType 39 12), (0, u "OPERATOR"), (0, .fieldref 7 41), (0, .nameAndType 42 12), (0, u "AXIS"), (0, .fieldref 7 44), (0, .nameAndType 45 12), (0, u "FUNCTION"), (0, .fieldref 7 47), (0, .nameAndType 48 12), (0, u "NODE_TYPE"), (0, .fieldref 7 50), (0, .nameAndType 51 12), (0, u "NAME_TEST"), (0, .fieldref 7 53), (0, .nameAndType 54 12), (0, u "DOT"), (0, .fieldref 7 56), (0, .nameAndType 57 12), (0, u "DOT_DOT"), (0, .fieldref 7 59), (0, .nameAndType 60 12), (0, u "LITERAL"), (0, .fieldref 7 62), (0, .nameAndType 63 12), (0, u "NUMBER"), (0, .integer 2147483647), (0, .methodref 7 66), (0, .nameAndType 67 68), (0, u "beginsStep"), (0, u "()Z"), (0, .class_ 70), (0, u "com/example/edictum/edictum/io/KindBeginsStepPinLaw"), (2, u "law"), (0, u "(I)Z")] 11

def k1m0 : Method := { name := "<init>", desc := "()V", sig := { parameters := [], returnType := none }, accessFlags := 2, code := none }
def k1c1 : Code := { maxStack := 4, maxLocals := 4, code := code, exceptionTable := #[], attributes := #[] }
def k1m1 : Method := { name := "law", desc := "(I)Z", sig := { parameters := [.int], returnType := some .boolean }, accessFlags := 9, code := some k1c1 }
/-- com/example/edictum/edictum/io/KindBeginsStepPinLaw -/
def k1 : Class := { plain "com/example/edictum/edictum/io/KindBeginsStepPinLaw" (some 0) with
  accessFlags := 49
  interfaces := #[]
  cf := some (fileOf pool1 69 #[] #[{ accessFlags := 2, nameIndex := 5, descriptorIndex := 6, attributes := #[] }, { accessFlags := 9, nameIndex := 73, descriptorIndex := 74, attributes := #[] }] 49 2 #[] #[])
  fields := #[]
  methods := #[k1m0, k1m1]
  instanceTypes := #[]
  staticTypes := #[]
  resolved := Array.replicate 86 none
  statics := none }

def pool2 : Array CpInfo := pool [(1, .class_ 2), (0, u "java/lang/constant/Constable"), (0, .class_ 4), (0, u "java/lang/Object")] 6

/-- java/lang/constant/Constable -/
def k2 : Class := { plain "java/lang/constant/Constable" (some 0) with
  accessFlags := 1537
  interfaces := #[]
  cf := some (fileOf pool2 1 #[] #[] 1537 3 #[] #[])
  fields := #[]
  methods := #[]
  instanceTypes := #[]
  staticTypes := #[]
  resolved := Array.replicate 11 none
  statics := none }

def pool3 : Array CpInfo := pool [(1, .class_ 2), (0, u "java/lang/Comparable"), (0, .class_ 4), (0, u "java/lang/Object")] 7

/-- java/lang/Comparable -/
def k3 : Class := { plain "java/lang/Comparable" (some 0) with
  accessFlags := 1537
  interfaces := #[]
  cf := some (fileOf pool3 1 #[] #[] 1537 3 #[] #[])
  fields := #[]
  methods := #[]
  instanceTypes := #[]
  staticTypes := #[]
  resolved := Array.replicate 12 none
  statics := none }

def pool4 : Array CpInfo := pool [(1, .class_ 2), (0, u "java/io/Serializable"), (0, .class_ 4), (0, u "java/lang/Object")] 2

/-- java/io/Serializable -/
def k4 : Class := { plain "java/io/Serializable" (some 0) with
  accessFlags := 1537
  interfaces := #[]
  cf := some (fileOf pool4 1 #[] #[] 1537 3 #[] #[])
  fields := #[]
  methods := #[]
  instanceTypes := #[]
  staticTypes := #[]
  resolved := Array.replicate 7 none
  statics := none }

def pool5 : Array CpInfo := pool [(2, .class_ 4), (1, u "java/lang/Enum"), (0, u "name"), (0, u "Ljava/lang/String;"), (2, u "ordinal"), (0, u "I"), (1, .class_ 14), (1, u "java/lang/Object"), (4, u "hash"), (86, .class_ 108), (1, u "java/lang/Enum$EnumDesc"), (2, .class_ 112), (0, u "java/lang/constant/Constable"), (0, .class_ 114), (0, u "java/lang/Comparable"), (0, .class_ 116), (0, u "java/io/Serializable")] 87

/-- java/lang/Enum -/
def k5 : Class := { plain "java/lang/Enum" (some 0) with
  accessFlags := 1057
  interfaces := #[2, 3, 4]
  cf := some (fileOf pool5 2 #[.nestMembers #[106]] #[] 1057 12 #[111, 113, 115] #[{ accessFlags := 18, nameIndex := 5, descriptorIndex := 6, attributes := #[] }, { accessFlags := 18, nameIndex := 9, descriptorIndex := 10, attributes := #[] }, { accessFlags := 2, nameIndex := 19, descriptorIndex := 10, attributes := #[] }])
  fields := #[{ name := "name", type := (.object "java/lang/String"), accessFlags := 18, slot := 0, constantValue := 0 }, { name := "ordinal", type := .int, accessFlags := 18, slot := 1, constantValue := 0 }, { name := "hash", type := .int, accessFlags := 2, slot := 2, constantValue := 0 }]
  methods := #[]
  instanceTypes := #[(.object "java/lang/String"), .int, .int]
  staticTypes := #[]
  resolved := Array.replicate 204 none
  statics := none }

def pool6 : Array CpInfo := pool [(1, .class_ 2), (0, u "com/example/edictum/edictum/io/XpathTokens$Kind"), (0, .fieldref 1 4), (0, .nameAndType 5 6), (0, u "AT"), (0, u "Lcom/example/edictum/edictum/io/XpathTokens$Kind;"), (2, u "AXIS_SEPARATOR"), (2, u "LEFT_PAREN"), (2, u "LEFT_BRACKET"), (2, u "COMMA"), (2, u "RIGHT_PAREN"), (2, u "RIGHT_BRACKET"), (2, u "SLASH"), (2, u "DOUBLE_SLASH"), (2, u "OPERATOR"), (0, .fieldref 1 35), (0, .nameAndType 36 6), (0, u "AXIS"), (2, u "FUNCTION"), (0, .fieldref 1 41), (0, .nameAndType 42 6), (0, u "NODE_TYPE"), (0, .fieldref 1 44), (0, .nameAndType 45 6), (0, u "NAME_TEST"), (0, .fieldref 1 47), (0, .nameAndType 48 6), (0, u "DOT"), (0, .fieldref 1 50), (0, .nameAndType 51 6), (0, u "DOT_DOT"), (2, u "LITERAL"), (2, u "NUMBER"), (2, u "$VALUES"), (0, u "[Lcom/example/edictum/edictum/io/XpathTokens$Kind;"), (6, .class_ 70), (1, u "java/lang/Enum"), (37, u "()Z"), (1, u "beginsStep"), (6, .class_ 118), (0, u "com/example/edictum/edictum/io/XpathTokens")] 2

def k6c0 : Code := { maxStack := 2, maxLocals := 1, code := prog_252_method_5_code, exceptionTable := #[], attributes := #[] }
def k6m0 : Method := { name := "beginsStep", desc := "()Z", sig := { parameters := [], returnType := some .boolean }, accessFlags := 0, code := some k6c0 }
/-- com/example/edictum/edictum/io/XpathTokens$Kind -/
def k6 : Class := { plain "com/example/edictum/edictum/io/XpathTokens$Kind" (some 5) with
  accessFlags := 16432
  interfaces := #[]
  cf := some (fileOf pool6 1 #[.nestHost 117] #[{ accessFlags := 0, nameIndex := 110, descriptorIndex := 108, attributes := #[] }] 16432 68 #[] #[{ accessFlags := 16409, nameIndex := 5, descriptorIndex := 6, attributes := #[] }, { accessFlags := 16409, nameIndex := 9, descriptorIndex := 6, attributes := #[] }, { accessFlags := 16409, nameIndex := 12, descriptorIndex := 6, attributes := #[] }, { accessFlags := 16409, nameIndex := 15, descriptorIndex := 6, attributes := #[] }, { accessFlags := 16409, nameIndex := 18, descriptorIndex := 6, attributes := #[] }, { accessFlags := 16409, nameIndex := 21, descriptorIndex := 6, attributes := #[] }, { accessFlags := 16409, nameIndex := 24, descriptorIndex := 6, attributes := #[] }, { accessFlags := 16409, nameIndex := 27, descriptorIndex := 6, attributes := #[] }, { accessFlags := 16409, nameIndex := 30, descriptorIndex := 6, attributes := #[] }, { accessFlags := 16409, nameIndex := 33, descriptorIndex := 6, attributes := #[] }, { accessFlags := 16409, nameIndex := 36, descriptorIndex := 6, attributes := #[] }, { accessFlags := 16409, nameIndex := 39, descriptorIndex := 6, attributes := #[] }, { accessFlags := 16409, nameIndex := 42, descriptorIndex := 6, attributes := #[] }, { accessFlags := 16409, nameIndex := 45, descriptorIndex := 6, attributes := #[] }, { accessFlags := 16409, nameIndex := 48, descriptorIndex := 6, attributes := #[] }, { accessFlags := 16409, nameIndex := 51, descriptorIndex := 6, attributes := #[] }, { accessFlags := 16409, nameIndex := 54, descriptorIndex := 6, attributes := #[] }, { accessFlags := 16409, nameIndex := 57, descriptorIndex := 6, attributes := #[] }, { accessFlags := 4122, nameIndex := 60, descriptorIndex := 61, attributes := #[] }])
  fields := #[{ name := "AT", type := (.object "com/example/edictum/edictum/io/XpathTokens$Kind"), accessFlags := 16409, slot := 0, constantValue := 0 }, { name := "AXIS_SEPARATOR", type := (.object "com/example/edictum/edictum/io/XpathTokens$Kind"), accessFlags := 16409, slot := 1, constantValue := 0 }, { name := "LEFT_PAREN", type := (.object "com/example/edictum/edictum/io/XpathTokens$Kind"), accessFlags := 16409, slot := 2, constantValue := 0 }, { name := "LEFT_BRACKET", type := (.object "com/example/edictum/edictum/io/XpathTokens$Kind"), accessFlags := 16409, slot := 3, constantValue := 0 }, { name := "COMMA", type := (.object "com/example/edictum/edictum/io/XpathTokens$Kind"), accessFlags := 16409, slot := 4, constantValue := 0 }, { name := "RIGHT_PAREN", type := (.object "com/example/edictum/edictum/io/XpathTokens$Kind"), accessFlags := 16409, slot := 5, constantValue := 0 }, { name := "RIGHT_BRACKET", type := (.object "com/example/edictum/edictum/io/XpathTokens$Kind"), accessFlags := 16409, slot := 6, constantValue := 0 }, { name := "SLASH", type := (.object "com/example/edictum/edictum/io/XpathTokens$Kind"), accessFlags := 16409, slot := 7, constantValue := 0 }, { name := "DOUBLE_SLASH", type := (.object "com/example/edictum/edictum/io/XpathTokens$Kind"), accessFlags := 16409, slot := 8, constantValue := 0 }, { name := "OPERATOR", type := (.object "com/example/edictum/edictum/io/XpathTokens$Kind"), accessFlags := 16409, slot := 9, constantValue := 0 }, { name := "AXIS", type := (.object "com/example/edictum/edictum/io/XpathTokens$Kind"), accessFlags := 16409, slot := 10, constantValue := 0 }, { name := "FUNCTION", type := (.object "com/example/edictum/edictum/io/XpathTokens$Kind"), accessFlags := 16409, slot := 11, constantValue := 0 }, { name := "NODE_TYPE", type := (.object "com/example/edictum/edictum/io/XpathTokens$Kind"), accessFlags := 16409, slot := 12, constantValue := 0 }, { name := "NAME_TEST", type := (.object "com/example/edictum/edictum/io/XpathTokens$Kind"), accessFlags := 16409, slot := 13, constantValue := 0 }, { name := "DOT", type := (.object "com/example/edictum/edictum/io/XpathTokens$Kind"), accessFlags := 16409, slot := 14, constantValue := 0 }, { name := "DOT_DOT", type := (.object "com/example/edictum/edictum/io/XpathTokens$Kind"), accessFlags := 16409, slot := 15, constantValue := 0 }, { name := "LITERAL", type := (.object "com/example/edictum/edictum/io/XpathTokens$Kind"), accessFlags := 16409, slot := 16, constantValue := 0 }, { name := "NUMBER", type := (.object "com/example/edictum/edictum/io/XpathTokens$Kind"), accessFlags := 16409, slot := 17, constantValue := 0 }, { name := "$VALUES", type := (.array (.object "com/example/edictum/edictum/io/XpathTokens$Kind")), accessFlags := 4122, slot := 18, constantValue := 0 }]
  methods := #[k6m0]
  instanceTypes := #[(.object "java/lang/String"), .int, .int]
  staticTypes := #[(.object "com/example/edictum/edictum/io/XpathTokens$Kind"), (.object "com/example/edictum/edictum/io/XpathTokens$Kind"), (.object "com/example/edictum/edictum/io/XpathTokens$Kind"), (.object "com/example/edictum/edictum/io/XpathTokens$Kind"), (.object "com/example/edictum/edictum/io/XpathTokens$Kind"), (.object "com/example/edictum/edictum/io/XpathTokens$Kind"), (.object "com/example/edictum/edictum/io/XpathTokens$Kind"), (.object "com/example/edictum/edictum/io/XpathTokens$Kind"), (.object "com/example/edictum/edictum/io/XpathTokens$Kind"), (.object "com/example/edictum/edictum/io/XpathTokens$Kind"), (.object "com/example/edictum/edictum/io/XpathTokens$Kind"), (.object "com/example/edictum/edictum/io/XpathTokens$Kind"), (.object "com/example/edictum/edictum/io/XpathTokens$Kind"), (.object "com/example/edictum/edictum/io/XpathTokens$Kind"), (.object "com/example/edictum/edictum/io/XpathTokens$Kind"), (.object "com/example/edictum/edictum/io/XpathTokens$Kind"), (.object "com/example/edictum/edictum/io/XpathTokens$Kind"), (.object "com/example/edictum/edictum/io/XpathTokens$Kind"), (.array (.object "com/example/edictum/edictum/io/XpathTokens$Kind"))]
  resolved := Array.replicate 121 none
  statics := some 0 }

def pool7 : Array CpInfo := pool [(1, u "java/lang/Cloneable"), (0, .class_ 1), (0, u "java/lang/Object"), (0, .class_ 3)] 3

/-- java/lang/Cloneable -/
def k7 : Class := { plain "java/lang/Cloneable" (some 0) with
  accessFlags := 1537
  interfaces := #[]
  cf := some (fileOf pool7 2 #[] #[] 1537 4 #[] #[])
  fields := #[]
  methods := #[]
  instanceTypes := #[]
  staticTypes := #[]
  resolved := Array.replicate 8 none
  statics := none }

/-- the primitive boolean -/
def k8 : Class := { plain "boolean" none with kind := .primitive 'Z', accessFlags := 0x411 }
/-- [Z -/
def k9 : Class := { plain "[Z" (some 0) with kind := .array 8 .boolean, interfaces := #[7, 4], accessFlags := 1041 }

/-- the primitive byte -/
def k10 : Class := { plain "byte" none with kind := .primitive 'B', accessFlags := 0x411 }
/-- [B -/
def k11 : Class := { plain "[B" (some 0) with kind := .array 10 .byte, interfaces := #[7, 4], accessFlags := 1041 }

/-- the primitive int -/
def k12 : Class := { plain "int" none with kind := .primitive 'I', accessFlags := 0x411 }
/-- [I -/
def k13 : Class := { plain "[I" (some 0) with kind := .array 12 .int, interfaces := #[7, 4], accessFlags := 1041 }

/-- [Lcom/example/edictum/edictum/io/XpathTokens$Kind; -/
def k14 : Class := { plain "[Lcom/example/edictum/edictum/io/XpathTokens$Kind;" (some 0) with kind := .array 6 (.object "com/example/edictum/edictum/io/XpathTokens$Kind"), interfaces := #[7, 4], accessFlags := 1041 }

def heap : Heap := #[{ cls := 6, slots := #[.ref 1, .ref 2, .ref 3, .ref 4, .ref 5, .ref 6, .ref 7, .ref 8, .ref 9, .ref 10, .ref 11, .ref 12, .ref 13, .ref 14, .ref 15, .ref 16, .ref 17, .ref 18, .null], vm := .statics 6 },
  { cls := 6, slots := #[.null, .int 0, .int 0], vm := .none },
  { cls := 6, slots := #[.null, .int 1, .int 0], vm := .none },
  { cls := 6, slots := #[.null, .int 2, .int 0], vm := .none },
  { cls := 6, slots := #[.null, .int 3, .int 0], vm := .none },
  { cls := 6, slots := #[.null, .int 4, .int 0], vm := .none },
  { cls := 6, slots := #[.null, .int 5, .int 0], vm := .none },
  { cls := 6, slots := #[.null, .int 6, .int 0], vm := .none },
  { cls := 6, slots := #[.null, .int 7, .int 0], vm := .none },
  { cls := 6, slots := #[.null, .int 8, .int 0], vm := .none },
  { cls := 6, slots := #[.null, .int 9, .int 0], vm := .none },
  { cls := 6, slots := #[.null, .int 10, .int 0], vm := .none },
  { cls := 6, slots := #[.null, .int 11, .int 0], vm := .none },
  { cls := 6, slots := #[.null, .int 12, .int 0], vm := .none },
  { cls := 6, slots := #[.null, .int 13, .int 0], vm := .none },
  { cls := 6, slots := #[.null, .int 14, .int 0], vm := .none },
  { cls := 6, slots := #[.null, .int 15, .int 0], vm := .none },
  { cls := 6, slots := #[.null, .int 16, .int 0], vm := .none },
  { cls := 6, slots := #[.null, .int 17, .int 0], vm := .none }]
def classes : Array Class := #[k0, k1, k2, k3, k4, k5, k6, k7, k8, k9, k10, k11, k12, k13, k14]
def interned : List (Array UInt16 × Addr) := []
def slotsUsed : Nat := 73
def theMethod : MethodId := ⟨1, 1⟩
def args0 : Array Value := #[.int 5]
def aboutOver (below : List Frame) : State where
  vm := { classes := classes, interned := interned.toArray }
  heap := heap
  slotsUsed := slotsUsed
  threads := #[{ frames := .invoking theMethod args0 :: below }]
def below0 : List Frame := [.native { method := ⟨0, 0⟩, args := #[] }]
def about1 : State := aboutOver below0
def p0 : Program := .bare "" "" ""
def e0 : Env := launch0.env 0 0 0
theorem w_frames : about1.frames = Frame.invoking theMethod args0 :: below0 := rfl
set_option maxRecDepth 65536 in
theorem w_args : argsFit about1.vm theMethod args0 = true := by decide +kernel
set_option maxRecDepth 65536 in
theorem w_heap : heapFits about1 = true := by decide +kernel
set_option maxRecDepth 65536 in
theorem w_runnable : about1.curStatus? = some .runnable := by decide +kernel
set_option maxRecDepth 65536 in
theorem w_alone : about1.alone = true := by decide +kernel
set_option maxRecDepth 65536 in
theorem w_named : about1.methodNamed? x = some theMethod := by decide +kernel
set_option maxRecDepth 65536 in
theorem w_hears : about1.hears theMethod below0 = true := by decide +kernel
set_option maxRecDepth 65536 in
theorem w_ripe : about1.ripe theMethod args0 below0 = true := by decide +kernel
theorem w_running : about1.status = .running := rfl
set_option maxRecDepth 65536 in
theorem w_room : about1.hasRoom e0.platform room_1 = true :=
  launch0.hasRoom_least _ room_1 (by decide +kernel) (by decide +kernel) (by decide +kernel) (by decide +kernel) (by decide +kernel) (by decide +kernel)
theorem allAtoms_all (ts : List Jvm.Cond) (a : Array Jvm.Value) (st : Jvm.State) : (allAtoms ts).before a st = ts.all (fun c => c.before a st) := by
  induction ts with
  | nil => rfl
  | cons c t ih =>
    show (Jvm.Cond.and c (allAtoms t)).before a st = _
    rw [Jvm.Cond.before_and, ih, List.all_cons]
def words1 : List Jvm.Cond := Jvm.Cond.code x code maxLocals ret :: tables_1
/-- a 'code' word, met by the world's own term for the bytes: nothing is compared byte by byte -/
theorem code_word {y : MethodName} {bytes : ByteArray} {mx : Nat} {rt : Option FieldType} {a : Array Value} {s : State} {m : MethodId} {meth : Method} {c : Code} (h1 : s.methodNamed? y = some m) (h2 : s.vm.method? m = some meth) (h3 : meth.code = some c) (h4 : c.code = bytes)
    (h5 : (c.maxLocals == mx && c.exceptionTable.isEmpty && decide (c.maxStack ≤ mostOperands) && decide (meth.sig.returnType = rt) && !meth.locks && decide (parseMethodDescriptor y.desc = some meth.sig)) = true) : (Jvm.Cond.code y bytes mx rt).before a s = true := by
  simp only [Bool.and_eq_true, beq_iff_eq, Bool.not_eq_true', decide_eq_true_eq] at h5
  obtain ⟨⟨⟨⟨⟨g1, g2⟩, g3⟩, g4⟩, g5⟩, g6⟩ := h5
  simp [Cond.before, Cond.holds, Cond.value, h1, h2, h3, h4, g1, g2, g3, g4, g5, g6]
def isCode : Jvm.Cond → Bool
  | .code _ _ _ _ => true
  | _ => false
theorem all_split {L : List Jvm.Cond} {P : Jvm.Cond → Bool} (h1 : L.all (fun c => isCode c || P c) = true) (h2 : ∀ c ∈ L.filter isCode, P c = true) : L.all P = true := by
  refine List.all_eq_true.mpr fun c hc => ?_
  have h := List.all_eq_true.mp h1 c hc
  rcases Bool.eq_false_or_eq_true (isCode c) with hi | hi
  · exact h2 c (List.mem_filter.mpr ⟨hc, hi⟩)
  · simpa [hi] using h
set_option maxRecDepth 65536 in
theorem w_c0 : (Jvm.Cond.code x code maxLocals ret).before args0 about1 = true := code_word (m := ⟨1, 1⟩) (meth := k1m1) (c := k1c1) (by decide +kernel) rfl rfl rfl (by decide +kernel)
set_option maxRecDepth 65536 in
theorem w_c1 : (Jvm.Cond.code ({ cls := "com/example/edictum/edictum/io/XpathTokens$Kind", name := "beginsStep", desc := "()Z" } : Jvm.MethodName) prog_252_method_5_code (1 : Nat) (Option.some Jvm.ClassFile.FieldType.boolean)).before args0 about1 = true := code_word (m := ⟨6, 0⟩) (meth := k6m0) (c := k6c0) (by decide +kernel) rfl rfl rfl (by decide +kernel)
def codes1 : List Jvm.Cond := [Jvm.Cond.code x code maxLocals ret, Jvm.Cond.code ({ cls := "com/example/edictum/edictum/io/XpathTokens$Kind", name := "beginsStep", desc := "()Z" } : Jvm.MethodName) prog_252_method_5_code (1 : Nat) (Option.some Jvm.ClassFile.FieldType.boolean)]
set_option maxRecDepth 65536 in
theorem codes_eq : words1.filter isCode = codes1 := rfl
theorem w_codes : ∀ c ∈ words1.filter isCode, c.before args0 about1 = true := by
  rw [codes_eq]
  intro c hc
  simp only [codes1, List.mem_cons, List.not_mem_nil, or_false] at hc
  rcases hc with rfl | rfl
  · exact w_c0
  · exact w_c1
set_option maxRecDepth 65536 in
theorem w_t1 : (words1.take 24).all (fun c => isCode c || c.before args0 about1) = true := by decide +kernel
set_option maxRecDepth 65536 in
theorem w_t2 : ((words1.drop 24).take 24).all (fun c => isCode c || c.before args0 about1) = true := by decide +kernel
set_option maxRecDepth 65536 in
theorem w_t3 : ((words1.drop 24).drop 24).all (fun c => isCode c || c.before args0 about1) = true := by decide +kernel
theorem w_tables : (allAtoms (Jvm.Cond.code x code maxLocals ret :: tables_1)).before args0 about1 = true := by
  rw [allAtoms_all]
  show words1.all (fun c => c.before args0 about1) = true
  refine all_split ?_ w_codes
  rw [← List.take_append_drop 24 words1, List.all_append, w_t1, ← List.take_append_drop 24 (words1.drop 24), List.all_append, w_t2, w_t3]
  rfl
set_option maxRecDepth 65536 in
theorem w_case : (Jvm.Cond.and given_1 narrow_1).before args0 about1 = true := by decide +kernel
theorem w_applies : (headSpec (Jvm.Cond.code x code maxLocals ret :: tables_1) room_1).applies x e0.platform about1 = true :=
  (Spec.applies_iff w_frames).mpr ⟨w_running, w_runnable, w_alone, w_named, w_hears, w_ripe, w_room, w_tables⟩
theorem atStart : AtStart classFile x code maxLocals ret World_1 tables_1 room_1 Calls_1 rest_1 Pre_1 launch0 p0 e0 about1 theMethod args0 below0 :=
  ⟨lists_1, trivial, launch0.admits_env _ _ _, launch0.least_env, fairChoices_fair.cas, fairChoices_fair.clock, w_frames, w_args, w_heap, w_applies, trivial, trivial, w_case⟩
end start1
theorem witness_1 : WitnessClaimed_1 := ⟨start1.p0, start1.e0, start1.about1, start1.theMethod, start1.args0, start1.below0, start1.atStart⟩
end Jvm.Pilot.@@N@@
