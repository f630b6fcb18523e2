import JvmDerived
import JvmDerived.Pilot.@@N@@Statement
import JvmDerived.Pilot.@@N@@Code
set_option linter.unusedVariables false
set_option linter.unusedSimpArgs false
namespace Jvm.RoadKit
open Sem ClassFile Op Lib Jvm.Stand Jvm.Free Jvm.LawKit
section New
variable {p : Program} {l : Launch} {e : Env} {R : Room} {s : State} {m : MethodId} {args : Array Value} {below : List Frame} {meth : Method} {c : Code} {T : State} {locs : List Loc} {cells slots : Nat}
theorem retI (X : Stand p l e R s m args below meth c T locs cells slots) (hx : p.tables.exec = Jvm.exec) {pc : Nat} {Ls : Array Slot} {z : Int32} {rest : List Value} (hret : meth.sig.returnType = some .int) (hd : decode c.code pc = .ok (.ireturn, 1)) {fs : List Frame}
    (hl : ∀ (f : JFrame) (acts : List Action), f.method = m → f.locked = none → f.entered = [] → (doReturn e (T.setTop f) acts (some (.int z))).1 = T.setFrames fs) : Steps p.tables e below (T.setTop (mkF m pc Ls (.int z :: rest))) (T.setFrames fs) := by
  have hm' : T.vm.method? m = some meth := X.method'
  have hn : narrow .int (.int z) = .int z := rfl
  show Steps p.tables e below (T.setTop { method := m, pc := pc, locals := Ls, stack := _ :: rest, locked := none }) _
  jvm_step X.here [X.here.top, hx, hd, hm', hret, hn]
  first | (intro acts; rw [hl _ acts rfl rfl rfl]) | rw [hl _ _ rfl rfl rfl]
  exact Steps.refl _
theorem own_retR (X : Stand p l e R s m args below meth c T locs cells slots) (hx : p.tables.exec = Jvm.exec) {pc : Nat} {Ls : Array Slot} {w : Value} {t : FieldType} {rest : List Value} (hret : meth.sig.returnType = some t) (ht : t.isReference = true) (hw : w.isRef = true) (hd : decode c.code pc = .ok (.areturn, 1)) {fs : List Frame}
    (hl : ∀ (f : JFrame) (acts : List Action), f.method = m → f.locked = none → f.entered = [] → (doReturn e (T.setTop f) acts (some w)).1 = T.setFrames fs) : Steps p.tables e below (T.setTop (mkF m pc Ls (w :: rest))) (T.setFrames fs) :=
  retOut X hx hret (by rcases ref_cases hw with rfl | ⟨z, rfl⟩ <;> cases t <;> first | rfl | (cases ht; done)) (Or.inr (Or.inr (Or.inr (Or.inr ⟨rfl, ht, hw⟩)))) hd hl
theorem own_retJ (X : Stand p l e R s m args below meth c T locs cells slots) (hx : p.tables.exec = Jvm.exec) {pc : Nat} {Ls : Array Slot} {z : Int64} {rest : List Value} (hret : meth.sig.returnType = some .long) (hd : decode c.code pc = .ok (.lreturn, 1)) {fs : List Frame}
    (hl : ∀ (f : JFrame) (acts : List Action), f.method = m → f.locked = none → f.entered = [] → (doReturn e (T.setTop f) acts (some (.long z))).1 = T.setFrames fs) : Steps p.tables e below (T.setTop (mkF m pc Ls (.long z :: rest))) (T.setFrames fs) :=
  retOut X hx hret rfl (Or.inr (Or.inl ⟨rfl, rfl, z, rfl⟩)) hd hl
end New
theorem own_eqv {args : Array Value} {first s : State} {o : Option Outcome} {idx : List Nat} {a b : Term} {v : Value} (h : (Jvm.Cond.eq a b).value args first o s idx = some true) (hb : b.eval args first o idx s = some v) (hk : (match v with | .int _ => true | .ref _ => true | .long _ => true | _ => false) = true := by rfl) : a.eval args first o idx s = some v := by
  simp only [Cond.value, hb] at h
  cases ha : a.eval args first o idx s with
  | none => simp [ha] at h
  | some x => cases x <;> cases v <;> simp_all
theorem own_selP {Z s : State} {a0 args : Array Value} {y : MethodName} {n : Nat} (hZ : Z.Warmed39 s.vm) (wi : (Cond.instantiable y.cls n).before a0 Z = true) (wp : (Cond.privateMethod y).before a0 Z = true) (wm : (Cond.instanceMethod y).before a0 Z = true) (hy : y.cls ≠ "java/lang/invoke/MethodHandle" ∧ y.cls ≠ "java/lang/invoke/VarHandle") : (Cond.selects y.cls y y).before args s = true := by
  have wi' : (Cond.instantiable y.cls n).before args s = true := mvT hZ wi
  have wm' : (Cond.instanceMethod y).before args s = true := mvT hZ wm
  obtain ⟨c, k, h1, h2, -, h4, -⟩ := Cond.instantiable_spec wi'
  simp only [Bool.or_eq_false_iff] at h4
  exact selects_self_of_private h1 h2 h4.1 (Cond.privateMethod_at (mvP hZ wp (args := #[]))) wm' hy
theorem own_selQ {Z s : State} {a0 args : Array Value} {y : MethodName} {y' : MethodName} {n' d' : String} (hZ : Z.Warmed39 s.vm) (wi : (Cond.selects y.cls y' ⟨y.cls, n', d'⟩).before a0 Z = true) (wp : (Cond.privateMethod y).before a0 Z = true) (wm : (Cond.instanceMethod y).before a0 Z = true) (hy : y.cls ≠ "java/lang/invoke/MethodHandle" ∧ y.cls ≠ "java/lang/invoke/VarHandle") : (Cond.selects y.cls y y).before args s = true := by
  have wi' : (Cond.selects y.cls y' ⟨y.cls, n', d'⟩).before args s = true := mvT hZ wi
  have wm' : (Cond.instanceMethod y).before args s = true := mvT hZ wm
  obtain ⟨c2, r2, m2, -, -, q3, -, kP, hkP, hkPi⟩ := Cond.selects_spec wi'
  have hc := findClass_of_methodNamed q3
  exact selects_self_of_private (c := m2.cls) hc hkP hkPi (Cond.privateMethod_at (mvP hZ wp (args := #[]))) wm' hy
theorem own_len {args : Array Value} {s : State} {t : Term} {a : Addr} {cl : Cell} {ty : FieldType} {z : Int32} (ht : t.eval args s none [] s = some (.ref a)) (A : Arr s s.heap a cl ty) (h : (Term.length t).eval args s none [] s = some (.int z)) : cl.slots.size < 2 ^ 31 ∧ cl.slots.size.toInt32 = z := by
  have e := A.fin (Vm.Alike.refl _)
  simp only [Term.eval, ht, e, Option.bind_eq_bind, Option.bind_some] at h
  split at h <;> simp_all
end Jvm.RoadKit
namespace Jvm.Pilot.@@N@@
open Jvm Jvm.ClassFile Sem Op Lib Jvm.Free Jvm.Stand Jvm.LawKit Jvm.RoadKit Bundle Jvm.Pilot.@@N@@.Jvm.D
theorem tw {Z : State} {a0 : Array Value} (hw : ∀ d ∈ tables_1, d.before a0 Z = true) (i : Nat) {d : Jvm.Cond} (h : tables_1[i]? = some d) : d.before a0 Z = true := hw d (List.mem_of_getElem? h)
abbrev MF (l : Launch) (Z : State) (y : MethodName) (cd : Jvm.Cond) (ws : List Jvm.Cond) (rm : Room) (A : Array Value) (h0 : Heap) (Q : Option Value → Heap → List Loc → Prop) : Prop := MetFree l y (head1 (cd :: ws) rm) (fun a U => a = A ∧ Z.Warmed39 U.vm ∧ U.heap = h0) (fun _ _ _ _ _ => True) (fun _ U o U' => ∃ v L, o = .returned v ∧ Q v U'.heap L ∧ FrameEnd U o U' L rm.cells rm.slots)
def Fin (p : Program) (e : Env) (below : List Frame) (s : State) (n0 : Nat) (S0 : State) : Prop := ∃ s₂ o, Steps p.tables e below S0 s₂ ∧ s₂.status = .running ∧ Ended s₂ below o ∧ ∃ v L, o = .returned v ∧ (v = some (.int (1 : Int32)) ∧ Fr n0 L) ∧ FrameEnd s o s₂ L room_1.cells room_1.slots
theorem Fin.pre {p : Program} {e : Env} {below : List Frame} {s S0 S1 : State} {n0 : Nat} (k : ∀ t, Steps p.tables e below S1 t → Steps p.tables e below S0 t) (h : Fin p e below s n0 S1) : Fin p e below s n0 S0 := by
  obtain ⟨u, o, h1, h2⟩ := h; exact ⟨u, o, k _ h1, h2⟩
abbrev SF (p : Program) (e : Env) (below : List Frame) (T : State) (g : JFrame) (t : State) : Prop := Steps p.tables e below (T.setTop g) t
abbrev HW (Z : State) (a0 : Array Value) : Prop := ∀ d ∈ tables_1, d.before a0 Z = true
theorem d1_0 : decode prog_9_method_5_code 0 = .ok (.aload_n 0, 1) := by decide +kernel
theorem d1_1 : decode prog_9_method_5_code 1 = .ok (.invokevirtual 49, 3) := by decide +kernel
theorem d2_0 : decode jdk_37_method_2_code 0 = .ok (.aload_n 0, 1) := by decide +kernel
theorem d2_1 : decode jdk_37_method_2_code 1 = .ok (.getfield 7, 3) := by decide +kernel
theorem d2_4 : decode jdk_37_method_2_code 4 = .ok (.ireturn, 1) := by decide +kernel
theorem pn_0 : plainName "java/lang/Enum" = true := by first | (simp [plainName, overriddenIn]; done) | decide +kernel
theorem ef_0 (m : MethodId) (x0 : Addr) : entryFrame m #[(.ref x0)] 1 = mkF m 0 #[.val (.ref x0)] [] := by first | (simp [entryFrame, mkF, argsToLocals, Value.category]; done) | rfl
-- Enum.ordinal 
def Q2_1 (Z : State) (w1 : Addr) (h0 : Heap) (n0 : Nat) (v : Option Value) (h : Heap) (L : List Loc) : Prop := v = some (.int 0) ∧ Fr n0 L ∧ h = h0
set_option maxRecDepth 65536 in
set_option maxHeartbeats 40000000 in
theorem rm2_1 (l : Launch) (Z : State) (a0 : Array Value) (hw : HW Z a0) (ws : List Jvm.Cond) (w1 : Addr) (h0 : Heap) (n0 : Nat) (Z0 : n0 ≤ h0.size) (F_w1_ordinal : Fld Z Z.heap w1 "java/lang/Enum" "ordinal" "I" (.int 0)) (P2 : Old Z n0 h0) :
    MF l Z (⟨"java/lang/Enum", "ordinal", "()I"⟩ : MethodName) (Jvm.Cond.code (⟨"java/lang/Enum", "ordinal", "()I"⟩ : MethodName) jdk_37_method_2_code 1 (some .int)) ws ({ frames := 0, cells := 0, slots := 0, locals := 0 } : Room) #[(.ref w1)] h0 (Q2_1 Z w1 h0 n0) := by
  refine MetFree.of_bodySF (plainFor_of_name pn_0) hisR ?_
  intro p e s m args below meth c s₁ Bd hml0 hP hK
  obtain ⟨rfl, hZ, hh⟩ := hP
  have hx := Bd.exec
  have hby := Bd.bytes
  have hml : c.maxLocals = 1 := hml0
  have hown : s.vm.findClass "java/lang/Enum" = some m.cls := findClass_of_methodNamed Bd.named
  have hnm := (name_of_methodNamed Bd.named Bd.method).1
  have X0 : Stand p l e ({ frames := 0, cells := 0, slots := 0, locals := 0 } : Room) s m #[(.ref w1)] below meth c s₁ [] 0 0 := Stand.of_body Bd
  have e0 : s₁.heap = h0 := by rw [← hh, Bd.state]; rfl
  have N0 := Fr.nil n0
  have pre0 : ∀ t, SF p e below s₁ (mkF m 0 #[rv w1] []) t → SF p e below s₁ (entryFrame m #[(.ref w1)] 1) t := fun t k => castTop (ef_0 m w1) k
  obtain ⟨T1, X1, e1, st1⟩ := getF X0 hx hZ hown (host := "") (Or.inl (tw hw 15 rfl)) Via.refl e0 (F_w1_ordinal.ext P2.2) (g := (mkF m 1 #[rv w1] [(.ref w1)])) rfl rfl (hb hby d2_1)
  obtain ⟨fs, hr, hrun, hended, hW, hsame⟩ := X1.leave (v := some (.int 0)) (fun h => by rw [Bd.returns] at h; cases h)
  refine ⟨_, _, pre0 _ ?_, hrun, hended, _, _, rfl, ?_, ⟨_, rfl⟩, hW, hsame.mono (by decide) (by decide)⟩
  · show SF p e below s₁ (mkF m 0 #[rv w1] []) _
    refine XS.aloadN X0.here hx rfl (hb hby d2_0) rfl rfl ?_
    show SF p e below s₁ (mkF m 1 #[rv w1] [(.ref w1)]) _
    refine st1 _ ?_
    show SF p e below T1 (mkF m 4 #[rv w1] [(.int 0)]) _
    exact retI X1 hx Bd.returns (hb hby d2_4) hr
  · show Q2_1 Z w1 h0 n0 _ T1.heap _
    rw [e1]
    exact ⟨rfl, N0, rfl⟩
theorem pd_0 : parseMethodDescriptor "()I" = some ⟨[], some .int⟩ := by decide +kernel
theorem d1_4 : decode prog_9_method_5_code 4 = .ok (.tableswitch 32 0 3 #[42, 54, 58, 70], 32) := by decide +kernel
theorem d1_46 : decode prog_9_method_5_code 46 = .ok (.iload_n 1, 1) := by decide +kernel
theorem d1_47 : decode prog_9_method_5_code 47 = .ok (.ifCond .ne 7, 3) := by decide +kernel
theorem d1_50 : decode prog_9_method_5_code 50 = .ok (.iconst 1, 1) := by decide +kernel
theorem d1_51 : decode prog_9_method_5_code 51 = .ok (.goto 32, 3) := by decide +kernel
theorem d1_83 : decode prog_9_method_5_code 83 = .ok (.ireturn, 1) := by decide +kernel
theorem pn_1 : plainName "com/example/afterlog/afterlog/Condition" = true := by first | (simp [plainName, overriddenIn]; done) | decide +kernel
theorem ef_1 (m : MethodId) (x0 : Addr) (x1 : Int32) (x2 : Int32) : entryFrame m #[(.ref x0), (.int x1), (.int x2)] 3 = mkF m 0 #[.val (.ref x0), .val (.int x1), .val (.int x2)] [] := by first | (simp [entryFrame, mkF, argsToLocals, Value.category]; done) | rfl
-- Condition.admits 
def Q1_2 (Z : State) (w1 : Addr) (u1 : Int32) (h0 : Heap) (n0 : Nat) (v : Option Value) (h : Heap) (L : List Loc) : Prop := v = some (.int 1) ∧ Fr n0 L ∧ h = h0
set_option maxRecDepth 65536 in
set_option maxHeartbeats 40000000 in
theorem rm1_2 (l : Launch) (Z : State) (a0 : Array Value) (hw : HW Z a0) (ws : List Jvm.Cond) (w1 : Addr) (u1 : Int32) (h0 : Heap) (n0 : Nat) (Z0 : n0 ≤ h0.size) (E_w1 : Exa Z Z.heap w1 "com/example/afterlog/afterlog/Condition") (P2 : Old Z n0 h0) (F_w1_ordinal : Fld Z Z.heap w1 "java/lang/Enum" "ordinal" "I" (.int 0)) :
    MF l Z (⟨"com/example/afterlog/afterlog/Condition", "admits", "(ZI)Z"⟩ : MethodName) (Jvm.Cond.code (⟨"com/example/afterlog/afterlog/Condition", "admits", "(ZI)Z"⟩ : MethodName) prog_9_method_5_code 3 (some .boolean)) ws ({ frames := 1, cells := 0, slots := 0, locals := 12 } : Room) #[(.ref w1), (.int 0), (.int u1)] h0 (Q1_2 Z w1 u1 h0 n0) := by
  refine MetFree.of_bodySF (plainFor_of_name pn_1) hisR ?_
  intro p e s m args below meth c s₁ Bd hml0 hP hK
  obtain ⟨rfl, hZ, hh⟩ := hP
  have hx := Bd.exec
  have hby := Bd.bytes
  have hml : c.maxLocals = 3 := hml0
  have hown : s.vm.findClass "com/example/afterlog/afterlog/Condition" = some m.cls := findClass_of_methodNamed Bd.named
  have hnm := (name_of_methodNamed Bd.named Bd.method).1
  have X0 : Stand p l e ({ frames := 1, cells := 0, slots := 0, locals := 12 } : Room) s m #[(.ref w1), (.int 0), (.int u1)] below meth c s₁ [] 0 0 := Stand.of_body Bd
  have e0 : s₁.heap = h0 := by rw [← hh, Bd.state]; rfl
  have N0 := Fr.nil n0
  have pre0 : ∀ t, SF p e below s₁ (mkF m 0 #[rv w1, iv 0, iv u1] []) t → SF p e below s₁ (entryFrame m #[(.ref w1), (.int 0), (.int u1)] 3) t := fun t k => castTop (ef_1 m w1 (0 : Int32) u1) k
  obtain ⟨cq1, kq1, q1a, q1b, q1c⟩ := isOf hZ e0 (E_w1.ext P2.2)
  obtain ⟨_, _, ⟨T1, L1, k1x, n1⟩, -, X1, ⟨Lc1, hQ1, l1, y1, z1⟩, st1⟩ := X0.virtualBackUp hx (owner := "java/lang/Enum") (x := (⟨"com/example/afterlog/afterlog/Condition", "ordinal", "()I"⟩ : MethodName)) (y := (⟨"java/lang/Enum", "ordinal", "()I"⟩ : MethodName)) hown (mvT hZ (tw hw 8 rfl)) (mvT hZ (tw hw 9 rfl)) (mvT hZ (tw hw 10 rfl)) (by decide) (mvT hZ (tw hw 12 rfl)) (mvT hZ (tw hw 11 rfl)) (backOf (W := 0) (rm2_1 l Z a0 hw [] w1 h0 n0 Z0 F_w1_ordinal P2) hZ (tw hw 14 rfl) (tw hw 13 rfl) (by decide) (by decide)) q1a q1c (g := (mkF m 1 #[rv w1, iv 0, iv u1] [(.ref w1)])) rfl (by rw [hml]; rfl) (Steps.refl _) (argsL := []) (rest := []) (lenOf pd_0 rfl) rfl (by show 2 * 0 + _ ≤ _; exact Nat.le_of_eq rfl) (hb hby d1_1) (fun _ _ => ⟨rfl, e0, (by decide : 0 + 0 ≤ _), (by decide : 0 + 0 ≤ _)⟩)
  dsimp only [Pt.U, Pt.locs, Pt.cells, Pt.slots] at X1 l1 y1 z1 st1 hQ1
  subst l1 y1 z1
  obtain ⟨rfl, N1q, e1⟩ := hQ1
  have N1 := Fr.app N0 N1q
  obtain ⟨fs, hr, hrun, hended, hW, hsame⟩ := X1.leave (v := some (.int 1)) (fun h => by rw [Bd.returns] at h; cases h)
  refine ⟨_, _, pre0 _ ?_, hrun, hended, _, _, rfl, ?_, ⟨_, rfl⟩, hW, hsame.mono (by decide) (by decide)⟩
  · show SF p e below s₁ (mkF m 0 #[rv w1, iv 0, iv u1] []) _
    refine XS.aloadN X0.here hx rfl (hb hby d1_0) rfl rfl ?_
    show SF p e below s₁ (mkF m 1 #[rv w1, iv 0, iv u1] [(.ref w1)]) _
    refine st1.trans ?_
    show SF p e below T1 (mkF m 4 #[rv w1, iv 0, iv u1] [(.int 0)]) _
    refine XS.tswIn X1.here hx rfl (pc0 := 4) (pc' := 46) rfl (hb hby d1_4) rfl (by decide) (o := 42) (by decide) (by decide) (by decide) ?_
    show SF p e below T1 (mkF m 46 #[rv w1, iv 0, iv u1] []) _
    refine XS.iloadN X1.here hx rfl (hb hby d1_46) rfl ?_
    show SF p e below T1 (mkF m 47 #[rv w1, iv 0, iv u1] [(.int 0)]) _
    refine XS.ifNo X1.here hx rfl (hb hby d1_47) rfl ((if0 _ _).trans (teq (by decide : (0 : Int32) = (0 : Int32))).2) ?_
    show SF p e below T1 (mkF m 50 #[rv w1, iv 0, iv u1] []) _
    refine XS.iconst X1.here hx rfl (hb hby d1_50) ?_
    show SF p e below T1 (mkF m 51 #[rv w1, iv 0, iv u1] [(.int 1)]) _
    refine XS.goto X1.here hx rfl (pc0 := 51) (pc' := 83) rfl (hb hby d1_51) (by decide) (by decide) ?_
    show SF p e below T1 (mkF m 83 #[rv w1, iv 0, iv u1] [(.int 1)]) _
    exact retN X1 hx (t := .boolean) Bd.returns (by simp) (hb hby d1_83) hr
  · show Q1_2 Z w1 u1 h0 n0 _ T1.heap _
    rw [e1]
    exact ⟨rfl, N1, rfl⟩
theorem pd_1 : parseMethodDescriptor "(ZI)Z" = some ⟨[.boolean, .int], some .boolean⟩ := by decide +kernel
-- Enum.ordinal 
def Q2_3 (Z : State) (w2 : Addr) (h0 : Heap) (n0 : Nat) (v : Option Value) (h : Heap) (L : List Loc) : Prop := v = some (.int 1) ∧ Fr n0 L ∧ h = h0
set_option maxRecDepth 65536 in
set_option maxHeartbeats 40000000 in
theorem rm2_3 (l : Launch) (Z : State) (a0 : Array Value) (hw : HW Z a0) (ws : List Jvm.Cond) (w2 : Addr) (h0 : Heap) (n0 : Nat) (Z0 : n0 ≤ h0.size) (F_w2_ordinal : Fld Z Z.heap w2 "java/lang/Enum" "ordinal" "I" (.int 1)) (P2 : Old Z n0 h0) :
    MF l Z (⟨"java/lang/Enum", "ordinal", "()I"⟩ : MethodName) (Jvm.Cond.code (⟨"java/lang/Enum", "ordinal", "()I"⟩ : MethodName) jdk_37_method_2_code 1 (some .int)) ws ({ frames := 0, cells := 0, slots := 0, locals := 0 } : Room) #[(.ref w2)] h0 (Q2_3 Z w2 h0 n0) := by
  refine MetFree.of_bodySF (plainFor_of_name pn_0) hisR ?_
  intro p e s m args below meth c s₁ Bd hml0 hP hK
  obtain ⟨rfl, hZ, hh⟩ := hP
  have hx := Bd.exec
  have hby := Bd.bytes
  have hml : c.maxLocals = 1 := hml0
  have hown : s.vm.findClass "java/lang/Enum" = some m.cls := findClass_of_methodNamed Bd.named
  have hnm := (name_of_methodNamed Bd.named Bd.method).1
  have X0 : Stand p l e ({ frames := 0, cells := 0, slots := 0, locals := 0 } : Room) s m #[(.ref w2)] below meth c s₁ [] 0 0 := Stand.of_body Bd
  have e0 : s₁.heap = h0 := by rw [← hh, Bd.state]; rfl
  have N0 := Fr.nil n0
  have pre0 : ∀ t, SF p e below s₁ (mkF m 0 #[rv w2] []) t → SF p e below s₁ (entryFrame m #[(.ref w2)] 1) t := fun t k => castTop (ef_0 m w2) k
  obtain ⟨T1, X1, e1, st1⟩ := getF X0 hx hZ hown (host := "") (Or.inl (tw hw 15 rfl)) Via.refl e0 (F_w2_ordinal.ext P2.2) (g := (mkF m 1 #[rv w2] [(.ref w2)])) rfl rfl (hb hby d2_1)
  obtain ⟨fs, hr, hrun, hended, hW, hsame⟩ := X1.leave (v := some (.int 1)) (fun h => by rw [Bd.returns] at h; cases h)
  refine ⟨_, _, pre0 _ ?_, hrun, hended, _, _, rfl, ?_, ⟨_, rfl⟩, hW, hsame.mono (by decide) (by decide)⟩
  · show SF p e below s₁ (mkF m 0 #[rv w2] []) _
    refine XS.aloadN X0.here hx rfl (hb hby d2_0) rfl rfl ?_
    show SF p e below s₁ (mkF m 1 #[rv w2] [(.ref w2)]) _
    refine st1 _ ?_
    show SF p e below T1 (mkF m 4 #[rv w2] [(.int 1)]) _
    exact retI X1 hx Bd.returns (hb hby d2_4) hr
  · show Q2_3 Z w2 h0 n0 _ T1.heap _
    rw [e1]
    exact ⟨rfl, N0, rfl⟩
theorem d1_58 : decode prog_9_method_5_code 58 = .ok (.iload_n 1, 1) := by decide +kernel
theorem d1_59 : decode prog_9_method_5_code 59 = .ok (.goto 24, 3) := by decide +kernel
-- Condition.admits 
def Q1_4 (Z : State) (w2 : Addr) (u1 : Int32) (h0 : Heap) (n0 : Nat) (v : Option Value) (h : Heap) (L : List Loc) : Prop := v = some (.int 0) ∧ Fr n0 L ∧ h = h0
set_option maxRecDepth 65536 in
set_option maxHeartbeats 40000000 in
theorem rm1_4 (l : Launch) (Z : State) (a0 : Array Value) (hw : HW Z a0) (ws : List Jvm.Cond) (w2 : Addr) (u1 : Int32) (h0 : Heap) (n0 : Nat) (Z0 : n0 ≤ h0.size) (E_w2 : Exa Z Z.heap w2 "com/example/afterlog/afterlog/Condition") (P2 : Old Z n0 h0) (F_w2_ordinal : Fld Z Z.heap w2 "java/lang/Enum" "ordinal" "I" (.int 1)) :
    MF l Z (⟨"com/example/afterlog/afterlog/Condition", "admits", "(ZI)Z"⟩ : MethodName) (Jvm.Cond.code (⟨"com/example/afterlog/afterlog/Condition", "admits", "(ZI)Z"⟩ : MethodName) prog_9_method_5_code 3 (some .boolean)) ws ({ frames := 1, cells := 0, slots := 0, locals := 12 } : Room) #[(.ref w2), (.int 0), (.int u1)] h0 (Q1_4 Z w2 u1 h0 n0) := by
  refine MetFree.of_bodySF (plainFor_of_name pn_1) hisR ?_
  intro p e s m args below meth c s₁ Bd hml0 hP hK
  obtain ⟨rfl, hZ, hh⟩ := hP
  have hx := Bd.exec
  have hby := Bd.bytes
  have hml : c.maxLocals = 3 := hml0
  have hown : s.vm.findClass "com/example/afterlog/afterlog/Condition" = some m.cls := findClass_of_methodNamed Bd.named
  have hnm := (name_of_methodNamed Bd.named Bd.method).1
  have X0 : Stand p l e ({ frames := 1, cells := 0, slots := 0, locals := 12 } : Room) s m #[(.ref w2), (.int 0), (.int u1)] below meth c s₁ [] 0 0 := Stand.of_body Bd
  have e0 : s₁.heap = h0 := by rw [← hh, Bd.state]; rfl
  have N0 := Fr.nil n0
  have pre0 : ∀ t, SF p e below s₁ (mkF m 0 #[rv w2, iv 0, iv u1] []) t → SF p e below s₁ (entryFrame m #[(.ref w2), (.int 0), (.int u1)] 3) t := fun t k => castTop (ef_1 m w2 (0 : Int32) u1) k
  obtain ⟨cq1, kq1, q1a, q1b, q1c⟩ := isOf hZ e0 (E_w2.ext P2.2)
  obtain ⟨_, _, ⟨T1, L1, k1x, n1⟩, -, X1, ⟨Lc1, hQ1, l1, y1, z1⟩, st1⟩ := X0.virtualBackUp hx (owner := "java/lang/Enum") (x := (⟨"com/example/afterlog/afterlog/Condition", "ordinal", "()I"⟩ : MethodName)) (y := (⟨"java/lang/Enum", "ordinal", "()I"⟩ : MethodName)) hown (mvT hZ (tw hw 8 rfl)) (mvT hZ (tw hw 9 rfl)) (mvT hZ (tw hw 10 rfl)) (by decide) (mvT hZ (tw hw 12 rfl)) (mvT hZ (tw hw 11 rfl)) (backOf (W := 0) (rm2_3 l Z a0 hw [] w2 h0 n0 Z0 F_w2_ordinal P2) hZ (tw hw 14 rfl) (tw hw 13 rfl) (by decide) (by decide)) q1a q1c (g := (mkF m 1 #[rv w2, iv 0, iv u1] [(.ref w2)])) rfl (by rw [hml]; rfl) (Steps.refl _) (argsL := []) (rest := []) (lenOf pd_0 rfl) rfl (by show 2 * 0 + _ ≤ _; exact Nat.le_of_eq rfl) (hb hby d1_1) (fun _ _ => ⟨rfl, e0, (by decide : 0 + 0 ≤ _), (by decide : 0 + 0 ≤ _)⟩)
  dsimp only [Pt.U, Pt.locs, Pt.cells, Pt.slots] at X1 l1 y1 z1 st1 hQ1
  subst l1 y1 z1
  obtain ⟨rfl, N1q, e1⟩ := hQ1
  have N1 := Fr.app N0 N1q
  obtain ⟨fs, hr, hrun, hended, hW, hsame⟩ := X1.leave (v := some (.int 0)) (fun h => by rw [Bd.returns] at h; cases h)
  refine ⟨_, _, pre0 _ ?_, hrun, hended, _, _, rfl, ?_, ⟨_, rfl⟩, hW, hsame.mono (by decide) (by decide)⟩
  · show SF p e below s₁ (mkF m 0 #[rv w2, iv 0, iv u1] []) _
    refine XS.aloadN X0.here hx rfl (hb hby d1_0) rfl rfl ?_
    show SF p e below s₁ (mkF m 1 #[rv w2, iv 0, iv u1] [(.ref w2)]) _
    refine st1.trans ?_
    show SF p e below T1 (mkF m 4 #[rv w2, iv 0, iv u1] [(.int 1)]) _
    refine XS.tswIn X1.here hx rfl (pc0 := 4) (pc' := 58) rfl (hb hby d1_4) rfl (by decide) (o := 54) (by decide) (by decide) (by decide) ?_
    show SF p e below T1 (mkF m 58 #[rv w2, iv 0, iv u1] []) _
    refine XS.iloadN X1.here hx rfl (hb hby d1_58) rfl ?_
    show SF p e below T1 (mkF m 59 #[rv w2, iv 0, iv u1] [(.int 0)]) _
    refine XS.goto X1.here hx rfl (pc0 := 59) (pc' := 83) rfl (hb hby d1_59) (by decide) (by decide) ?_
    show SF p e below T1 (mkF m 83 #[rv w2, iv 0, iv u1] [(.int 0)]) _
    exact retN X1 hx (t := .boolean) Bd.returns (by simp) (hb hby d1_83) hr
  · show Q1_4 Z w2 u1 h0 n0 _ T1.heap _
    rw [e1]
    exact ⟨rfl, N1, rfl⟩
-- Enum.ordinal 
def Q2_5 (Z : State) (w3 : Addr) (h0 : Heap) (n0 : Nat) (v : Option Value) (h : Heap) (L : List Loc) : Prop := v = some (.int 2) ∧ Fr n0 L ∧ h = h0
set_option maxRecDepth 65536 in
set_option maxHeartbeats 40000000 in
theorem rm2_5 (l : Launch) (Z : State) (a0 : Array Value) (hw : HW Z a0) (ws : List Jvm.Cond) (w3 : Addr) (h0 : Heap) (n0 : Nat) (Z0 : n0 ≤ h0.size) (F_w3_ordinal : Fld Z Z.heap w3 "java/lang/Enum" "ordinal" "I" (.int 2)) (P2 : Old Z n0 h0) :
    MF l Z (⟨"java/lang/Enum", "ordinal", "()I"⟩ : MethodName) (Jvm.Cond.code (⟨"java/lang/Enum", "ordinal", "()I"⟩ : MethodName) jdk_37_method_2_code 1 (some .int)) ws ({ frames := 0, cells := 0, slots := 0, locals := 0 } : Room) #[(.ref w3)] h0 (Q2_5 Z w3 h0 n0) := by
  refine MetFree.of_bodySF (plainFor_of_name pn_0) hisR ?_
  intro p e s m args below meth c s₁ Bd hml0 hP hK
  obtain ⟨rfl, hZ, hh⟩ := hP
  have hx := Bd.exec
  have hby := Bd.bytes
  have hml : c.maxLocals = 1 := hml0
  have hown : s.vm.findClass "java/lang/Enum" = some m.cls := findClass_of_methodNamed Bd.named
  have hnm := (name_of_methodNamed Bd.named Bd.method).1
  have X0 : Stand p l e ({ frames := 0, cells := 0, slots := 0, locals := 0 } : Room) s m #[(.ref w3)] below meth c s₁ [] 0 0 := Stand.of_body Bd
  have e0 : s₁.heap = h0 := by rw [← hh, Bd.state]; rfl
  have N0 := Fr.nil n0
  have pre0 : ∀ t, SF p e below s₁ (mkF m 0 #[rv w3] []) t → SF p e below s₁ (entryFrame m #[(.ref w3)] 1) t := fun t k => castTop (ef_0 m w3) k
  obtain ⟨T1, X1, e1, st1⟩ := getF X0 hx hZ hown (host := "") (Or.inl (tw hw 15 rfl)) Via.refl e0 (F_w3_ordinal.ext P2.2) (g := (mkF m 1 #[rv w3] [(.ref w3)])) rfl rfl (hb hby d2_1)
  obtain ⟨fs, hr, hrun, hended, hW, hsame⟩ := X1.leave (v := some (.int 2)) (fun h => by rw [Bd.returns] at h; cases h)
  refine ⟨_, _, pre0 _ ?_, hrun, hended, _, _, rfl, ?_, ⟨_, rfl⟩, hW, hsame.mono (by decide) (by decide)⟩
  · show SF p e below s₁ (mkF m 0 #[rv w3] []) _
    refine XS.aloadN X0.here hx rfl (hb hby d2_0) rfl rfl ?_
    show SF p e below s₁ (mkF m 1 #[rv w3] [(.ref w3)]) _
    refine st1 _ ?_
    show SF p e below T1 (mkF m 4 #[rv w3] [(.int 2)]) _
    exact retI X1 hx Bd.returns (hb hby d2_4) hr
  · show Q2_5 Z w3 h0 n0 _ T1.heap _
    rw [e1]
    exact ⟨rfl, N0, rfl⟩
theorem d1_62 : decode prog_9_method_5_code 62 = .ok (.iload_n 2, 1) := by decide +kernel
theorem d1_63 : decode prog_9_method_5_code 63 = .ok (.ifCond .le 7, 3) := by decide +kernel
theorem d1_66 : decode prog_9_method_5_code 66 = .ok (.iconst 1, 1) := by decide +kernel
theorem d1_67 : decode prog_9_method_5_code 67 = .ok (.goto 16, 3) := by decide +kernel
-- Condition.admits 
def Q1_6 (Z : State) (w3 : Addr) (u1 : Int32) (h0 : Heap) (n0 : Nat) (v : Option Value) (h : Heap) (L : List Loc) : Prop := v = some (.int 1) ∧ Fr n0 L ∧ h = h0
set_option maxRecDepth 65536 in
set_option maxHeartbeats 40000000 in
theorem rm1_6 (l : Launch) (Z : State) (a0 : Array Value) (hw : HW Z a0) (ws : List Jvm.Cond) (w3 : Addr) (u1 : Int32) (h0 : Heap) (n0 : Nat) (Z0 : n0 ≤ h0.size) (E_w3 : Exa Z Z.heap w3 "com/example/afterlog/afterlog/Condition") (P2 : Old Z n0 h0) (F_w3_ordinal : Fld Z Z.heap w3 "java/lang/Enum" "ordinal" "I" (.int 2)) (P4 : (0 : Int32) < u1) :
    MF l Z (⟨"com/example/afterlog/afterlog/Condition", "admits", "(ZI)Z"⟩ : MethodName) (Jvm.Cond.code (⟨"com/example/afterlog/afterlog/Condition", "admits", "(ZI)Z"⟩ : MethodName) prog_9_method_5_code 3 (some .boolean)) ws ({ frames := 1, cells := 0, slots := 0, locals := 12 } : Room) #[(.ref w3), (.int 0), (.int u1)] h0 (Q1_6 Z w3 u1 h0 n0) := by
  refine MetFree.of_bodySF (plainFor_of_name pn_1) hisR ?_
  intro p e s m args below meth c s₁ Bd hml0 hP hK
  obtain ⟨rfl, hZ, hh⟩ := hP
  have hx := Bd.exec
  have hby := Bd.bytes
  have hml : c.maxLocals = 3 := hml0
  have hown : s.vm.findClass "com/example/afterlog/afterlog/Condition" = some m.cls := findClass_of_methodNamed Bd.named
  have hnm := (name_of_methodNamed Bd.named Bd.method).1
  have X0 : Stand p l e ({ frames := 1, cells := 0, slots := 0, locals := 12 } : Room) s m #[(.ref w3), (.int 0), (.int u1)] below meth c s₁ [] 0 0 := Stand.of_body Bd
  have e0 : s₁.heap = h0 := by rw [← hh, Bd.state]; rfl
  have N0 := Fr.nil n0
  have pre0 : ∀ t, SF p e below s₁ (mkF m 0 #[rv w3, iv 0, iv u1] []) t → SF p e below s₁ (entryFrame m #[(.ref w3), (.int 0), (.int u1)] 3) t := fun t k => castTop (ef_1 m w3 (0 : Int32) u1) k
  obtain ⟨cq1, kq1, q1a, q1b, q1c⟩ := isOf hZ e0 (E_w3.ext P2.2)
  obtain ⟨_, _, ⟨T1, L1, k1x, n1⟩, -, X1, ⟨Lc1, hQ1, l1, y1, z1⟩, st1⟩ := X0.virtualBackUp hx (owner := "java/lang/Enum") (x := (⟨"com/example/afterlog/afterlog/Condition", "ordinal", "()I"⟩ : MethodName)) (y := (⟨"java/lang/Enum", "ordinal", "()I"⟩ : MethodName)) hown (mvT hZ (tw hw 8 rfl)) (mvT hZ (tw hw 9 rfl)) (mvT hZ (tw hw 10 rfl)) (by decide) (mvT hZ (tw hw 12 rfl)) (mvT hZ (tw hw 11 rfl)) (backOf (W := 0) (rm2_5 l Z a0 hw [] w3 h0 n0 Z0 F_w3_ordinal P2) hZ (tw hw 14 rfl) (tw hw 13 rfl) (by decide) (by decide)) q1a q1c (g := (mkF m 1 #[rv w3, iv 0, iv u1] [(.ref w3)])) rfl (by rw [hml]; rfl) (Steps.refl _) (argsL := []) (rest := []) (lenOf pd_0 rfl) rfl (by show 2 * 0 + _ ≤ _; exact Nat.le_of_eq rfl) (hb hby d1_1) (fun _ _ => ⟨rfl, e0, (by decide : 0 + 0 ≤ _), (by decide : 0 + 0 ≤ _)⟩)
  dsimp only [Pt.U, Pt.locs, Pt.cells, Pt.slots] at X1 l1 y1 z1 st1 hQ1
  subst l1 y1 z1
  obtain ⟨rfl, N1q, e1⟩ := hQ1
  have N1 := Fr.app N0 N1q
  obtain ⟨fs, hr, hrun, hended, hW, hsame⟩ := X1.leave (v := some (.int 1)) (fun h => by rw [Bd.returns] at h; cases h)
  refine ⟨_, _, pre0 _ ?_, hrun, hended, _, _, rfl, ?_, ⟨_, rfl⟩, hW, hsame.mono (by decide) (by decide)⟩
  · show SF p e below s₁ (mkF m 0 #[rv w3, iv 0, iv u1] []) _
    refine XS.aloadN X0.here hx rfl (hb hby d1_0) rfl rfl ?_
    show SF p e below s₁ (mkF m 1 #[rv w3, iv 0, iv u1] [(.ref w3)]) _
    refine st1.trans ?_
    show SF p e below T1 (mkF m 4 #[rv w3, iv 0, iv u1] [(.int 2)]) _
    refine XS.tswIn X1.here hx rfl (pc0 := 4) (pc' := 62) rfl (hb hby d1_4) rfl (by decide) (o := 58) (by decide) (by decide) (by decide) ?_
    show SF p e below T1 (mkF m 62 #[rv w3, iv 0, iv u1] []) _
    refine XS.iloadN X1.here hx rfl (hb hby d1_62) rfl ?_
    show SF p e below T1 (mkF m 63 #[rv w3, iv 0, iv u1] [(.int u1)]) _
    refine XS.ifNo X1.here hx rfl (hb hby d1_63) rfl ((if0 _ _).trans (tlt P4).2.2.2) ?_
    show SF p e below T1 (mkF m 66 #[rv w3, iv 0, iv u1] []) _
    refine XS.iconst X1.here hx rfl (hb hby d1_66) ?_
    show SF p e below T1 (mkF m 67 #[rv w3, iv 0, iv u1] [(.int 1)]) _
    refine XS.goto X1.here hx rfl (pc0 := 67) (pc' := 83) rfl (hb hby d1_67) (by decide) (by decide) ?_
    show SF p e below T1 (mkF m 83 #[rv w3, iv 0, iv u1] [(.int 1)]) _
    exact retN X1 hx (t := .boolean) Bd.returns (by simp) (hb hby d1_83) hr
  · show Q1_6 Z w3 u1 h0 n0 _ T1.heap _
    rw [e1]
    exact ⟨rfl, N1, rfl⟩
-- Enum.ordinal 
def Q2_7 (Z : State) (w4 : Addr) (h0 : Heap) (n0 : Nat) (v : Option Value) (h : Heap) (L : List Loc) : Prop := v = some (.int 3) ∧ Fr n0 L ∧ h = h0
set_option maxRecDepth 65536 in
set_option maxHeartbeats 40000000 in
theorem rm2_7 (l : Launch) (Z : State) (a0 : Array Value) (hw : HW Z a0) (ws : List Jvm.Cond) (w4 : Addr) (h0 : Heap) (n0 : Nat) (Z0 : n0 ≤ h0.size) (F_w4_ordinal : Fld Z Z.heap w4 "java/lang/Enum" "ordinal" "I" (.int 3)) (P2 : Old Z n0 h0) :
    MF l Z (⟨"java/lang/Enum", "ordinal", "()I"⟩ : MethodName) (Jvm.Cond.code (⟨"java/lang/Enum", "ordinal", "()I"⟩ : MethodName) jdk_37_method_2_code 1 (some .int)) ws ({ frames := 0, cells := 0, slots := 0, locals := 0 } : Room) #[(.ref w4)] h0 (Q2_7 Z w4 h0 n0) := by
  refine MetFree.of_bodySF (plainFor_of_name pn_0) hisR ?_
  intro p e s m args below meth c s₁ Bd hml0 hP hK
  obtain ⟨rfl, hZ, hh⟩ := hP
  have hx := Bd.exec
  have hby := Bd.bytes
  have hml : c.maxLocals = 1 := hml0
  have hown : s.vm.findClass "java/lang/Enum" = some m.cls := findClass_of_methodNamed Bd.named
  have hnm := (name_of_methodNamed Bd.named Bd.method).1
  have X0 : Stand p l e ({ frames := 0, cells := 0, slots := 0, locals := 0 } : Room) s m #[(.ref w4)] below meth c s₁ [] 0 0 := Stand.of_body Bd
  have e0 : s₁.heap = h0 := by rw [← hh, Bd.state]; rfl
  have N0 := Fr.nil n0
  have pre0 : ∀ t, SF p e below s₁ (mkF m 0 #[rv w4] []) t → SF p e below s₁ (entryFrame m #[(.ref w4)] 1) t := fun t k => castTop (ef_0 m w4) k
  obtain ⟨T1, X1, e1, st1⟩ := getF X0 hx hZ hown (host := "") (Or.inl (tw hw 15 rfl)) Via.refl e0 (F_w4_ordinal.ext P2.2) (g := (mkF m 1 #[rv w4] [(.ref w4)])) rfl rfl (hb hby d2_1)
  obtain ⟨fs, hr, hrun, hended, hW, hsame⟩ := X1.leave (v := some (.int 3)) (fun h => by rw [Bd.returns] at h; cases h)
  refine ⟨_, _, pre0 _ ?_, hrun, hended, _, _, rfl, ?_, ⟨_, rfl⟩, hW, hsame.mono (by decide) (by decide)⟩
  · show SF p e below s₁ (mkF m 0 #[rv w4] []) _
    refine XS.aloadN X0.here hx rfl (hb hby d2_0) rfl rfl ?_
    show SF p e below s₁ (mkF m 1 #[rv w4] [(.ref w4)]) _
    refine st1 _ ?_
    show SF p e below T1 (mkF m 4 #[rv w4] [(.int 3)]) _
    exact retI X1 hx Bd.returns (hb hby d2_4) hr
  · show Q2_7 Z w4 h0 n0 _ T1.heap _
    rw [e1]
    exact ⟨rfl, N0, rfl⟩
theorem d1_74 : decode prog_9_method_5_code 74 = .ok (.iload_n 2, 1) := by decide +kernel
theorem d1_75 : decode prog_9_method_5_code 75 = .ok (.ifCond .ge 7, 3) := by decide +kernel
theorem d1_78 : decode prog_9_method_5_code 78 = .ok (.iconst 1, 1) := by decide +kernel
theorem d1_79 : decode prog_9_method_5_code 79 = .ok (.goto 4, 3) := by decide +kernel
-- Condition.admits 
def Q1_8 (Z : State) (w4 : Addr) (u1 : Int32) (h0 : Heap) (n0 : Nat) (v : Option Value) (h : Heap) (L : List Loc) : Prop := v = some (.int 1) ∧ Fr n0 L ∧ h = h0
set_option maxRecDepth 65536 in
set_option maxHeartbeats 40000000 in
theorem rm1_8 (l : Launch) (Z : State) (a0 : Array Value) (hw : HW Z a0) (ws : List Jvm.Cond) (w4 : Addr) (u1 : Int32) (h0 : Heap) (n0 : Nat) (Z0 : n0 ≤ h0.size) (E_w4 : Exa Z Z.heap w4 "com/example/afterlog/afterlog/Condition") (P2 : Old Z n0 h0) (F_w4_ordinal : Fld Z Z.heap w4 "java/lang/Enum" "ordinal" "I" (.int 3)) (P4 : u1 < (0 : Int32)) :
    MF l Z (⟨"com/example/afterlog/afterlog/Condition", "admits", "(ZI)Z"⟩ : MethodName) (Jvm.Cond.code (⟨"com/example/afterlog/afterlog/Condition", "admits", "(ZI)Z"⟩ : MethodName) prog_9_method_5_code 3 (some .boolean)) ws ({ frames := 1, cells := 0, slots := 0, locals := 12 } : Room) #[(.ref w4), (.int 0), (.int u1)] h0 (Q1_8 Z w4 u1 h0 n0) := by
  refine MetFree.of_bodySF (plainFor_of_name pn_1) hisR ?_
  intro p e s m args below meth c s₁ Bd hml0 hP hK
  obtain ⟨rfl, hZ, hh⟩ := hP
  have hx := Bd.exec
  have hby := Bd.bytes
  have hml : c.maxLocals = 3 := hml0
  have hown : s.vm.findClass "com/example/afterlog/afterlog/Condition" = some m.cls := findClass_of_methodNamed Bd.named
  have hnm := (name_of_methodNamed Bd.named Bd.method).1
  have X0 : Stand p l e ({ frames := 1, cells := 0, slots := 0, locals := 12 } : Room) s m #[(.ref w4), (.int 0), (.int u1)] below meth c s₁ [] 0 0 := Stand.of_body Bd
  have e0 : s₁.heap = h0 := by rw [← hh, Bd.state]; rfl
  have N0 := Fr.nil n0
  have pre0 : ∀ t, SF p e below s₁ (mkF m 0 #[rv w4, iv 0, iv u1] []) t → SF p e below s₁ (entryFrame m #[(.ref w4), (.int 0), (.int u1)] 3) t := fun t k => castTop (ef_1 m w4 (0 : Int32) u1) k
  obtain ⟨cq1, kq1, q1a, q1b, q1c⟩ := isOf hZ e0 (E_w4.ext P2.2)
  obtain ⟨_, _, ⟨T1, L1, k1x, n1⟩, -, X1, ⟨Lc1, hQ1, l1, y1, z1⟩, st1⟩ := X0.virtualBackUp hx (owner := "java/lang/Enum") (x := (⟨"com/example/afterlog/afterlog/Condition", "ordinal", "()I"⟩ : MethodName)) (y := (⟨"java/lang/Enum", "ordinal", "()I"⟩ : MethodName)) hown (mvT hZ (tw hw 8 rfl)) (mvT hZ (tw hw 9 rfl)) (mvT hZ (tw hw 10 rfl)) (by decide) (mvT hZ (tw hw 12 rfl)) (mvT hZ (tw hw 11 rfl)) (backOf (W := 0) (rm2_7 l Z a0 hw [] w4 h0 n0 Z0 F_w4_ordinal P2) hZ (tw hw 14 rfl) (tw hw 13 rfl) (by decide) (by decide)) q1a q1c (g := (mkF m 1 #[rv w4, iv 0, iv u1] [(.ref w4)])) rfl (by rw [hml]; rfl) (Steps.refl _) (argsL := []) (rest := []) (lenOf pd_0 rfl) rfl (by show 2 * 0 + _ ≤ _; exact Nat.le_of_eq rfl) (hb hby d1_1) (fun _ _ => ⟨rfl, e0, (by decide : 0 + 0 ≤ _), (by decide : 0 + 0 ≤ _)⟩)
  dsimp only [Pt.U, Pt.locs, Pt.cells, Pt.slots] at X1 l1 y1 z1 st1 hQ1
  subst l1 y1 z1
  obtain ⟨rfl, N1q, e1⟩ := hQ1
  have N1 := Fr.app N0 N1q
  obtain ⟨fs, hr, hrun, hended, hW, hsame⟩ := X1.leave (v := some (.int 1)) (fun h => by rw [Bd.returns] at h; cases h)
  refine ⟨_, _, pre0 _ ?_, hrun, hended, _, _, rfl, ?_, ⟨_, rfl⟩, hW, hsame.mono (by decide) (by decide)⟩
  · show SF p e below s₁ (mkF m 0 #[rv w4, iv 0, iv u1] []) _
    refine XS.aloadN X0.here hx rfl (hb hby d1_0) rfl rfl ?_
    show SF p e below s₁ (mkF m 1 #[rv w4, iv 0, iv u1] [(.ref w4)]) _
    refine st1.trans ?_
    show SF p e below T1 (mkF m 4 #[rv w4, iv 0, iv u1] [(.int 3)]) _
    refine XS.tswIn X1.here hx rfl (pc0 := 4) (pc' := 74) rfl (hb hby d1_4) rfl (by decide) (o := 70) (by decide) (by decide) (by decide) ?_
    show SF p e below T1 (mkF m 74 #[rv w4, iv 0, iv u1] []) _
    refine XS.iloadN X1.here hx rfl (hb hby d1_74) rfl ?_
    show SF p e below T1 (mkF m 75 #[rv w4, iv 0, iv u1] [(.int u1)]) _
    refine XS.ifNo X1.here hx rfl (hb hby d1_75) rfl ((if0 _ _).trans (tlt P4).2.1) ?_
    show SF p e below T1 (mkF m 78 #[rv w4, iv 0, iv u1] []) _
    refine XS.iconst X1.here hx rfl (hb hby d1_78) ?_
    show SF p e below T1 (mkF m 79 #[rv w4, iv 0, iv u1] [(.int 1)]) _
    refine XS.goto X1.here hx rfl (pc0 := 79) (pc' := 83) rfl (hb hby d1_79) (by decide) (by decide) ?_
    show SF p e below T1 (mkF m 83 #[rv w4, iv 0, iv u1] [(.int 1)]) _
    exact retN X1 hx (t := .boolean) Bd.returns (by simp) (hb hby d1_83) hr
  · show Q1_8 Z w4 u1 h0 n0 _ T1.heap _
    rw [e1]
    exact ⟨rfl, N1, rfl⟩
theorem d1_82 : decode prog_9_method_5_code 82 = .ok (.iconst 0, 1) := by decide +kernel
-- Condition.admits 
def Q1_9 (Z : State) (w4 : Addr) (u1 : Int32) (h0 : Heap) (n0 : Nat) (v : Option Value) (h : Heap) (L : List Loc) : Prop := v = some (.int 0) ∧ Fr n0 L ∧ h = h0
set_option maxRecDepth 65536 in
set_option maxHeartbeats 40000000 in
theorem rm1_9 (l : Launch) (Z : State) (a0 : Array Value) (hw : HW Z a0) (ws : List Jvm.Cond) (w4 : Addr) (u1 : Int32) (h0 : Heap) (n0 : Nat) (Z0 : n0 ≤ h0.size) (E_w4 : Exa Z Z.heap w4 "com/example/afterlog/afterlog/Condition") (P2 : Old Z n0 h0) (F_w4_ordinal : Fld Z Z.heap w4 "java/lang/Enum" "ordinal" "I" (.int 3)) (P4 : ¬ (u1 < (0 : Int32))) :
    MF l Z (⟨"com/example/afterlog/afterlog/Condition", "admits", "(ZI)Z"⟩ : MethodName) (Jvm.Cond.code (⟨"com/example/afterlog/afterlog/Condition", "admits", "(ZI)Z"⟩ : MethodName) prog_9_method_5_code 3 (some .boolean)) ws ({ frames := 1, cells := 0, slots := 0, locals := 12 } : Room) #[(.ref w4), (.int 0), (.int u1)] h0 (Q1_9 Z w4 u1 h0 n0) := by
  refine MetFree.of_bodySF (plainFor_of_name pn_1) hisR ?_
  intro p e s m args below meth c s₁ Bd hml0 hP hK
  obtain ⟨rfl, hZ, hh⟩ := hP
  have hx := Bd.exec
  have hby := Bd.bytes
  have hml : c.maxLocals = 3 := hml0
  have hown : s.vm.findClass "com/example/afterlog/afterlog/Condition" = some m.cls := findClass_of_methodNamed Bd.named
  have hnm := (name_of_methodNamed Bd.named Bd.method).1
  have X0 : Stand p l e ({ frames := 1, cells := 0, slots := 0, locals := 12 } : Room) s m #[(.ref w4), (.int 0), (.int u1)] below meth c s₁ [] 0 0 := Stand.of_body Bd
  have e0 : s₁.heap = h0 := by rw [← hh, Bd.state]; rfl
  have N0 := Fr.nil n0
  have pre0 : ∀ t, SF p e below s₁ (mkF m 0 #[rv w4, iv 0, iv u1] []) t → SF p e below s₁ (entryFrame m #[(.ref w4), (.int 0), (.int u1)] 3) t := fun t k => castTop (ef_1 m w4 (0 : Int32) u1) k
  obtain ⟨cq1, kq1, q1a, q1b, q1c⟩ := isOf hZ e0 (E_w4.ext P2.2)
  obtain ⟨_, _, ⟨T1, L1, k1x, n1⟩, -, X1, ⟨Lc1, hQ1, l1, y1, z1⟩, st1⟩ := X0.virtualBackUp hx (owner := "java/lang/Enum") (x := (⟨"com/example/afterlog/afterlog/Condition", "ordinal", "()I"⟩ : MethodName)) (y := (⟨"java/lang/Enum", "ordinal", "()I"⟩ : MethodName)) hown (mvT hZ (tw hw 8 rfl)) (mvT hZ (tw hw 9 rfl)) (mvT hZ (tw hw 10 rfl)) (by decide) (mvT hZ (tw hw 12 rfl)) (mvT hZ (tw hw 11 rfl)) (backOf (W := 0) (rm2_7 l Z a0 hw [] w4 h0 n0 Z0 F_w4_ordinal P2) hZ (tw hw 14 rfl) (tw hw 13 rfl) (by decide) (by decide)) q1a q1c (g := (mkF m 1 #[rv w4, iv 0, iv u1] [(.ref w4)])) rfl (by rw [hml]; rfl) (Steps.refl _) (argsL := []) (rest := []) (lenOf pd_0 rfl) rfl (by show 2 * 0 + _ ≤ _; exact Nat.le_of_eq rfl) (hb hby d1_1) (fun _ _ => ⟨rfl, e0, (by decide : 0 + 0 ≤ _), (by decide : 0 + 0 ≤ _)⟩)
  dsimp only [Pt.U, Pt.locs, Pt.cells, Pt.slots] at X1 l1 y1 z1 st1 hQ1
  subst l1 y1 z1
  obtain ⟨rfl, N1q, e1⟩ := hQ1
  have N1 := Fr.app N0 N1q
  obtain ⟨fs, hr, hrun, hended, hW, hsame⟩ := X1.leave (v := some (.int 0)) (fun h => by rw [Bd.returns] at h; cases h)
  refine ⟨_, _, pre0 _ ?_, hrun, hended, _, _, rfl, ?_, ⟨_, rfl⟩, hW, hsame.mono (by decide) (by decide)⟩
  · show SF p e below s₁ (mkF m 0 #[rv w4, iv 0, iv u1] []) _
    refine XS.aloadN X0.here hx rfl (hb hby d1_0) rfl rfl ?_
    show SF p e below s₁ (mkF m 1 #[rv w4, iv 0, iv u1] [(.ref w4)]) _
    refine st1.trans ?_
    show SF p e below T1 (mkF m 4 #[rv w4, iv 0, iv u1] [(.int 3)]) _
    refine XS.tswIn X1.here hx rfl (pc0 := 4) (pc' := 74) rfl (hb hby d1_4) rfl (by decide) (o := 70) (by decide) (by decide) (by decide) ?_
    show SF p e below T1 (mkF m 74 #[rv w4, iv 0, iv u1] []) _
    refine XS.iloadN X1.here hx rfl (hb hby d1_74) rfl ?_
    show SF p e below T1 (mkF m 75 #[rv w4, iv 0, iv u1] [(.int u1)]) _
    refine XS.ifYes X1.here hx rfl (pc0 := 75) (pc' := 82) rfl (hb hby d1_75) rfl ((if0 _ _).trans (flt P4).2.1) (by decide) (by decide) ?_
    show SF p e below T1 (mkF m 82 #[rv w4, iv 0, iv u1] []) _
    refine XS.iconst X1.here hx rfl (hb hby d1_82) ?_
    show SF p e below T1 (mkF m 83 #[rv w4, iv 0, iv u1] [(.int 0)]) _
    exact retN X1 hx (t := .boolean) Bd.returns (by simp) (hb hby d1_83) hr
  · show Q1_9 Z w4 u1 h0 n0 _ T1.heap _
    rw [e1]
    exact ⟨rfl, N1, rfl⟩
theorem d1_70 : decode prog_9_method_5_code 70 = .ok (.iconst 0, 1) := by decide +kernel
theorem d1_71 : decode prog_9_method_5_code 71 = .ok (.goto 12, 3) := by decide +kernel
-- Condition.admits 
def Q1_10 (Z : State) (w3 : Addr) (u1 : Int32) (h0 : Heap) (n0 : Nat) (v : Option Value) (h : Heap) (L : List Loc) : Prop := v = some (.int 0) ∧ Fr n0 L ∧ h = h0
set_option maxRecDepth 65536 in
set_option maxHeartbeats 40000000 in
theorem rm1_10 (l : Launch) (Z : State) (a0 : Array Value) (hw : HW Z a0) (ws : List Jvm.Cond) (w3 : Addr) (u1 : Int32) (h0 : Heap) (n0 : Nat) (Z0 : n0 ≤ h0.size) (E_w3 : Exa Z Z.heap w3 "com/example/afterlog/afterlog/Condition") (P2 : Old Z n0 h0) (F_w3_ordinal : Fld Z Z.heap w3 "java/lang/Enum" "ordinal" "I" (.int 2)) (P4 : ¬ ((0 : Int32) < u1)) :
    MF l Z (⟨"com/example/afterlog/afterlog/Condition", "admits", "(ZI)Z"⟩ : MethodName) (Jvm.Cond.code (⟨"com/example/afterlog/afterlog/Condition", "admits", "(ZI)Z"⟩ : MethodName) prog_9_method_5_code 3 (some .boolean)) ws ({ frames := 1, cells := 0, slots := 0, locals := 12 } : Room) #[(.ref w3), (.int 0), (.int u1)] h0 (Q1_10 Z w3 u1 h0 n0) := by
  refine MetFree.of_bodySF (plainFor_of_name pn_1) hisR ?_
  intro p e s m args below meth c s₁ Bd hml0 hP hK
  obtain ⟨rfl, hZ, hh⟩ := hP
  have hx := Bd.exec
  have hby := Bd.bytes
  have hml : c.maxLocals = 3 := hml0
  have hown : s.vm.findClass "com/example/afterlog/afterlog/Condition" = some m.cls := findClass_of_methodNamed Bd.named
  have hnm := (name_of_methodNamed Bd.named Bd.method).1
  have X0 : Stand p l e ({ frames := 1, cells := 0, slots := 0, locals := 12 } : Room) s m #[(.ref w3), (.int 0), (.int u1)] below meth c s₁ [] 0 0 := Stand.of_body Bd
  have e0 : s₁.heap = h0 := by rw [← hh, Bd.state]; rfl
  have N0 := Fr.nil n0
  have pre0 : ∀ t, SF p e below s₁ (mkF m 0 #[rv w3, iv 0, iv u1] []) t → SF p e below s₁ (entryFrame m #[(.ref w3), (.int 0), (.int u1)] 3) t := fun t k => castTop (ef_1 m w3 (0 : Int32) u1) k
  obtain ⟨cq1, kq1, q1a, q1b, q1c⟩ := isOf hZ e0 (E_w3.ext P2.2)
  obtain ⟨_, _, ⟨T1, L1, k1x, n1⟩, -, X1, ⟨Lc1, hQ1, l1, y1, z1⟩, st1⟩ := X0.virtualBackUp hx (owner := "java/lang/Enum") (x := (⟨"com/example/afterlog/afterlog/Condition", "ordinal", "()I"⟩ : MethodName)) (y := (⟨"java/lang/Enum", "ordinal", "()I"⟩ : MethodName)) hown (mvT hZ (tw hw 8 rfl)) (mvT hZ (tw hw 9 rfl)) (mvT hZ (tw hw 10 rfl)) (by decide) (mvT hZ (tw hw 12 rfl)) (mvT hZ (tw hw 11 rfl)) (backOf (W := 0) (rm2_5 l Z a0 hw [] w3 h0 n0 Z0 F_w3_ordinal P2) hZ (tw hw 14 rfl) (tw hw 13 rfl) (by decide) (by decide)) q1a q1c (g := (mkF m 1 #[rv w3, iv 0, iv u1] [(.ref w3)])) rfl (by rw [hml]; rfl) (Steps.refl _) (argsL := []) (rest := []) (lenOf pd_0 rfl) rfl (by show 2 * 0 + _ ≤ _; exact Nat.le_of_eq rfl) (hb hby d1_1) (fun _ _ => ⟨rfl, e0, (by decide : 0 + 0 ≤ _), (by decide : 0 + 0 ≤ _)⟩)
  dsimp only [Pt.U, Pt.locs, Pt.cells, Pt.slots] at X1 l1 y1 z1 st1 hQ1
  subst l1 y1 z1
  obtain ⟨rfl, N1q, e1⟩ := hQ1
  have N1 := Fr.app N0 N1q
  obtain ⟨fs, hr, hrun, hended, hW, hsame⟩ := X1.leave (v := some (.int 0)) (fun h => by rw [Bd.returns] at h; cases h)
  refine ⟨_, _, pre0 _ ?_, hrun, hended, _, _, rfl, ?_, ⟨_, rfl⟩, hW, hsame.mono (by decide) (by decide)⟩
  · show SF p e below s₁ (mkF m 0 #[rv w3, iv 0, iv u1] []) _
    refine XS.aloadN X0.here hx rfl (hb hby d1_0) rfl rfl ?_
    show SF p e below s₁ (mkF m 1 #[rv w3, iv 0, iv u1] [(.ref w3)]) _
    refine st1.trans ?_
    show SF p e below T1 (mkF m 4 #[rv w3, iv 0, iv u1] [(.int 2)]) _
    refine XS.tswIn X1.here hx rfl (pc0 := 4) (pc' := 62) rfl (hb hby d1_4) rfl (by decide) (o := 58) (by decide) (by decide) (by decide) ?_
    show SF p e below T1 (mkF m 62 #[rv w3, iv 0, iv u1] []) _
    refine XS.iloadN X1.here hx rfl (hb hby d1_62) rfl ?_
    show SF p e below T1 (mkF m 63 #[rv w3, iv 0, iv u1] [(.int u1)]) _
    refine XS.ifYes X1.here hx rfl (pc0 := 63) (pc' := 70) rfl (hb hby d1_63) rfl ((if0 _ _).trans (flt P4).2.2.2) (by decide) (by decide) ?_
    show SF p e below T1 (mkF m 70 #[rv w3, iv 0, iv u1] []) _
    refine XS.iconst X1.here hx rfl (hb hby d1_70) ?_
    show SF p e below T1 (mkF m 71 #[rv w3, iv 0, iv u1] [(.int 0)]) _
    refine XS.goto X1.here hx rfl (pc0 := 71) (pc' := 83) rfl (hb hby d1_71) (by decide) (by decide) ?_
    show SF p e below T1 (mkF m 83 #[rv w3, iv 0, iv u1] [(.int 0)]) _
    exact retN X1 hx (t := .boolean) Bd.returns (by simp) (hb hby d1_83) hr
  · show Q1_10 Z w3 u1 h0 n0 _ T1.heap _
    rw [e1]
    exact ⟨rfl, N1, rfl⟩
theorem d1_54 : decode prog_9_method_5_code 54 = .ok (.iconst 0, 1) := by decide +kernel
theorem d1_55 : decode prog_9_method_5_code 55 = .ok (.goto 28, 3) := by decide +kernel
-- Condition.admits 
def Q1_11 (Z : State) (w1 : Addr) (u1 : Int32) (h0 : Heap) (n0 : Nat) (v : Option Value) (h : Heap) (L : List Loc) : Prop := v = some (.int 0) ∧ Fr n0 L ∧ h = h0
set_option maxRecDepth 65536 in
set_option maxHeartbeats 40000000 in
theorem rm1_11 (l : Launch) (Z : State) (a0 : Array Value) (hw : HW Z a0) (ws : List Jvm.Cond) (w1 : Addr) (u1 : Int32) (h0 : Heap) (n0 : Nat) (Z0 : n0 ≤ h0.size) (E_w1 : Exa Z Z.heap w1 "com/example/afterlog/afterlog/Condition") (P2 : Old Z n0 h0) (F_w1_ordinal : Fld Z Z.heap w1 "java/lang/Enum" "ordinal" "I" (.int 0)) :
    MF l Z (⟨"com/example/afterlog/afterlog/Condition", "admits", "(ZI)Z"⟩ : MethodName) (Jvm.Cond.code (⟨"com/example/afterlog/afterlog/Condition", "admits", "(ZI)Z"⟩ : MethodName) prog_9_method_5_code 3 (some .boolean)) ws ({ frames := 1, cells := 0, slots := 0, locals := 12 } : Room) #[(.ref w1), (.int 1), (.int u1)] h0 (Q1_11 Z w1 u1 h0 n0) := by
  refine MetFree.of_bodySF (plainFor_of_name pn_1) hisR ?_
  intro p e s m args below meth c s₁ Bd hml0 hP hK
  obtain ⟨rfl, hZ, hh⟩ := hP
  have hx := Bd.exec
  have hby := Bd.bytes
  have hml : c.maxLocals = 3 := hml0
  have hown : s.vm.findClass "com/example/afterlog/afterlog/Condition" = some m.cls := findClass_of_methodNamed Bd.named
  have hnm := (name_of_methodNamed Bd.named Bd.method).1
  have X0 : Stand p l e ({ frames := 1, cells := 0, slots := 0, locals := 12 } : Room) s m #[(.ref w1), (.int 1), (.int u1)] below meth c s₁ [] 0 0 := Stand.of_body Bd
  have e0 : s₁.heap = h0 := by rw [← hh, Bd.state]; rfl
  have N0 := Fr.nil n0
  have pre0 : ∀ t, SF p e below s₁ (mkF m 0 #[rv w1, iv 1, iv u1] []) t → SF p e below s₁ (entryFrame m #[(.ref w1), (.int 1), (.int u1)] 3) t := fun t k => castTop (ef_1 m w1 (1 : Int32) u1) k
  obtain ⟨cq1, kq1, q1a, q1b, q1c⟩ := isOf hZ e0 (E_w1.ext P2.2)
  obtain ⟨_, _, ⟨T1, L1, k1x, n1⟩, -, X1, ⟨Lc1, hQ1, l1, y1, z1⟩, st1⟩ := X0.virtualBackUp hx (owner := "java/lang/Enum") (x := (⟨"com/example/afterlog/afterlog/Condition", "ordinal", "()I"⟩ : MethodName)) (y := (⟨"java/lang/Enum", "ordinal", "()I"⟩ : MethodName)) hown (mvT hZ (tw hw 8 rfl)) (mvT hZ (tw hw 9 rfl)) (mvT hZ (tw hw 10 rfl)) (by decide) (mvT hZ (tw hw 12 rfl)) (mvT hZ (tw hw 11 rfl)) (backOf (W := 0) (rm2_1 l Z a0 hw [] w1 h0 n0 Z0 F_w1_ordinal P2) hZ (tw hw 14 rfl) (tw hw 13 rfl) (by decide) (by decide)) q1a q1c (g := (mkF m 1 #[rv w1, iv 1, iv u1] [(.ref w1)])) rfl (by rw [hml]; rfl) (Steps.refl _) (argsL := []) (rest := []) (lenOf pd_0 rfl) rfl (by show 2 * 0 + _ ≤ _; exact Nat.le_of_eq rfl) (hb hby d1_1) (fun _ _ => ⟨rfl, e0, (by decide : 0 + 0 ≤ _), (by decide : 0 + 0 ≤ _)⟩)
  dsimp only [Pt.U, Pt.locs, Pt.cells, Pt.slots] at X1 l1 y1 z1 st1 hQ1
  subst l1 y1 z1
  obtain ⟨rfl, N1q, e1⟩ := hQ1
  have N1 := Fr.app N0 N1q
  obtain ⟨fs, hr, hrun, hended, hW, hsame⟩ := X1.leave (v := some (.int 0)) (fun h => by rw [Bd.returns] at h; cases h)
  refine ⟨_, _, pre0 _ ?_, hrun, hended, _, _, rfl, ?_, ⟨_, rfl⟩, hW, hsame.mono (by decide) (by decide)⟩
  · show SF p e below s₁ (mkF m 0 #[rv w1, iv 1, iv u1] []) _
    refine XS.aloadN X0.here hx rfl (hb hby d1_0) rfl rfl ?_
    show SF p e below s₁ (mkF m 1 #[rv w1, iv 1, iv u1] [(.ref w1)]) _
    refine st1.trans ?_
    show SF p e below T1 (mkF m 4 #[rv w1, iv 1, iv u1] [(.int 0)]) _
    refine XS.tswIn X1.here hx rfl (pc0 := 4) (pc' := 46) rfl (hb hby d1_4) rfl (by decide) (o := 42) (by decide) (by decide) (by decide) ?_
    show SF p e below T1 (mkF m 46 #[rv w1, iv 1, iv u1] []) _
    refine XS.iloadN X1.here hx rfl (hb hby d1_46) rfl ?_
    show SF p e below T1 (mkF m 47 #[rv w1, iv 1, iv u1] [(.int 1)]) _
    refine XS.ifYes X1.here hx rfl (pc0 := 47) (pc' := 54) rfl (hb hby d1_47) rfl ((if0 _ _).trans (feq (by decide : ¬ ((1 : Int32) = (0 : Int32)))).2) (by decide) (by decide) ?_
    show SF p e below T1 (mkF m 54 #[rv w1, iv 1, iv u1] []) _
    refine XS.iconst X1.here hx rfl (hb hby d1_54) ?_
    show SF p e below T1 (mkF m 55 #[rv w1, iv 1, iv u1] [(.int 0)]) _
    refine XS.goto X1.here hx rfl (pc0 := 55) (pc' := 83) rfl (hb hby d1_55) (by decide) (by decide) ?_
    show SF p e below T1 (mkF m 83 #[rv w1, iv 1, iv u1] [(.int 0)]) _
    exact retN X1 hx (t := .boolean) Bd.returns (by simp) (hb hby d1_83) hr
  · show Q1_11 Z w1 u1 h0 n0 _ T1.heap _
    rw [e1]
    exact ⟨rfl, N1, rfl⟩
-- Condition.admits 
def Q1_12 (Z : State) (w2 : Addr) (u1 : Int32) (h0 : Heap) (n0 : Nat) (v : Option Value) (h : Heap) (L : List Loc) : Prop := v = some (.int 1) ∧ Fr n0 L ∧ h = h0
set_option maxRecDepth 65536 in
set_option maxHeartbeats 40000000 in
theorem rm1_12 (l : Launch) (Z : State) (a0 : Array Value) (hw : HW Z a0) (ws : List Jvm.Cond) (w2 : Addr) (u1 : Int32) (h0 : Heap) (n0 : Nat) (Z0 : n0 ≤ h0.size) (E_w2 : Exa Z Z.heap w2 "com/example/afterlog/afterlog/Condition") (P2 : Old Z n0 h0) (F_w2_ordinal : Fld Z Z.heap w2 "java/lang/Enum" "ordinal" "I" (.int 1)) :
    MF l Z (⟨"com/example/afterlog/afterlog/Condition", "admits", "(ZI)Z"⟩ : MethodName) (Jvm.Cond.code (⟨"com/example/afterlog/afterlog/Condition", "admits", "(ZI)Z"⟩ : MethodName) prog_9_method_5_code 3 (some .boolean)) ws ({ frames := 1, cells := 0, slots := 0, locals := 12 } : Room) #[(.ref w2), (.int 1), (.int u1)] h0 (Q1_12 Z w2 u1 h0 n0) := by
  refine MetFree.of_bodySF (plainFor_of_name pn_1) hisR ?_
  intro p e s m args below meth c s₁ Bd hml0 hP hK
  obtain ⟨rfl, hZ, hh⟩ := hP
  have hx := Bd.exec
  have hby := Bd.bytes
  have hml : c.maxLocals = 3 := hml0
  have hown : s.vm.findClass "com/example/afterlog/afterlog/Condition" = some m.cls := findClass_of_methodNamed Bd.named
  have hnm := (name_of_methodNamed Bd.named Bd.method).1
  have X0 : Stand p l e ({ frames := 1, cells := 0, slots := 0, locals := 12 } : Room) s m #[(.ref w2), (.int 1), (.int u1)] below meth c s₁ [] 0 0 := Stand.of_body Bd
  have e0 : s₁.heap = h0 := by rw [← hh, Bd.state]; rfl
  have N0 := Fr.nil n0
  have pre0 : ∀ t, SF p e below s₁ (mkF m 0 #[rv w2, iv 1, iv u1] []) t → SF p e below s₁ (entryFrame m #[(.ref w2), (.int 1), (.int u1)] 3) t := fun t k => castTop (ef_1 m w2 (1 : Int32) u1) k
  obtain ⟨cq1, kq1, q1a, q1b, q1c⟩ := isOf hZ e0 (E_w2.ext P2.2)
  obtain ⟨_, _, ⟨T1, L1, k1x, n1⟩, -, X1, ⟨Lc1, hQ1, l1, y1, z1⟩, st1⟩ := X0.virtualBackUp hx (owner := "java/lang/Enum") (x := (⟨"com/example/afterlog/afterlog/Condition", "ordinal", "()I"⟩ : MethodName)) (y := (⟨"java/lang/Enum", "ordinal", "()I"⟩ : MethodName)) hown (mvT hZ (tw hw 8 rfl)) (mvT hZ (tw hw 9 rfl)) (mvT hZ (tw hw 10 rfl)) (by decide) (mvT hZ (tw hw 12 rfl)) (mvT hZ (tw hw 11 rfl)) (backOf (W := 0) (rm2_3 l Z a0 hw [] w2 h0 n0 Z0 F_w2_ordinal P2) hZ (tw hw 14 rfl) (tw hw 13 rfl) (by decide) (by decide)) q1a q1c (g := (mkF m 1 #[rv w2, iv 1, iv u1] [(.ref w2)])) rfl (by rw [hml]; rfl) (Steps.refl _) (argsL := []) (rest := []) (lenOf pd_0 rfl) rfl (by show 2 * 0 + _ ≤ _; exact Nat.le_of_eq rfl) (hb hby d1_1) (fun _ _ => ⟨rfl, e0, (by decide : 0 + 0 ≤ _), (by decide : 0 + 0 ≤ _)⟩)
  dsimp only [Pt.U, Pt.locs, Pt.cells, Pt.slots] at X1 l1 y1 z1 st1 hQ1
  subst l1 y1 z1
  obtain ⟨rfl, N1q, e1⟩ := hQ1
  have N1 := Fr.app N0 N1q
  obtain ⟨fs, hr, hrun, hended, hW, hsame⟩ := X1.leave (v := some (.int 1)) (fun h => by rw [Bd.returns] at h; cases h)
  refine ⟨_, _, pre0 _ ?_, hrun, hended, _, _, rfl, ?_, ⟨_, rfl⟩, hW, hsame.mono (by decide) (by decide)⟩
  · show SF p e below s₁ (mkF m 0 #[rv w2, iv 1, iv u1] []) _
    refine XS.aloadN X0.here hx rfl (hb hby d1_0) rfl rfl ?_
    show SF p e below s₁ (mkF m 1 #[rv w2, iv 1, iv u1] [(.ref w2)]) _
    refine st1.trans ?_
    show SF p e below T1 (mkF m 4 #[rv w2, iv 1, iv u1] [(.int 1)]) _
    refine XS.tswIn X1.here hx rfl (pc0 := 4) (pc' := 58) rfl (hb hby d1_4) rfl (by decide) (o := 54) (by decide) (by decide) (by decide) ?_
    show SF p e below T1 (mkF m 58 #[rv w2, iv 1, iv u1] []) _
    refine XS.iloadN X1.here hx rfl (hb hby d1_58) rfl ?_
    show SF p e below T1 (mkF m 59 #[rv w2, iv 1, iv u1] [(.int 1)]) _
    refine XS.goto X1.here hx rfl (pc0 := 59) (pc' := 83) rfl (hb hby d1_59) (by decide) (by decide) ?_
    show SF p e below T1 (mkF m 83 #[rv w2, iv 1, iv u1] [(.int 1)]) _
    exact retN X1 hx (t := .boolean) Bd.returns (by simp) (hb hby d1_83) hr
  · show Q1_12 Z w2 u1 h0 n0 _ T1.heap _
    rw [e1]
    exact ⟨rfl, N1, rfl⟩
-- Condition.admits 
def Q1_13 (Z : State) (w3 : Addr) (u1 : Int32) (h0 : Heap) (n0 : Nat) (v : Option Value) (h : Heap) (L : List Loc) : Prop := v = some (.int 1) ∧ Fr n0 L ∧ h = h0
set_option maxRecDepth 65536 in
set_option maxHeartbeats 40000000 in
theorem rm1_13 (l : Launch) (Z : State) (a0 : Array Value) (hw : HW Z a0) (ws : List Jvm.Cond) (w3 : Addr) (u1 : Int32) (h0 : Heap) (n0 : Nat) (Z0 : n0 ≤ h0.size) (E_w3 : Exa Z Z.heap w3 "com/example/afterlog/afterlog/Condition") (P2 : Old Z n0 h0) (F_w3_ordinal : Fld Z Z.heap w3 "java/lang/Enum" "ordinal" "I" (.int 2)) (P4 : (0 : Int32) < u1) :
    MF l Z (⟨"com/example/afterlog/afterlog/Condition", "admits", "(ZI)Z"⟩ : MethodName) (Jvm.Cond.code (⟨"com/example/afterlog/afterlog/Condition", "admits", "(ZI)Z"⟩ : MethodName) prog_9_method_5_code 3 (some .boolean)) ws ({ frames := 1, cells := 0, slots := 0, locals := 12 } : Room) #[(.ref w3), (.int 1), (.int u1)] h0 (Q1_13 Z w3 u1 h0 n0) := by
  refine MetFree.of_bodySF (plainFor_of_name pn_1) hisR ?_
  intro p e s m args below meth c s₁ Bd hml0 hP hK
  obtain ⟨rfl, hZ, hh⟩ := hP
  have hx := Bd.exec
  have hby := Bd.bytes
  have hml : c.maxLocals = 3 := hml0
  have hown : s.vm.findClass "com/example/afterlog/afterlog/Condition" = some m.cls := findClass_of_methodNamed Bd.named
  have hnm := (name_of_methodNamed Bd.named Bd.method).1
  have X0 : Stand p l e ({ frames := 1, cells := 0, slots := 0, locals := 12 } : Room) s m #[(.ref w3), (.int 1), (.int u1)] below meth c s₁ [] 0 0 := Stand.of_body Bd
  have e0 : s₁.heap = h0 := by rw [← hh, Bd.state]; rfl
  have N0 := Fr.nil n0
  have pre0 : ∀ t, SF p e below s₁ (mkF m 0 #[rv w3, iv 1, iv u1] []) t → SF p e below s₁ (entryFrame m #[(.ref w3), (.int 1), (.int u1)] 3) t := fun t k => castTop (ef_1 m w3 (1 : Int32) u1) k
  obtain ⟨cq1, kq1, q1a, q1b, q1c⟩ := isOf hZ e0 (E_w3.ext P2.2)
  obtain ⟨_, _, ⟨T1, L1, k1x, n1⟩, -, X1, ⟨Lc1, hQ1, l1, y1, z1⟩, st1⟩ := X0.virtualBackUp hx (owner := "java/lang/Enum") (x := (⟨"com/example/afterlog/afterlog/Condition", "ordinal", "()I"⟩ : MethodName)) (y := (⟨"java/lang/Enum", "ordinal", "()I"⟩ : MethodName)) hown (mvT hZ (tw hw 8 rfl)) (mvT hZ (tw hw 9 rfl)) (mvT hZ (tw hw 10 rfl)) (by decide) (mvT hZ (tw hw 12 rfl)) (mvT hZ (tw hw 11 rfl)) (backOf (W := 0) (rm2_5 l Z a0 hw [] w3 h0 n0 Z0 F_w3_ordinal P2) hZ (tw hw 14 rfl) (tw hw 13 rfl) (by decide) (by decide)) q1a q1c (g := (mkF m 1 #[rv w3, iv 1, iv u1] [(.ref w3)])) rfl (by rw [hml]; rfl) (Steps.refl _) (argsL := []) (rest := []) (lenOf pd_0 rfl) rfl (by show 2 * 0 + _ ≤ _; exact Nat.le_of_eq rfl) (hb hby d1_1) (fun _ _ => ⟨rfl, e0, (by decide : 0 + 0 ≤ _), (by decide : 0 + 0 ≤ _)⟩)
  dsimp only [Pt.U, Pt.locs, Pt.cells, Pt.slots] at X1 l1 y1 z1 st1 hQ1
  subst l1 y1 z1
  obtain ⟨rfl, N1q, e1⟩ := hQ1
  have N1 := Fr.app N0 N1q
  obtain ⟨fs, hr, hrun, hended, hW, hsame⟩ := X1.leave (v := some (.int 1)) (fun h => by rw [Bd.returns] at h; cases h)
  refine ⟨_, _, pre0 _ ?_, hrun, hended, _, _, rfl, ?_, ⟨_, rfl⟩, hW, hsame.mono (by decide) (by decide)⟩
  · show SF p e below s₁ (mkF m 0 #[rv w3, iv 1, iv u1] []) _
    refine XS.aloadN X0.here hx rfl (hb hby d1_0) rfl rfl ?_
    show SF p e below s₁ (mkF m 1 #[rv w3, iv 1, iv u1] [(.ref w3)]) _
    refine st1.trans ?_
    show SF p e below T1 (mkF m 4 #[rv w3, iv 1, iv u1] [(.int 2)]) _
    refine XS.tswIn X1.here hx rfl (pc0 := 4) (pc' := 62) rfl (hb hby d1_4) rfl (by decide) (o := 58) (by decide) (by decide) (by decide) ?_
    show SF p e below T1 (mkF m 62 #[rv w3, iv 1, iv u1] []) _
    refine XS.iloadN X1.here hx rfl (hb hby d1_62) rfl ?_
    show SF p e below T1 (mkF m 63 #[rv w3, iv 1, iv u1] [(.int u1)]) _
    refine XS.ifNo X1.here hx rfl (hb hby d1_63) rfl ((if0 _ _).trans (tlt P4).2.2.2) ?_
    show SF p e below T1 (mkF m 66 #[rv w3, iv 1, iv u1] []) _
    refine XS.iconst X1.here hx rfl (hb hby d1_66) ?_
    show SF p e below T1 (mkF m 67 #[rv w3, iv 1, iv u1] [(.int 1)]) _
    refine XS.goto X1.here hx rfl (pc0 := 67) (pc' := 83) rfl (hb hby d1_67) (by decide) (by decide) ?_
    show SF p e below T1 (mkF m 83 #[rv w3, iv 1, iv u1] [(.int 1)]) _
    exact retN X1 hx (t := .boolean) Bd.returns (by simp) (hb hby d1_83) hr
  · show Q1_13 Z w3 u1 h0 n0 _ T1.heap _
    rw [e1]
    exact ⟨rfl, N1, rfl⟩
-- Condition.admits 
def Q1_14 (Z : State) (w4 : Addr) (u1 : Int32) (h0 : Heap) (n0 : Nat) (v : Option Value) (h : Heap) (L : List Loc) : Prop := v = some (.int 1) ∧ Fr n0 L ∧ h = h0
set_option maxRecDepth 65536 in
set_option maxHeartbeats 40000000 in
theorem rm1_14 (l : Launch) (Z : State) (a0 : Array Value) (hw : HW Z a0) (ws : List Jvm.Cond) (w4 : Addr) (u1 : Int32) (h0 : Heap) (n0 : Nat) (Z0 : n0 ≤ h0.size) (E_w4 : Exa Z Z.heap w4 "com/example/afterlog/afterlog/Condition") (P2 : Old Z n0 h0) (F_w4_ordinal : Fld Z Z.heap w4 "java/lang/Enum" "ordinal" "I" (.int 3)) (P4 : u1 < (0 : Int32)) :
    MF l Z (⟨"com/example/afterlog/afterlog/Condition", "admits", "(ZI)Z"⟩ : MethodName) (Jvm.Cond.code (⟨"com/example/afterlog/afterlog/Condition", "admits", "(ZI)Z"⟩ : MethodName) prog_9_method_5_code 3 (some .boolean)) ws ({ frames := 1, cells := 0, slots := 0, locals := 12 } : Room) #[(.ref w4), (.int 1), (.int u1)] h0 (Q1_14 Z w4 u1 h0 n0) := by
  refine MetFree.of_bodySF (plainFor_of_name pn_1) hisR ?_
  intro p e s m args below meth c s₁ Bd hml0 hP hK
  obtain ⟨rfl, hZ, hh⟩ := hP
  have hx := Bd.exec
  have hby := Bd.bytes
  have hml : c.maxLocals = 3 := hml0
  have hown : s.vm.findClass "com/example/afterlog/afterlog/Condition" = some m.cls := findClass_of_methodNamed Bd.named
  have hnm := (name_of_methodNamed Bd.named Bd.method).1
  have X0 : Stand p l e ({ frames := 1, cells := 0, slots := 0, locals := 12 } : Room) s m #[(.ref w4), (.int 1), (.int u1)] below meth c s₁ [] 0 0 := Stand.of_body Bd
  have e0 : s₁.heap = h0 := by rw [← hh, Bd.state]; rfl
  have N0 := Fr.nil n0
  have pre0 : ∀ t, SF p e below s₁ (mkF m 0 #[rv w4, iv 1, iv u1] []) t → SF p e below s₁ (entryFrame m #[(.ref w4), (.int 1), (.int u1)] 3) t := fun t k => castTop (ef_1 m w4 (1 : Int32) u1) k
  obtain ⟨cq1, kq1, q1a, q1b, q1c⟩ := isOf hZ e0 (E_w4.ext P2.2)
  obtain ⟨_, _, ⟨T1, L1, k1x, n1⟩, -, X1, ⟨Lc1, hQ1, l1, y1, z1⟩, st1⟩ := X0.virtualBackUp hx (owner := "java/lang/Enum") (x := (⟨"com/example/afterlog/afterlog/Condition", "ordinal", "()I"⟩ : MethodName)) (y := (⟨"java/lang/Enum", "ordinal", "()I"⟩ : MethodName)) hown (mvT hZ (tw hw 8 rfl)) (mvT hZ (tw hw 9 rfl)) (mvT hZ (tw hw 10 rfl)) (by decide) (mvT hZ (tw hw 12 rfl)) (mvT hZ (tw hw 11 rfl)) (backOf (W := 0) (rm2_7 l Z a0 hw [] w4 h0 n0 Z0 F_w4_ordinal P2) hZ (tw hw 14 rfl) (tw hw 13 rfl) (by decide) (by decide)) q1a q1c (g := (mkF m 1 #[rv w4, iv 1, iv u1] [(.ref w4)])) rfl (by rw [hml]; rfl) (Steps.refl _) (argsL := []) (rest := []) (lenOf pd_0 rfl) rfl (by show 2 * 0 + _ ≤ _; exact Nat.le_of_eq rfl) (hb hby d1_1) (fun _ _ => ⟨rfl, e0, (by decide : 0 + 0 ≤ _), (by decide : 0 + 0 ≤ _)⟩)
  dsimp only [Pt.U, Pt.locs, Pt.cells, Pt.slots] at X1 l1 y1 z1 st1 hQ1
  subst l1 y1 z1
  obtain ⟨rfl, N1q, e1⟩ := hQ1
  have N1 := Fr.app N0 N1q
  obtain ⟨fs, hr, hrun, hended, hW, hsame⟩ := X1.leave (v := some (.int 1)) (fun h => by rw [Bd.returns] at h; cases h)
  refine ⟨_, _, pre0 _ ?_, hrun, hended, _, _, rfl, ?_, ⟨_, rfl⟩, hW, hsame.mono (by decide) (by decide)⟩
  · show SF p e below s₁ (mkF m 0 #[rv w4, iv 1, iv u1] []) _
    refine XS.aloadN X0.here hx rfl (hb hby d1_0) rfl rfl ?_
    show SF p e below s₁ (mkF m 1 #[rv w4, iv 1, iv u1] [(.ref w4)]) _
    refine st1.trans ?_
    show SF p e below T1 (mkF m 4 #[rv w4, iv 1, iv u1] [(.int 3)]) _
    refine XS.tswIn X1.here hx rfl (pc0 := 4) (pc' := 74) rfl (hb hby d1_4) rfl (by decide) (o := 70) (by decide) (by decide) (by decide) ?_
    show SF p e below T1 (mkF m 74 #[rv w4, iv 1, iv u1] []) _
    refine XS.iloadN X1.here hx rfl (hb hby d1_74) rfl ?_
    show SF p e below T1 (mkF m 75 #[rv w4, iv 1, iv u1] [(.int u1)]) _
    refine XS.ifNo X1.here hx rfl (hb hby d1_75) rfl ((if0 _ _).trans (tlt P4).2.1) ?_
    show SF p e below T1 (mkF m 78 #[rv w4, iv 1, iv u1] []) _
    refine XS.iconst X1.here hx rfl (hb hby d1_78) ?_
    show SF p e below T1 (mkF m 79 #[rv w4, iv 1, iv u1] [(.int 1)]) _
    refine XS.goto X1.here hx rfl (pc0 := 79) (pc' := 83) rfl (hb hby d1_79) (by decide) (by decide) ?_
    show SF p e below T1 (mkF m 83 #[rv w4, iv 1, iv u1] [(.int 1)]) _
    exact retN X1 hx (t := .boolean) Bd.returns (by simp) (hb hby d1_83) hr
  · show Q1_14 Z w4 u1 h0 n0 _ T1.heap _
    rw [e1]
    exact ⟨rfl, N1, rfl⟩
-- Condition.admits 
def Q1_15 (Z : State) (w4 : Addr) (u1 : Int32) (h0 : Heap) (n0 : Nat) (v : Option Value) (h : Heap) (L : List Loc) : Prop := v = some (.int 0) ∧ Fr n0 L ∧ h = h0
set_option maxRecDepth 65536 in
set_option maxHeartbeats 40000000 in
theorem rm1_15 (l : Launch) (Z : State) (a0 : Array Value) (hw : HW Z a0) (ws : List Jvm.Cond) (w4 : Addr) (u1 : Int32) (h0 : Heap) (n0 : Nat) (Z0 : n0 ≤ h0.size) (E_w4 : Exa Z Z.heap w4 "com/example/afterlog/afterlog/Condition") (P2 : Old Z n0 h0) (F_w4_ordinal : Fld Z Z.heap w4 "java/lang/Enum" "ordinal" "I" (.int 3)) (P4 : ¬ (u1 < (0 : Int32))) :
    MF l Z (⟨"com/example/afterlog/afterlog/Condition", "admits", "(ZI)Z"⟩ : MethodName) (Jvm.Cond.code (⟨"com/example/afterlog/afterlog/Condition", "admits", "(ZI)Z"⟩ : MethodName) prog_9_method_5_code 3 (some .boolean)) ws ({ frames := 1, cells := 0, slots := 0, locals := 12 } : Room) #[(.ref w4), (.int 1), (.int u1)] h0 (Q1_15 Z w4 u1 h0 n0) := by
  refine MetFree.of_bodySF (plainFor_of_name pn_1) hisR ?_
  intro p e s m args below meth c s₁ Bd hml0 hP hK
  obtain ⟨rfl, hZ, hh⟩ := hP
  have hx := Bd.exec
  have hby := Bd.bytes
  have hml : c.maxLocals = 3 := hml0
  have hown : s.vm.findClass "com/example/afterlog/afterlog/Condition" = some m.cls := findClass_of_methodNamed Bd.named
  have hnm := (name_of_methodNamed Bd.named Bd.method).1
  have X0 : Stand p l e ({ frames := 1, cells := 0, slots := 0, locals := 12 } : Room) s m #[(.ref w4), (.int 1), (.int u1)] below meth c s₁ [] 0 0 := Stand.of_body Bd
  have e0 : s₁.heap = h0 := by rw [← hh, Bd.state]; rfl
  have N0 := Fr.nil n0
  have pre0 : ∀ t, SF p e below s₁ (mkF m 0 #[rv w4, iv 1, iv u1] []) t → SF p e below s₁ (entryFrame m #[(.ref w4), (.int 1), (.int u1)] 3) t := fun t k => castTop (ef_1 m w4 (1 : Int32) u1) k
  obtain ⟨cq1, kq1, q1a, q1b, q1c⟩ := isOf hZ e0 (E_w4.ext P2.2)
  obtain ⟨_, _, ⟨T1, L1, k1x, n1⟩, -, X1, ⟨Lc1, hQ1, l1, y1, z1⟩, st1⟩ := X0.virtualBackUp hx (owner := "java/lang/Enum") (x := (⟨"com/example/afterlog/afterlog/Condition", "ordinal", "()I"⟩ : MethodName)) (y := (⟨"java/lang/Enum", "ordinal", "()I"⟩ : MethodName)) hown (mvT hZ (tw hw 8 rfl)) (mvT hZ (tw hw 9 rfl)) (mvT hZ (tw hw 10 rfl)) (by decide) (mvT hZ (tw hw 12 rfl)) (mvT hZ (tw hw 11 rfl)) (backOf (W := 0) (rm2_7 l Z a0 hw [] w4 h0 n0 Z0 F_w4_ordinal P2) hZ (tw hw 14 rfl) (tw hw 13 rfl) (by decide) (by decide)) q1a q1c (g := (mkF m 1 #[rv w4, iv 1, iv u1] [(.ref w4)])) rfl (by rw [hml]; rfl) (Steps.refl _) (argsL := []) (rest := []) (lenOf pd_0 rfl) rfl (by show 2 * 0 + _ ≤ _; exact Nat.le_of_eq rfl) (hb hby d1_1) (fun _ _ => ⟨rfl, e0, (by decide : 0 + 0 ≤ _), (by decide : 0 + 0 ≤ _)⟩)
  dsimp only [Pt.U, Pt.locs, Pt.cells, Pt.slots] at X1 l1 y1 z1 st1 hQ1
  subst l1 y1 z1
  obtain ⟨rfl, N1q, e1⟩ := hQ1
  have N1 := Fr.app N0 N1q
  obtain ⟨fs, hr, hrun, hended, hW, hsame⟩ := X1.leave (v := some (.int 0)) (fun h => by rw [Bd.returns] at h; cases h)
  refine ⟨_, _, pre0 _ ?_, hrun, hended, _, _, rfl, ?_, ⟨_, rfl⟩, hW, hsame.mono (by decide) (by decide)⟩
  · show SF p e below s₁ (mkF m 0 #[rv w4, iv 1, iv u1] []) _
    refine XS.aloadN X0.here hx rfl (hb hby d1_0) rfl rfl ?_
    show SF p e below s₁ (mkF m 1 #[rv w4, iv 1, iv u1] [(.ref w4)]) _
    refine st1.trans ?_
    show SF p e below T1 (mkF m 4 #[rv w4, iv 1, iv u1] [(.int 3)]) _
    refine XS.tswIn X1.here hx rfl (pc0 := 4) (pc' := 74) rfl (hb hby d1_4) rfl (by decide) (o := 70) (by decide) (by decide) (by decide) ?_
    show SF p e below T1 (mkF m 74 #[rv w4, iv 1, iv u1] []) _
    refine XS.iloadN X1.here hx rfl (hb hby d1_74) rfl ?_
    show SF p e below T1 (mkF m 75 #[rv w4, iv 1, iv u1] [(.int u1)]) _
    refine XS.ifYes X1.here hx rfl (pc0 := 75) (pc' := 82) rfl (hb hby d1_75) rfl ((if0 _ _).trans (flt P4).2.1) (by decide) (by decide) ?_
    show SF p e below T1 (mkF m 82 #[rv w4, iv 1, iv u1] []) _
    refine XS.iconst X1.here hx rfl (hb hby d1_82) ?_
    show SF p e below T1 (mkF m 83 #[rv w4, iv 1, iv u1] [(.int 0)]) _
    exact retN X1 hx (t := .boolean) Bd.returns (by simp) (hb hby d1_83) hr
  · show Q1_15 Z w4 u1 h0 n0 _ T1.heap _
    rw [e1]
    exact ⟨rfl, N1, rfl⟩
-- Condition.admits 
def Q1_16 (Z : State) (w3 : Addr) (u1 : Int32) (h0 : Heap) (n0 : Nat) (v : Option Value) (h : Heap) (L : List Loc) : Prop := v = some (.int 0) ∧ Fr n0 L ∧ h = h0
set_option maxRecDepth 65536 in
set_option maxHeartbeats 40000000 in
theorem rm1_16 (l : Launch) (Z : State) (a0 : Array Value) (hw : HW Z a0) (ws : List Jvm.Cond) (w3 : Addr) (u1 : Int32) (h0 : Heap) (n0 : Nat) (Z0 : n0 ≤ h0.size) (E_w3 : Exa Z Z.heap w3 "com/example/afterlog/afterlog/Condition") (P2 : Old Z n0 h0) (F_w3_ordinal : Fld Z Z.heap w3 "java/lang/Enum" "ordinal" "I" (.int 2)) (P4 : ¬ ((0 : Int32) < u1)) :
    MF l Z (⟨"com/example/afterlog/afterlog/Condition", "admits", "(ZI)Z"⟩ : MethodName) (Jvm.Cond.code (⟨"com/example/afterlog/afterlog/Condition", "admits", "(ZI)Z"⟩ : MethodName) prog_9_method_5_code 3 (some .boolean)) ws ({ frames := 1, cells := 0, slots := 0, locals := 12 } : Room) #[(.ref w3), (.int 1), (.int u1)] h0 (Q1_16 Z w3 u1 h0 n0) := by
  refine MetFree.of_bodySF (plainFor_of_name pn_1) hisR ?_
  intro p e s m args below meth c s₁ Bd hml0 hP hK
  obtain ⟨rfl, hZ, hh⟩ := hP
  have hx := Bd.exec
  have hby := Bd.bytes
  have hml : c.maxLocals = 3 := hml0
  have hown : s.vm.findClass "com/example/afterlog/afterlog/Condition" = some m.cls := findClass_of_methodNamed Bd.named
  have hnm := (name_of_methodNamed Bd.named Bd.method).1
  have X0 : Stand p l e ({ frames := 1, cells := 0, slots := 0, locals := 12 } : Room) s m #[(.ref w3), (.int 1), (.int u1)] below meth c s₁ [] 0 0 := Stand.of_body Bd
  have e0 : s₁.heap = h0 := by rw [← hh, Bd.state]; rfl
  have N0 := Fr.nil n0
  have pre0 : ∀ t, SF p e below s₁ (mkF m 0 #[rv w3, iv 1, iv u1] []) t → SF p e below s₁ (entryFrame m #[(.ref w3), (.int 1), (.int u1)] 3) t := fun t k => castTop (ef_1 m w3 (1 : Int32) u1) k
  obtain ⟨cq1, kq1, q1a, q1b, q1c⟩ := isOf hZ e0 (E_w3.ext P2.2)
  obtain ⟨_, _, ⟨T1, L1, k1x, n1⟩, -, X1, ⟨Lc1, hQ1, l1, y1, z1⟩, st1⟩ := X0.virtualBackUp hx (owner := "java/lang/Enum") (x := (⟨"com/example/afterlog/afterlog/Condition", "ordinal", "()I"⟩ : MethodName)) (y := (⟨"java/lang/Enum", "ordinal", "()I"⟩ : MethodName)) hown (mvT hZ (tw hw 8 rfl)) (mvT hZ (tw hw 9 rfl)) (mvT hZ (tw hw 10 rfl)) (by decide) (mvT hZ (tw hw 12 rfl)) (mvT hZ (tw hw 11 rfl)) (backOf (W := 0) (rm2_5 l Z a0 hw [] w3 h0 n0 Z0 F_w3_ordinal P2) hZ (tw hw 14 rfl) (tw hw 13 rfl) (by decide) (by decide)) q1a q1c (g := (mkF m 1 #[rv w3, iv 1, iv u1] [(.ref w3)])) rfl (by rw [hml]; rfl) (Steps.refl _) (argsL := []) (rest := []) (lenOf pd_0 rfl) rfl (by show 2 * 0 + _ ≤ _; exact Nat.le_of_eq rfl) (hb hby d1_1) (fun _ _ => ⟨rfl, e0, (by decide : 0 + 0 ≤ _), (by decide : 0 + 0 ≤ _)⟩)
  dsimp only [Pt.U, Pt.locs, Pt.cells, Pt.slots] at X1 l1 y1 z1 st1 hQ1
  subst l1 y1 z1
  obtain ⟨rfl, N1q, e1⟩ := hQ1
  have N1 := Fr.app N0 N1q
  obtain ⟨fs, hr, hrun, hended, hW, hsame⟩ := X1.leave (v := some (.int 0)) (fun h => by rw [Bd.returns] at h; cases h)
  refine ⟨_, _, pre0 _ ?_, hrun, hended, _, _, rfl, ?_, ⟨_, rfl⟩, hW, hsame.mono (by decide) (by decide)⟩
  · show SF p e below s₁ (mkF m 0 #[rv w3, iv 1, iv u1] []) _
    refine XS.aloadN X0.here hx rfl (hb hby d1_0) rfl rfl ?_
    show SF p e below s₁ (mkF m 1 #[rv w3, iv 1, iv u1] [(.ref w3)]) _
    refine st1.trans ?_
    show SF p e below T1 (mkF m 4 #[rv w3, iv 1, iv u1] [(.int 2)]) _
    refine XS.tswIn X1.here hx rfl (pc0 := 4) (pc' := 62) rfl (hb hby d1_4) rfl (by decide) (o := 58) (by decide) (by decide) (by decide) ?_
    show SF p e below T1 (mkF m 62 #[rv w3, iv 1, iv u1] []) _
    refine XS.iloadN X1.here hx rfl (hb hby d1_62) rfl ?_
    show SF p e below T1 (mkF m 63 #[rv w3, iv 1, iv u1] [(.int u1)]) _
    refine XS.ifYes X1.here hx rfl (pc0 := 63) (pc' := 70) rfl (hb hby d1_63) rfl ((if0 _ _).trans (flt P4).2.2.2) (by decide) (by decide) ?_
    show SF p e below T1 (mkF m 70 #[rv w3, iv 1, iv u1] []) _
    refine XS.iconst X1.here hx rfl (hb hby d1_70) ?_
    show SF p e below T1 (mkF m 71 #[rv w3, iv 1, iv u1] [(.int 0)]) _
    refine XS.goto X1.here hx rfl (pc0 := 71) (pc' := 83) rfl (hb hby d1_71) (by decide) (by decide) ?_
    show SF p e below T1 (mkF m 83 #[rv w3, iv 1, iv u1] [(.int 0)]) _
    exact retN X1 hx (t := .boolean) Bd.returns (by simp) (hb hby d1_83) hr
  · show Q1_16 Z w3 u1 h0 n0 _ T1.heap _
    rw [e1]
    exact ⟨rfl, N1, rfl⟩
theorem pn_2 : plainName "com/example/afterlog/afterlog/ConditionAdmitsPinLaw" = true := by first | (simp [plainName, overriddenIn]; done) | decide +kernel
theorem ef_2 (m : MethodId) (x0 : Int32) (x1 : Int32) : entryFrame m #[(.int x0), (.int x1)] maxLocals = mkF m 0 #[.val (.int x0), .val (.int x1), .unset, .unset, .unset, .unset, .unset, .unset, .unset, .unset, .unset] [] := by first | (simp [entryFrame, mkF, argsToLocals, Value.category, maxLocals]; done) | rfl
set_option maxRecDepth 65536 in
set_option maxHeartbeats 400000000 in
theorem rm0 (l : Launch) (Z : State) (a0 : Array Value) (hw : HW Z a0) (ws : List Jvm.Cond) (p0s : Int32) (p1s : Int32) (w1 : Addr) (w2 : Addr) (w3 : Addr) (w4 : Addr) (h0 : Heap) (n0 : Nat) (Z0 : n0 ≤ h0.size) (O0 : Old Z n0 h0) (S0 : Sta Z Z.heap "com/example/afterlog/afterlog/Condition" "NX" "Lcom/example/afterlog/afterlog/Condition;" (.ref w1)) (E_w1 : Exa Z Z.heap w1 "com/example/afterlog/afterlog/Condition") (S2 : Sta Z Z.heap "com/example/afterlog/afterlog/Condition" "XX" "Lcom/example/afterlog/afterlog/Condition;" (.ref w2)) (E_w2 : Exa Z Z.heap w2 "com/example/afterlog/afterlog/Condition") (S4 : Sta Z Z.heap "com/example/afterlog/afterlog/Condition" "GT" "Lcom/example/afterlog/afterlog/Condition;" (.ref w3)) (E_w3 : Exa Z Z.heap w3 "com/example/afterlog/afterlog/Condition") (S6 : Sta Z Z.heap "com/example/afterlog/afterlog/Condition" "LT" "Lcom/example/afterlog/afterlog/Condition;" (.ref w4)) (E_w4 : Exa Z Z.heap w4 "com/example/afterlog/afterlog/Condition") (F_w1_ordinal : Fld Z Z.heap w1 "java/lang/Enum" "ordinal" "I" (.int 0)) (F_w2_ordinal : Fld Z Z.heap w2 "java/lang/Enum" "ordinal" "I" (.int 1)) (F_w3_ordinal : Fld Z Z.heap w3 "java/lang/Enum" "ordinal" "I" (.int 2)) (F_w4_ordinal : Fld Z Z.heap w4 "java/lang/Enum" "ordinal" "I" (.int 3)) :
    MF l Z x (Jvm.Cond.code x code maxLocals ret) ws room_1 #[(.int p0s), (.int p1s)] h0 (fun v _ L => v = some (.int (1 : Int32)) ∧ Fr n0 L) := by
  refine MetFree.of_bodySF (plainFor_of_name pn_2) hisR ?_
  intro p e s m args below meth c s₁ Bd hml0 hP hK
  obtain ⟨rfl, hZ, hh⟩ := hP
  have hx := Bd.exec
  have hby := Bd.bytes
  have hml : c.maxLocals = 11 := hml0
  have hown : s.vm.findClass "com/example/afterlog/afterlog/ConditionAdmitsPinLaw" = some m.cls := findClass_of_methodNamed Bd.named
  have hnm := (name_of_methodNamed Bd.named Bd.method).1
  have X0 : Stand p l e room_1 s m #[(.int p0s), (.int p1s)] below meth c s₁ [] 0 0 := Stand.of_body Bd
  have e0 : s₁.heap = h0 := by rw [← hh, Bd.state]; rfl
  have N0 := Fr.nil n0
  have pre0 : ∀ t, SF p e below s₁ (mkF m 0 #[iv p0s, iv p1s, .unset, .unset, .unset, .unset, .unset, .unset, .unset, .unset, .unset] []) t → SF p e below s₁ (entryFrame m #[(.int p0s), (.int p1s)] maxLocals) t := fun t k => castTop (ef_2 m p0s p1s) k
  have hre := Bd.returns
  have hlk : meth.locks = false := by first | assumption | exact BodyLoose.notSynchronized Bd | exact Body.notSynchronized Bd
  show Fin p e below s n0 _
  have pre1 : ∀ t, SF p e below s₁ (mkF m 3 #[iv p0s, iv p1s, .unset, .unset, .unset, .unset, .unset, .unset, .unset, .unset, .unset] [(.int (p0s &&& (1 : Int32)))]) t → SF p e below s₁ (mkF m 0 #[iv p0s, iv p1s, .unset, .unset, .unset, .unset, .unset, .unset, .unset, .unset, .unset] []) t := fun t k => by
    show SF p e below s₁ (mkF m 0 #[iv p0s, iv p1s, .unset, .unset, .unset, .unset, .unset, .unset, .unset, .unset, .unset] []) _
    refine XS.iloadN X0.here hx rfl (hb hby at_0) rfl ?_
    show SF p e below s₁ (mkF m 1 #[iv p0s, iv p1s, .unset, .unset, .unset, .unset, .unset, .unset, .unset, .unset, .unset] [(.int p0s)]) _
    refine XS.iconst X0.here hx rfl (hb hby at_1) ?_
    show SF p e below s₁ (mkF m 2 #[iv p0s, iv p1s, .unset, .unset, .unset, .unset, .unset, .unset, .unset, .unset, .unset] [(.int 1), (.int p0s)]) _
    refine XS.iand X0.here hx rfl (hb hby at_2) rfl ?_
    exact k
  by_cases hc1 : (p0s &&& (1 : Int32)) = (0 : Int32)
  · obtain ⟨T1, X1, e1, st1⟩ := getS2 X0 hx hZ hown (host := "") (Or.inl (tw hw 0 rfl)) Via.refl e0 (S0.ext O0.2) (g := (mkF m 12 #[iv p0s, iv p1s, iv 0, .unset, .unset, .unset, .unset, .unset, .unset, .unset, .unset] [])) rfl (hb hby at_12)
    obtain ⟨cq2, kq2, q2a, q2b, q2c⟩ := isOf hZ e1 (E_w1.ext O0.2)
    obtain ⟨_, _, ⟨T2, L2, k2x, n2⟩, -, X2, ⟨Lc2, hQ2, l2, y2, z2⟩, st2⟩ := X1.virtualBack hx (y := (⟨"com/example/afterlog/afterlog/Condition", "admits", "(ZI)Z"⟩ : MethodName)) (z := (⟨"com/example/afterlog/afterlog/Condition", "admits", "(ZI)Z"⟩ : MethodName)) hown (mvT hZ (tw hw 3 rfl)) (mvT hZ (tw hw 4 rfl)) (notFace_of_selects (args := #[]) (mvT hZ (tw hw 6 rfl))) (mvT hZ (tw hw 6 rfl)) (mvT hZ (tw hw 5 rfl)) (by decide) (backOf (W := 0) (rm1_2 l Z a0 hw [] w1 p1s h0 n0 Z0 E_w1 O0 F_w1_ordinal) hZ (tw hw 7 rfl) (tw hw 1 rfl) (by decide) (by decide)) q2a q2c (g := (mkF m 17 #[iv p0s, iv p1s, iv 0, .unset, .unset, .unset, .unset, .unset, .unset, .unset, .unset] [(.int p1s), (.int 0), (.ref w1)])) rfl (by rw [hml]; rfl) (Steps.refl _) (argsL := [(.int 0), (.int p1s)]) (rest := []) (lenOf pd_1 rfl) rfl (by show 2 * 0 + _ ≤ _; exact Nat.le_of_eq rfl) (hb hby at_17) (fun _ _ => ⟨rfl, e1, (by decide : 0 + 0 ≤ _), (by decide : 0 + 0 ≤ _)⟩)
    dsimp only [Pt.U, Pt.locs, Pt.cells, Pt.slots] at X2 l2 y2 z2 st2 hQ2
    subst l2 y2 z2
    obtain ⟨rfl, N2q, e2⟩ := hQ2
    have N2 := Fr.app N0 N2q
    obtain ⟨T3, X3, e3, st3⟩ := getS2 X2 hx hZ hown (host := "") (Or.inl (tw hw 17 rfl)) Via.refl e2 (S2.ext O0.2) (g := (mkF m 21 #[iv p0s, iv p1s, iv 0, iv 1, .unset, .unset, .unset, .unset, .unset, .unset, .unset] [])) rfl (hb hby at_21)
    obtain ⟨cq4, kq4, q4a, q4b, q4c⟩ := isOf hZ e3 (E_w2.ext O0.2)
    obtain ⟨_, _, ⟨T4, L4, k4x, n4⟩, -, X4, ⟨Lc4, hQ4, l4, y4, z4⟩, st4⟩ := X3.virtualBack hx (y := (⟨"com/example/afterlog/afterlog/Condition", "admits", "(ZI)Z"⟩ : MethodName)) (z := (⟨"com/example/afterlog/afterlog/Condition", "admits", "(ZI)Z"⟩ : MethodName)) hown (mvT hZ (tw hw 3 rfl)) (mvT hZ (tw hw 4 rfl)) (notFace_of_selects (args := #[]) (mvT hZ (tw hw 6 rfl))) (mvT hZ (tw hw 6 rfl)) (mvT hZ (tw hw 5 rfl)) (by decide) (backOf (W := 0) (rm1_4 l Z a0 hw [] w2 p1s h0 n0 Z0 E_w2 O0 F_w2_ordinal) hZ (tw hw 7 rfl) (tw hw 1 rfl) (by decide) (by decide)) q4a q4c (g := (mkF m 26 #[iv p0s, iv p1s, iv 0, iv 1, .unset, .unset, .unset, .unset, .unset, .unset, .unset] [(.int p1s), (.int 0), (.ref w2)])) rfl (by rw [hml]; rfl) (Steps.refl _) (argsL := [(.int 0), (.int p1s)]) (rest := []) (lenOf pd_1 rfl) rfl (by show 2 * 0 + _ ≤ _; exact Nat.le_of_eq rfl) (hb hby at_26) (fun _ _ => ⟨rfl, e3, (by decide : 0 + 0 ≤ _), (by decide : 0 + 0 ≤ _)⟩)
    dsimp only [Pt.U, Pt.locs, Pt.cells, Pt.slots] at X4 l4 y4 z4 st4 hQ4
    subst l4 y4 z4
    obtain ⟨rfl, N4q, e4⟩ := hQ4
    have N4 := Fr.app N2 N4q
    obtain ⟨T5, X5, e5, st5⟩ := getS2 X4 hx hZ hown (host := "") (Or.inl (tw hw 19 rfl)) Via.refl e4 (S4.ext O0.2) (g := (mkF m 31 #[iv p0s, iv p1s, iv 0, iv 1, iv 0, .unset, .unset, .unset, .unset, .unset, .unset] [])) rfl (hb hby at_31)
    have pre2 : ∀ t, SF p e below T5 (mkF m 36 #[iv p0s, iv p1s, iv 0, iv 1, iv 0, .unset, .unset, .unset, .unset, .unset, .unset] [(.int p1s), (.int 0), (.ref w3)]) t → SF p e below s₁ (mkF m 3 #[iv p0s, iv p1s, .unset, .unset, .unset, .unset, .unset, .unset, .unset, .unset, .unset] [(.int (p0s &&& (1 : Int32)))]) t := fun t k => by
      show SF p e below s₁ (mkF m 3 #[iv p0s, iv p1s, .unset, .unset, .unset, .unset, .unset, .unset, .unset, .unset, .unset] [(.int (p0s &&& (1 : Int32)))]) _
      refine XS.ifYes X0.here hx rfl (pc0 := 3) (pc' := 10) rfl (hb hby at_3) rfl ((if0 _ _).trans (teq hc1).1) (by decide) (by decide) ?_
      show SF p e below s₁ (mkF m 10 #[iv p0s, iv p1s, .unset, .unset, .unset, .unset, .unset, .unset, .unset, .unset, .unset] []) _
      refine XS.iconst X0.here hx rfl (hb hby at_10) ?_
      show SF p e below s₁ (mkF m 11 #[iv p0s, iv p1s, .unset, .unset, .unset, .unset, .unset, .unset, .unset, .unset, .unset] [(.int 0)]) _
      refine XS.istoreN X0.here hx rfl (hb hby at_11) rfl (l' := #[iv p0s, iv p1s, iv 0, .unset, .unset, .unset, .unset, .unset, .unset, .unset, .unset]) rfl ?_
      show SF p e below s₁ (mkF m 12 #[iv p0s, iv p1s, iv 0, .unset, .unset, .unset, .unset, .unset, .unset, .unset, .unset] []) _
      refine st1 _ ?_
      show SF p e below T1 (mkF m 15 #[iv p0s, iv p1s, iv 0, .unset, .unset, .unset, .unset, .unset, .unset, .unset, .unset] [(.ref w1)]) _
      refine XS.iloadN X1.here hx rfl (hb hby at_15) rfl ?_
      show SF p e below T1 (mkF m 16 #[iv p0s, iv p1s, iv 0, .unset, .unset, .unset, .unset, .unset, .unset, .unset, .unset] [(.int 0), (.ref w1)]) _
      refine XS.iloadN X1.here hx rfl (hb hby at_16) rfl ?_
      show SF p e below T1 (mkF m 17 #[iv p0s, iv p1s, iv 0, .unset, .unset, .unset, .unset, .unset, .unset, .unset, .unset] [(.int p1s), (.int 0), (.ref w1)]) _
      refine st2.trans ?_
      show SF p e below T2 (mkF m 20 #[iv p0s, iv p1s, iv 0, .unset, .unset, .unset, .unset, .unset, .unset, .unset, .unset] [(.int 1)]) _
      refine XS.istoreN X2.here hx rfl (hb hby at_20) rfl (l' := #[iv p0s, iv p1s, iv 0, iv 1, .unset, .unset, .unset, .unset, .unset, .unset, .unset]) rfl ?_
      show SF p e below T2 (mkF m 21 #[iv p0s, iv p1s, iv 0, iv 1, .unset, .unset, .unset, .unset, .unset, .unset, .unset] []) _
      refine st3 _ ?_
      show SF p e below T3 (mkF m 24 #[iv p0s, iv p1s, iv 0, iv 1, .unset, .unset, .unset, .unset, .unset, .unset, .unset] [(.ref w2)]) _
      refine XS.iloadN X3.here hx rfl (hb hby at_24) rfl ?_
      show SF p e below T3 (mkF m 25 #[iv p0s, iv p1s, iv 0, iv 1, .unset, .unset, .unset, .unset, .unset, .unset, .unset] [(.int 0), (.ref w2)]) _
      refine XS.iloadN X3.here hx rfl (hb hby at_25) rfl ?_
      show SF p e below T3 (mkF m 26 #[iv p0s, iv p1s, iv 0, iv 1, .unset, .unset, .unset, .unset, .unset, .unset, .unset] [(.int p1s), (.int 0), (.ref w2)]) _
      refine st4.trans ?_
      show SF p e below T4 (mkF m 29 #[iv p0s, iv p1s, iv 0, iv 1, .unset, .unset, .unset, .unset, .unset, .unset, .unset] [(.int 0)]) _
      refine XS.istore X4.here hx rfl (hb hby at_29) rfl (l' := #[iv p0s, iv p1s, iv 0, iv 1, iv 0, .unset, .unset, .unset, .unset, .unset, .unset]) rfl ?_
      show SF p e below T4 (mkF m 31 #[iv p0s, iv p1s, iv 0, iv 1, iv 0, .unset, .unset, .unset, .unset, .unset, .unset] []) _
      refine st5 _ ?_
      show SF p e below T5 (mkF m 34 #[iv p0s, iv p1s, iv 0, iv 1, iv 0, .unset, .unset, .unset, .unset, .unset, .unset] [(.ref w3)]) _
      refine XS.iloadN X5.here hx rfl (hb hby at_34) rfl ?_
      show SF p e below T5 (mkF m 35 #[iv p0s, iv p1s, iv 0, iv 1, iv 0, .unset, .unset, .unset, .unset, .unset, .unset] [(.int 0), (.ref w3)]) _
      refine XS.iloadN X5.here hx rfl (hb hby at_35) rfl ?_
      exact k
    by_cases hc2 : (0 : Int32) < p1s
    · obtain ⟨cq6, kq6, q6a, q6b, q6c⟩ := isOf hZ e5 (E_w3.ext O0.2)
      obtain ⟨_, _, ⟨T6, L6, k6x, n6⟩, -, X6, ⟨Lc6, hQ6, l6, y6, z6⟩, st6⟩ := X5.virtualBack hx (y := (⟨"com/example/afterlog/afterlog/Condition", "admits", "(ZI)Z"⟩ : MethodName)) (z := (⟨"com/example/afterlog/afterlog/Condition", "admits", "(ZI)Z"⟩ : MethodName)) hown (mvT hZ (tw hw 3 rfl)) (mvT hZ (tw hw 4 rfl)) (notFace_of_selects (args := #[]) (mvT hZ (tw hw 6 rfl))) (mvT hZ (tw hw 6 rfl)) (mvT hZ (tw hw 5 rfl)) (by decide) (backOf (W := 0) (rm1_6 l Z a0 hw [] w3 p1s h0 n0 Z0 E_w3 O0 F_w3_ordinal hc2) hZ (tw hw 7 rfl) (tw hw 1 rfl) (by decide) (by decide)) q6a q6c (g := (mkF m 36 #[iv p0s, iv p1s, iv 0, iv 1, iv 0, .unset, .unset, .unset, .unset, .unset, .unset] [(.int p1s), (.int 0), (.ref w3)])) rfl (by rw [hml]; rfl) (Steps.refl _) (argsL := [(.int 0), (.int p1s)]) (rest := []) (lenOf pd_1 rfl) rfl (by show 2 * 0 + _ ≤ _; exact Nat.le_of_eq rfl) (hb hby at_36) (fun _ _ => ⟨rfl, e5, (by decide : 0 + 0 ≤ _), (by decide : 0 + 0 ≤ _)⟩)
      dsimp only [Pt.U, Pt.locs, Pt.cells, Pt.slots] at X6 l6 y6 z6 st6 hQ6
      subst l6 y6 z6
      obtain ⟨rfl, N6q, e6⟩ := hQ6
      have N6 := Fr.app N4 N6q
      obtain ⟨T7, X7, e7, st7⟩ := getS2 X6 hx hZ hown (host := "") (Or.inl (tw hw 21 rfl)) Via.refl e6 (S6.ext O0.2) (g := (mkF m 41 #[iv p0s, iv p1s, iv 0, iv 1, iv 0, iv 1, .unset, .unset, .unset, .unset, .unset] [])) rfl (hb hby at_41)
      have pre3 : ∀ t, SF p e below T7 (mkF m 46 #[iv p0s, iv p1s, iv 0, iv 1, iv 0, iv 1, .unset, .unset, .unset, .unset, .unset] [(.int p1s), (.int 0), (.ref w4)]) t → SF p e below T5 (mkF m 36 #[iv p0s, iv p1s, iv 0, iv 1, iv 0, .unset, .unset, .unset, .unset, .unset, .unset] [(.int p1s), (.int 0), (.ref w3)]) t := fun t k => by
        show SF p e below T5 (mkF m 36 #[iv p0s, iv p1s, iv 0, iv 1, iv 0, .unset, .unset, .unset, .unset, .unset, .unset] [(.int p1s), (.int 0), (.ref w3)]) _
        refine st6.trans ?_
        show SF p e below T6 (mkF m 39 #[iv p0s, iv p1s, iv 0, iv 1, iv 0, .unset, .unset, .unset, .unset, .unset, .unset] [(.int 1)]) _
        refine XS.istore X6.here hx rfl (hb hby at_39) rfl (l' := #[iv p0s, iv p1s, iv 0, iv 1, iv 0, iv 1, .unset, .unset, .unset, .unset, .unset]) rfl ?_
        show SF p e below T6 (mkF m 41 #[iv p0s, iv p1s, iv 0, iv 1, iv 0, iv 1, .unset, .unset, .unset, .unset, .unset] []) _
        refine st7 _ ?_
        show SF p e below T7 (mkF m 44 #[iv p0s, iv p1s, iv 0, iv 1, iv 0, iv 1, .unset, .unset, .unset, .unset, .unset] [(.ref w4)]) _
        refine XS.iloadN X7.here hx rfl (hb hby at_44) rfl ?_
        show SF p e below T7 (mkF m 45 #[iv p0s, iv p1s, iv 0, iv 1, iv 0, iv 1, .unset, .unset, .unset, .unset, .unset] [(.int 0), (.ref w4)]) _
        refine XS.iloadN X7.here hx rfl (hb hby at_45) rfl ?_
        exact k
      by_cases hc3 : p1s < (0 : Int32)
      · obtain ⟨cq8, kq8, q8a, q8b, q8c⟩ := isOf hZ e7 (E_w4.ext O0.2)
        obtain ⟨_, _, ⟨T8, L8, k8x, n8⟩, -, X8, ⟨Lc8, hQ8, l8, y8, z8⟩, st8⟩ := X7.virtualBack hx (y := (⟨"com/example/afterlog/afterlog/Condition", "admits", "(ZI)Z"⟩ : MethodName)) (z := (⟨"com/example/afterlog/afterlog/Condition", "admits", "(ZI)Z"⟩ : MethodName)) hown (mvT hZ (tw hw 3 rfl)) (mvT hZ (tw hw 4 rfl)) (notFace_of_selects (args := #[]) (mvT hZ (tw hw 6 rfl))) (mvT hZ (tw hw 6 rfl)) (mvT hZ (tw hw 5 rfl)) (by decide) (backOf (W := 0) (rm1_8 l Z a0 hw [] w4 p1s h0 n0 Z0 E_w4 O0 F_w4_ordinal hc3) hZ (tw hw 7 rfl) (tw hw 1 rfl) (by decide) (by decide)) q8a q8c (g := (mkF m 46 #[iv p0s, iv p1s, iv 0, iv 1, iv 0, iv 1, .unset, .unset, .unset, .unset, .unset] [(.int p1s), (.int 0), (.ref w4)])) rfl (by rw [hml]; rfl) (Steps.refl _) (argsL := [(.int 0), (.int p1s)]) (rest := []) (lenOf pd_1 rfl) rfl (by show 2 * 0 + _ ≤ _; exact Nat.le_of_eq rfl) (hb hby at_46) (fun _ _ => ⟨rfl, e7, (by decide : 0 + 0 ≤ _), (by decide : 0 + 0 ≤ _)⟩)
        dsimp only [Pt.U, Pt.locs, Pt.cells, Pt.slots] at X8 l8 y8 z8 st8 hQ8
        subst l8 y8 z8
        obtain ⟨rfl, N8q, e8⟩ := hQ8
        have N8 := Fr.app N6 N8q
        obtain ⟨fs, hr, hrun, hended, hW, hsame⟩ := X8.leave (v := some (.int (1 : Int32))) (fun h => by rw [hre] at h; cases h)
        refine ⟨_, _, pre0 _ (pre1 _ (pre2 _ (pre3 _ (?_)))), hrun, hended, _, _, rfl, ?_, ⟨_, rfl⟩, hW, hsame.mono (by decide) (by decide)⟩
        · show SF p e below T7 (mkF m 46 #[iv p0s, iv p1s, iv 0, iv 1, iv 0, iv 1, .unset, .unset, .unset, .unset, .unset] [(.int p1s), (.int 0), (.ref w4)]) _
          refine st8.trans ?_
          show SF p e below T8 (mkF m 49 #[iv p0s, iv p1s, iv 0, iv 1, iv 0, iv 1, .unset, .unset, .unset, .unset, .unset] [(.int 1)]) _
          refine XS.istore X8.here hx rfl (hb hby at_49) rfl (l' := #[iv p0s, iv p1s, iv 0, iv 1, iv 0, iv 1, iv 1, .unset, .unset, .unset, .unset]) rfl ?_
          show SF p e below T8 (mkF m 51 #[iv p0s, iv p1s, iv 0, iv 1, iv 0, iv 1, iv 1, .unset, .unset, .unset, .unset] []) _
          refine XS.iloadN X8.here hx rfl (hb hby at_51) rfl ?_
          show SF p e below T8 (mkF m 52 #[iv p0s, iv p1s, iv 0, iv 1, iv 0, iv 1, iv 1, .unset, .unset, .unset, .unset] [(.int 1)]) _
          refine XS.iloadN X8.here hx rfl (hb hby at_52) rfl ?_
          show SF p e below T8 (mkF m 53 #[iv p0s, iv p1s, iv 0, iv 1, iv 0, iv 1, iv 1, .unset, .unset, .unset, .unset] [(.int 0), (.int 1)]) _
          refine XS.ifNo X8.here hx rfl (hb hby at_53) rfl ((if0 _ _).trans (teq (by decide : (0 : Int32) = (0 : Int32))).2) ?_
          show SF p e below T8 (mkF m 56 #[iv p0s, iv p1s, iv 0, iv 1, iv 0, iv 1, iv 1, .unset, .unset, .unset, .unset] [(.int 1)]) _
          refine XS.iconst X8.here hx rfl (hb hby at_56) ?_
          show SF p e below T8 (mkF m 57 #[iv p0s, iv p1s, iv 0, iv 1, iv 0, iv 1, iv 1, .unset, .unset, .unset, .unset] [(.int 1), (.int 1)]) _
          refine XS.goto X8.here hx rfl (pc0 := 57) (pc' := 61) rfl (hb hby at_57) (by decide) (by decide) ?_
          show SF p e below T8 (mkF m 61 #[iv p0s, iv p1s, iv 0, iv 1, iv 0, iv 1, iv 1, .unset, .unset, .unset, .unset] [(.int 1), (.int 1)]) _
          refine XS.icmpNo X8.here hx rfl (hb hby at_61) rfl (teq (by decide : (1 : Int32) = (1 : Int32))).2 ?_
          show SF p e below T8 (mkF m 64 #[iv p0s, iv p1s, iv 0, iv 1, iv 0, iv 1, iv 1, .unset, .unset, .unset, .unset] []) _
          refine XS.iconst X8.here hx rfl (hb hby at_64) ?_
          show SF p e below T8 (mkF m 65 #[iv p0s, iv p1s, iv 0, iv 1, iv 0, iv 1, iv 1, .unset, .unset, .unset, .unset] [(.int 1)]) _
          refine XS.goto X8.here hx rfl (pc0 := 65) (pc' := 69) rfl (hb hby at_65) (by decide) (by decide) ?_
          show SF p e below T8 (mkF m 69 #[iv p0s, iv p1s, iv 0, iv 1, iv 0, iv 1, iv 1, .unset, .unset, .unset, .unset] [(.int 1)]) _
          refine XS.istore X8.here hx rfl (hb hby at_69) rfl (l' := #[iv p0s, iv p1s, iv 0, iv 1, iv 0, iv 1, iv 1, iv 1, .unset, .unset, .unset]) rfl ?_
          show SF p e below T8 (mkF m 71 #[iv p0s, iv p1s, iv 0, iv 1, iv 0, iv 1, iv 1, iv 1, .unset, .unset, .unset] []) _
          refine XS.iload X8.here hx rfl (hb hby at_71) rfl ?_
          show SF p e below T8 (mkF m 73 #[iv p0s, iv p1s, iv 0, iv 1, iv 0, iv 1, iv 1, iv 1, .unset, .unset, .unset] [(.int 0)]) _
          refine XS.iloadN X8.here hx rfl (hb hby at_73) rfl ?_
          show SF p e below T8 (mkF m 74 #[iv p0s, iv p1s, iv 0, iv 1, iv 0, iv 1, iv 1, iv 1, .unset, .unset, .unset] [(.int 0), (.int 0)]) _
          refine XS.icmpNo X8.here hx rfl (hb hby at_74) rfl (teq (by decide : (0 : Int32) = (0 : Int32))).2 ?_
          show SF p e below T8 (mkF m 77 #[iv p0s, iv p1s, iv 0, iv 1, iv 0, iv 1, iv 1, iv 1, .unset, .unset, .unset] []) _
          refine XS.iconst X8.here hx rfl (hb hby at_77) ?_
          show SF p e below T8 (mkF m 78 #[iv p0s, iv p1s, iv 0, iv 1, iv 0, iv 1, iv 1, iv 1, .unset, .unset, .unset] [(.int 1)]) _
          refine XS.goto X8.here hx rfl (pc0 := 78) (pc' := 82) rfl (hb hby at_78) (by decide) (by decide) ?_
          show SF p e below T8 (mkF m 82 #[iv p0s, iv p1s, iv 0, iv 1, iv 0, iv 1, iv 1, iv 1, .unset, .unset, .unset] [(.int 1)]) _
          refine XS.istore X8.here hx rfl (hb hby at_82) rfl (l' := #[iv p0s, iv p1s, iv 0, iv 1, iv 0, iv 1, iv 1, iv 1, iv 1, .unset, .unset]) rfl ?_
          show SF p e below T8 (mkF m 84 #[iv p0s, iv p1s, iv 0, iv 1, iv 0, iv 1, iv 1, iv 1, iv 1, .unset, .unset] []) _
          refine XS.iload X8.here hx rfl (hb hby at_84) rfl ?_
          show SF p e below T8 (mkF m 86 #[iv p0s, iv p1s, iv 0, iv 1, iv 0, iv 1, iv 1, iv 1, iv 1, .unset, .unset] [(.int 1)]) _
          refine XS.iloadN X8.here hx rfl (hb hby at_86) rfl ?_
          show SF p e below T8 (mkF m 87 #[iv p0s, iv p1s, iv 0, iv 1, iv 0, iv 1, iv 1, iv 1, iv 1, .unset, .unset] [(.int p1s), (.int 1)]) _
          refine XS.ifNo X8.here hx rfl (hb hby at_87) rfl ((if0 _ _).trans (tlt hc2).2.2.2) ?_
          show SF p e below T8 (mkF m 90 #[iv p0s, iv p1s, iv 0, iv 1, iv 0, iv 1, iv 1, iv 1, iv 1, .unset, .unset] [(.int 1)]) _
          refine XS.iconst X8.here hx rfl (hb hby at_90) ?_
          show SF p e below T8 (mkF m 91 #[iv p0s, iv p1s, iv 0, iv 1, iv 0, iv 1, iv 1, iv 1, iv 1, .unset, .unset] [(.int 1), (.int 1)]) _
          refine XS.goto X8.here hx rfl (pc0 := 91) (pc' := 95) rfl (hb hby at_91) (by decide) (by decide) ?_
          show SF p e below T8 (mkF m 95 #[iv p0s, iv p1s, iv 0, iv 1, iv 0, iv 1, iv 1, iv 1, iv 1, .unset, .unset] [(.int 1), (.int 1)]) _
          refine XS.icmpNo X8.here hx rfl (hb hby at_95) rfl (teq (by decide : (1 : Int32) = (1 : Int32))).2 ?_
          show SF p e below T8 (mkF m 98 #[iv p0s, iv p1s, iv 0, iv 1, iv 0, iv 1, iv 1, iv 1, iv 1, .unset, .unset] []) _
          refine XS.iconst X8.here hx rfl (hb hby at_98) ?_
          show SF p e below T8 (mkF m 99 #[iv p0s, iv p1s, iv 0, iv 1, iv 0, iv 1, iv 1, iv 1, iv 1, .unset, .unset] [(.int 1)]) _
          refine XS.goto X8.here hx rfl (pc0 := 99) (pc' := 103) rfl (hb hby at_99) (by decide) (by decide) ?_
          show SF p e below T8 (mkF m 103 #[iv p0s, iv p1s, iv 0, iv 1, iv 0, iv 1, iv 1, iv 1, iv 1, .unset, .unset] [(.int 1)]) _
          refine XS.istore X8.here hx rfl (hb hby at_103) rfl (l' := #[iv p0s, iv p1s, iv 0, iv 1, iv 0, iv 1, iv 1, iv 1, iv 1, iv 1, .unset]) rfl ?_
          show SF p e below T8 (mkF m 105 #[iv p0s, iv p1s, iv 0, iv 1, iv 0, iv 1, iv 1, iv 1, iv 1, iv 1, .unset] []) _
          refine XS.iload X8.here hx rfl (hb hby at_105) rfl ?_
          show SF p e below T8 (mkF m 107 #[iv p0s, iv p1s, iv 0, iv 1, iv 0, iv 1, iv 1, iv 1, iv 1, iv 1, .unset] [(.int 1)]) _
          refine XS.iloadN X8.here hx rfl (hb hby at_107) rfl ?_
          show SF p e below T8 (mkF m 108 #[iv p0s, iv p1s, iv 0, iv 1, iv 0, iv 1, iv 1, iv 1, iv 1, iv 1, .unset] [(.int p1s), (.int 1)]) _
          refine XS.ifNo X8.here hx rfl (hb hby at_108) rfl ((if0 _ _).trans (tlt hc3).2.1) ?_
          show SF p e below T8 (mkF m 111 #[iv p0s, iv p1s, iv 0, iv 1, iv 0, iv 1, iv 1, iv 1, iv 1, iv 1, .unset] [(.int 1)]) _
          refine XS.iconst X8.here hx rfl (hb hby at_111) ?_
          show SF p e below T8 (mkF m 112 #[iv p0s, iv p1s, iv 0, iv 1, iv 0, iv 1, iv 1, iv 1, iv 1, iv 1, .unset] [(.int 1), (.int 1)]) _
          refine XS.goto X8.here hx rfl (pc0 := 112) (pc' := 116) rfl (hb hby at_112) (by decide) (by decide) ?_
          show SF p e below T8 (mkF m 116 #[iv p0s, iv p1s, iv 0, iv 1, iv 0, iv 1, iv 1, iv 1, iv 1, iv 1, .unset] [(.int 1), (.int 1)]) _
          refine XS.icmpNo X8.here hx rfl (hb hby at_116) rfl (teq (by decide : (1 : Int32) = (1 : Int32))).2 ?_
          show SF p e below T8 (mkF m 119 #[iv p0s, iv p1s, iv 0, iv 1, iv 0, iv 1, iv 1, iv 1, iv 1, iv 1, .unset] []) _
          refine XS.iconst X8.here hx rfl (hb hby at_119) ?_
          show SF p e below T8 (mkF m 120 #[iv p0s, iv p1s, iv 0, iv 1, iv 0, iv 1, iv 1, iv 1, iv 1, iv 1, .unset] [(.int 1)]) _
          refine XS.goto X8.here hx rfl (pc0 := 120) (pc' := 124) rfl (hb hby at_120) (by decide) (by decide) ?_
          show SF p e below T8 (mkF m 124 #[iv p0s, iv p1s, iv 0, iv 1, iv 0, iv 1, iv 1, iv 1, iv 1, iv 1, .unset] [(.int 1)]) _
          refine XS.istore X8.here hx rfl (hb hby at_124) rfl (l' := #[iv p0s, iv p1s, iv 0, iv 1, iv 0, iv 1, iv 1, iv 1, iv 1, iv 1, iv 1]) rfl ?_
          show SF p e below T8 (mkF m 126 #[iv p0s, iv p1s, iv 0, iv 1, iv 0, iv 1, iv 1, iv 1, iv 1, iv 1, iv 1] []) _
          refine XS.iload X8.here hx rfl (hb hby at_126) rfl ?_
          show SF p e below T8 (mkF m 128 #[iv p0s, iv p1s, iv 0, iv 1, iv 0, iv 1, iv 1, iv 1, iv 1, iv 1, iv 1] [(.int 1)]) _
          refine XS.ifNo X8.here hx rfl (hb hby at_128) rfl ((if0 _ _).trans (feq (by decide : ¬ ((1 : Int32) = (0 : Int32)))).1) ?_
          show SF p e below T8 (mkF m 131 #[iv p0s, iv p1s, iv 0, iv 1, iv 0, iv 1, iv 1, iv 1, iv 1, iv 1, iv 1] []) _
          refine XS.iload X8.here hx rfl (hb hby at_131) rfl ?_
          show SF p e below T8 (mkF m 133 #[iv p0s, iv p1s, iv 0, iv 1, iv 0, iv 1, iv 1, iv 1, iv 1, iv 1, iv 1] [(.int 1)]) _
          refine XS.ifNo X8.here hx rfl (hb hby at_133) rfl ((if0 _ _).trans (feq (by decide : ¬ ((1 : Int32) = (0 : Int32)))).1) ?_
          show SF p e below T8 (mkF m 136 #[iv p0s, iv p1s, iv 0, iv 1, iv 0, iv 1, iv 1, iv 1, iv 1, iv 1, iv 1] []) _
          refine XS.iload X8.here hx rfl (hb hby at_136) rfl ?_
          show SF p e below T8 (mkF m 138 #[iv p0s, iv p1s, iv 0, iv 1, iv 0, iv 1, iv 1, iv 1, iv 1, iv 1, iv 1] [(.int 1)]) _
          refine XS.ifNo X8.here hx rfl (hb hby at_138) rfl ((if0 _ _).trans (feq (by decide : ¬ ((1 : Int32) = (0 : Int32)))).1) ?_
          show SF p e below T8 (mkF m 141 #[iv p0s, iv p1s, iv 0, iv 1, iv 0, iv 1, iv 1, iv 1, iv 1, iv 1, iv 1] []) _
          refine XS.iload X8.here hx rfl (hb hby at_141) rfl ?_
          show SF p e below T8 (mkF m 143 #[iv p0s, iv p1s, iv 0, iv 1, iv 0, iv 1, iv 1, iv 1, iv 1, iv 1, iv 1] [(.int 1)]) _
          refine XS.ifNo X8.here hx rfl (hb hby at_143) rfl ((if0 _ _).trans (feq (by decide : ¬ ((1 : Int32) = (0 : Int32)))).1) ?_
          show SF p e below T8 (mkF m 146 #[iv p0s, iv p1s, iv 0, iv 1, iv 0, iv 1, iv 1, iv 1, iv 1, iv 1, iv 1] []) _
          refine XS.iconst X8.here hx rfl (hb hby at_146) ?_
          show SF p e below T8 (mkF m 147 #[iv p0s, iv p1s, iv 0, iv 1, iv 0, iv 1, iv 1, iv 1, iv 1, iv 1, iv 1] [(.int 1)]) _
          refine XS.goto X8.here hx rfl (pc0 := 147) (pc' := 151) rfl (hb hby at_147) (by decide) (by decide) ?_
          show SF p e below T8 (mkF m 151 #[iv p0s, iv p1s, iv 0, iv 1, iv 0, iv 1, iv 1, iv 1, iv 1, iv 1, iv 1] [(.int 1)]) _
          exact retN X8 hx (t := .boolean) hre (by simp) (hb hby at_151) hr
        · exact ⟨rfl, N8⟩
      · obtain ⟨cq8, kq8, q8a, q8b, q8c⟩ := isOf hZ e7 (E_w4.ext O0.2)
        obtain ⟨_, _, ⟨T8, L8, k8x, n8⟩, -, X8, ⟨Lc8, hQ8, l8, y8, z8⟩, st8⟩ := X7.virtualBack hx (y := (⟨"com/example/afterlog/afterlog/Condition", "admits", "(ZI)Z"⟩ : MethodName)) (z := (⟨"com/example/afterlog/afterlog/Condition", "admits", "(ZI)Z"⟩ : MethodName)) hown (mvT hZ (tw hw 3 rfl)) (mvT hZ (tw hw 4 rfl)) (notFace_of_selects (args := #[]) (mvT hZ (tw hw 6 rfl))) (mvT hZ (tw hw 6 rfl)) (mvT hZ (tw hw 5 rfl)) (by decide) (backOf (W := 0) (rm1_9 l Z a0 hw [] w4 p1s h0 n0 Z0 E_w4 O0 F_w4_ordinal hc3) hZ (tw hw 7 rfl) (tw hw 1 rfl) (by decide) (by decide)) q8a q8c (g := (mkF m 46 #[iv p0s, iv p1s, iv 0, iv 1, iv 0, iv 1, .unset, .unset, .unset, .unset, .unset] [(.int p1s), (.int 0), (.ref w4)])) rfl (by rw [hml]; rfl) (Steps.refl _) (argsL := [(.int 0), (.int p1s)]) (rest := []) (lenOf pd_1 rfl) rfl (by show 2 * 0 + _ ≤ _; exact Nat.le_of_eq rfl) (hb hby at_46) (fun _ _ => ⟨rfl, e7, (by decide : 0 + 0 ≤ _), (by decide : 0 + 0 ≤ _)⟩)
        dsimp only [Pt.U, Pt.locs, Pt.cells, Pt.slots] at X8 l8 y8 z8 st8 hQ8
        subst l8 y8 z8
        obtain ⟨rfl, N8q, e8⟩ := hQ8
        have N8 := Fr.app N6 N8q
        obtain ⟨fs, hr, hrun, hended, hW, hsame⟩ := X8.leave (v := some (.int (1 : Int32))) (fun h => by rw [hre] at h; cases h)
        refine ⟨_, _, pre0 _ (pre1 _ (pre2 _ (pre3 _ (?_)))), hrun, hended, _, _, rfl, ?_, ⟨_, rfl⟩, hW, hsame.mono (by decide) (by decide)⟩
        · show SF p e below T7 (mkF m 46 #[iv p0s, iv p1s, iv 0, iv 1, iv 0, iv 1, .unset, .unset, .unset, .unset, .unset] [(.int p1s), (.int 0), (.ref w4)]) _
          refine st8.trans ?_
          show SF p e below T8 (mkF m 49 #[iv p0s, iv p1s, iv 0, iv 1, iv 0, iv 1, .unset, .unset, .unset, .unset, .unset] [(.int 0)]) _
          refine XS.istore X8.here hx rfl (hb hby at_49) rfl (l' := #[iv p0s, iv p1s, iv 0, iv 1, iv 0, iv 1, iv 0, .unset, .unset, .unset, .unset]) rfl ?_
          show SF p e below T8 (mkF m 51 #[iv p0s, iv p1s, iv 0, iv 1, iv 0, iv 1, iv 0, .unset, .unset, .unset, .unset] []) _
          refine XS.iloadN X8.here hx rfl (hb hby at_51) rfl ?_
          show SF p e below T8 (mkF m 52 #[iv p0s, iv p1s, iv 0, iv 1, iv 0, iv 1, iv 0, .unset, .unset, .unset, .unset] [(.int 1)]) _
          refine XS.iloadN X8.here hx rfl (hb hby at_52) rfl ?_
          show SF p e below T8 (mkF m 53 #[iv p0s, iv p1s, iv 0, iv 1, iv 0, iv 1, iv 0, .unset, .unset, .unset, .unset] [(.int 0), (.int 1)]) _
          refine XS.ifNo X8.here hx rfl (hb hby at_53) rfl ((if0 _ _).trans (teq (by decide : (0 : Int32) = (0 : Int32))).2) ?_
          show SF p e below T8 (mkF m 56 #[iv p0s, iv p1s, iv 0, iv 1, iv 0, iv 1, iv 0, .unset, .unset, .unset, .unset] [(.int 1)]) _
          refine XS.iconst X8.here hx rfl (hb hby at_56) ?_
          show SF p e below T8 (mkF m 57 #[iv p0s, iv p1s, iv 0, iv 1, iv 0, iv 1, iv 0, .unset, .unset, .unset, .unset] [(.int 1), (.int 1)]) _
          refine XS.goto X8.here hx rfl (pc0 := 57) (pc' := 61) rfl (hb hby at_57) (by decide) (by decide) ?_
          show SF p e below T8 (mkF m 61 #[iv p0s, iv p1s, iv 0, iv 1, iv 0, iv 1, iv 0, .unset, .unset, .unset, .unset] [(.int 1), (.int 1)]) _
          refine XS.icmpNo X8.here hx rfl (hb hby at_61) rfl (teq (by decide : (1 : Int32) = (1 : Int32))).2 ?_
          show SF p e below T8 (mkF m 64 #[iv p0s, iv p1s, iv 0, iv 1, iv 0, iv 1, iv 0, .unset, .unset, .unset, .unset] []) _
          refine XS.iconst X8.here hx rfl (hb hby at_64) ?_
          show SF p e below T8 (mkF m 65 #[iv p0s, iv p1s, iv 0, iv 1, iv 0, iv 1, iv 0, .unset, .unset, .unset, .unset] [(.int 1)]) _
          refine XS.goto X8.here hx rfl (pc0 := 65) (pc' := 69) rfl (hb hby at_65) (by decide) (by decide) ?_
          show SF p e below T8 (mkF m 69 #[iv p0s, iv p1s, iv 0, iv 1, iv 0, iv 1, iv 0, .unset, .unset, .unset, .unset] [(.int 1)]) _
          refine XS.istore X8.here hx rfl (hb hby at_69) rfl (l' := #[iv p0s, iv p1s, iv 0, iv 1, iv 0, iv 1, iv 0, iv 1, .unset, .unset, .unset]) rfl ?_
          show SF p e below T8 (mkF m 71 #[iv p0s, iv p1s, iv 0, iv 1, iv 0, iv 1, iv 0, iv 1, .unset, .unset, .unset] []) _
          refine XS.iload X8.here hx rfl (hb hby at_71) rfl ?_
          show SF p e below T8 (mkF m 73 #[iv p0s, iv p1s, iv 0, iv 1, iv 0, iv 1, iv 0, iv 1, .unset, .unset, .unset] [(.int 0)]) _
          refine XS.iloadN X8.here hx rfl (hb hby at_73) rfl ?_
          show SF p e below T8 (mkF m 74 #[iv p0s, iv p1s, iv 0, iv 1, iv 0, iv 1, iv 0, iv 1, .unset, .unset, .unset] [(.int 0), (.int 0)]) _
          refine XS.icmpNo X8.here hx rfl (hb hby at_74) rfl (teq (by decide : (0 : Int32) = (0 : Int32))).2 ?_
          show SF p e below T8 (mkF m 77 #[iv p0s, iv p1s, iv 0, iv 1, iv 0, iv 1, iv 0, iv 1, .unset, .unset, .unset] []) _
          refine XS.iconst X8.here hx rfl (hb hby at_77) ?_
          show SF p e below T8 (mkF m 78 #[iv p0s, iv p1s, iv 0, iv 1, iv 0, iv 1, iv 0, iv 1, .unset, .unset, .unset] [(.int 1)]) _
          refine XS.goto X8.here hx rfl (pc0 := 78) (pc' := 82) rfl (hb hby at_78) (by decide) (by decide) ?_
          show SF p e below T8 (mkF m 82 #[iv p0s, iv p1s, iv 0, iv 1, iv 0, iv 1, iv 0, iv 1, .unset, .unset, .unset] [(.int 1)]) _
          refine XS.istore X8.here hx rfl (hb hby at_82) rfl (l' := #[iv p0s, iv p1s, iv 0, iv 1, iv 0, iv 1, iv 0, iv 1, iv 1, .unset, .unset]) rfl ?_
          show SF p e below T8 (mkF m 84 #[iv p0s, iv p1s, iv 0, iv 1, iv 0, iv 1, iv 0, iv 1, iv 1, .unset, .unset] []) _
          refine XS.iload X8.here hx rfl (hb hby at_84) rfl ?_
          show SF p e below T8 (mkF m 86 #[iv p0s, iv p1s, iv 0, iv 1, iv 0, iv 1, iv 0, iv 1, iv 1, .unset, .unset] [(.int 1)]) _
          refine XS.iloadN X8.here hx rfl (hb hby at_86) rfl ?_
          show SF p e below T8 (mkF m 87 #[iv p0s, iv p1s, iv 0, iv 1, iv 0, iv 1, iv 0, iv 1, iv 1, .unset, .unset] [(.int p1s), (.int 1)]) _
          refine XS.ifNo X8.here hx rfl (hb hby at_87) rfl ((if0 _ _).trans (tlt hc2).2.2.2) ?_
          show SF p e below T8 (mkF m 90 #[iv p0s, iv p1s, iv 0, iv 1, iv 0, iv 1, iv 0, iv 1, iv 1, .unset, .unset] [(.int 1)]) _
          refine XS.iconst X8.here hx rfl (hb hby at_90) ?_
          show SF p e below T8 (mkF m 91 #[iv p0s, iv p1s, iv 0, iv 1, iv 0, iv 1, iv 0, iv 1, iv 1, .unset, .unset] [(.int 1), (.int 1)]) _
          refine XS.goto X8.here hx rfl (pc0 := 91) (pc' := 95) rfl (hb hby at_91) (by decide) (by decide) ?_
          show SF p e below T8 (mkF m 95 #[iv p0s, iv p1s, iv 0, iv 1, iv 0, iv 1, iv 0, iv 1, iv 1, .unset, .unset] [(.int 1), (.int 1)]) _
          refine XS.icmpNo X8.here hx rfl (hb hby at_95) rfl (teq (by decide : (1 : Int32) = (1 : Int32))).2 ?_
          show SF p e below T8 (mkF m 98 #[iv p0s, iv p1s, iv 0, iv 1, iv 0, iv 1, iv 0, iv 1, iv 1, .unset, .unset] []) _
          refine XS.iconst X8.here hx rfl (hb hby at_98) ?_
          show SF p e below T8 (mkF m 99 #[iv p0s, iv p1s, iv 0, iv 1, iv 0, iv 1, iv 0, iv 1, iv 1, .unset, .unset] [(.int 1)]) _
          refine XS.goto X8.here hx rfl (pc0 := 99) (pc' := 103) rfl (hb hby at_99) (by decide) (by decide) ?_
          show SF p e below T8 (mkF m 103 #[iv p0s, iv p1s, iv 0, iv 1, iv 0, iv 1, iv 0, iv 1, iv 1, .unset, .unset] [(.int 1)]) _
          refine XS.istore X8.here hx rfl (hb hby at_103) rfl (l' := #[iv p0s, iv p1s, iv 0, iv 1, iv 0, iv 1, iv 0, iv 1, iv 1, iv 1, .unset]) rfl ?_
          show SF p e below T8 (mkF m 105 #[iv p0s, iv p1s, iv 0, iv 1, iv 0, iv 1, iv 0, iv 1, iv 1, iv 1, .unset] []) _
          refine XS.iload X8.here hx rfl (hb hby at_105) rfl ?_
          show SF p e below T8 (mkF m 107 #[iv p0s, iv p1s, iv 0, iv 1, iv 0, iv 1, iv 0, iv 1, iv 1, iv 1, .unset] [(.int 0)]) _
          refine XS.iloadN X8.here hx rfl (hb hby at_107) rfl ?_
          show SF p e below T8 (mkF m 108 #[iv p0s, iv p1s, iv 0, iv 1, iv 0, iv 1, iv 0, iv 1, iv 1, iv 1, .unset] [(.int p1s), (.int 0)]) _
          refine XS.ifYes X8.here hx rfl (pc0 := 108) (pc' := 115) rfl (hb hby at_108) rfl ((if0 _ _).trans (flt hc3).2.1) (by decide) (by decide) ?_
          show SF p e below T8 (mkF m 115 #[iv p0s, iv p1s, iv 0, iv 1, iv 0, iv 1, iv 0, iv 1, iv 1, iv 1, .unset] [(.int 0)]) _
          refine XS.iconst X8.here hx rfl (hb hby at_115) ?_
          show SF p e below T8 (mkF m 116 #[iv p0s, iv p1s, iv 0, iv 1, iv 0, iv 1, iv 0, iv 1, iv 1, iv 1, .unset] [(.int 0), (.int 0)]) _
          refine XS.icmpNo X8.here hx rfl (hb hby at_116) rfl (teq (by decide : (0 : Int32) = (0 : Int32))).2 ?_
          show SF p e below T8 (mkF m 119 #[iv p0s, iv p1s, iv 0, iv 1, iv 0, iv 1, iv 0, iv 1, iv 1, iv 1, .unset] []) _
          refine XS.iconst X8.here hx rfl (hb hby at_119) ?_
          show SF p e below T8 (mkF m 120 #[iv p0s, iv p1s, iv 0, iv 1, iv 0, iv 1, iv 0, iv 1, iv 1, iv 1, .unset] [(.int 1)]) _
          refine XS.goto X8.here hx rfl (pc0 := 120) (pc' := 124) rfl (hb hby at_120) (by decide) (by decide) ?_
          show SF p e below T8 (mkF m 124 #[iv p0s, iv p1s, iv 0, iv 1, iv 0, iv 1, iv 0, iv 1, iv 1, iv 1, .unset] [(.int 1)]) _
          refine XS.istore X8.here hx rfl (hb hby at_124) rfl (l' := #[iv p0s, iv p1s, iv 0, iv 1, iv 0, iv 1, iv 0, iv 1, iv 1, iv 1, iv 1]) rfl ?_
          show SF p e below T8 (mkF m 126 #[iv p0s, iv p1s, iv 0, iv 1, iv 0, iv 1, iv 0, iv 1, iv 1, iv 1, iv 1] []) _
          refine XS.iload X8.here hx rfl (hb hby at_126) rfl ?_
          show SF p e below T8 (mkF m 128 #[iv p0s, iv p1s, iv 0, iv 1, iv 0, iv 1, iv 0, iv 1, iv 1, iv 1, iv 1] [(.int 1)]) _
          refine XS.ifNo X8.here hx rfl (hb hby at_128) rfl ((if0 _ _).trans (feq (by decide : ¬ ((1 : Int32) = (0 : Int32)))).1) ?_
          show SF p e below T8 (mkF m 131 #[iv p0s, iv p1s, iv 0, iv 1, iv 0, iv 1, iv 0, iv 1, iv 1, iv 1, iv 1] []) _
          refine XS.iload X8.here hx rfl (hb hby at_131) rfl ?_
          show SF p e below T8 (mkF m 133 #[iv p0s, iv p1s, iv 0, iv 1, iv 0, iv 1, iv 0, iv 1, iv 1, iv 1, iv 1] [(.int 1)]) _
          refine XS.ifNo X8.here hx rfl (hb hby at_133) rfl ((if0 _ _).trans (feq (by decide : ¬ ((1 : Int32) = (0 : Int32)))).1) ?_
          show SF p e below T8 (mkF m 136 #[iv p0s, iv p1s, iv 0, iv 1, iv 0, iv 1, iv 0, iv 1, iv 1, iv 1, iv 1] []) _
          refine XS.iload X8.here hx rfl (hb hby at_136) rfl ?_
          show SF p e below T8 (mkF m 138 #[iv p0s, iv p1s, iv 0, iv 1, iv 0, iv 1, iv 0, iv 1, iv 1, iv 1, iv 1] [(.int 1)]) _
          refine XS.ifNo X8.here hx rfl (hb hby at_138) rfl ((if0 _ _).trans (feq (by decide : ¬ ((1 : Int32) = (0 : Int32)))).1) ?_
          show SF p e below T8 (mkF m 141 #[iv p0s, iv p1s, iv 0, iv 1, iv 0, iv 1, iv 0, iv 1, iv 1, iv 1, iv 1] []) _
          refine XS.iload X8.here hx rfl (hb hby at_141) rfl ?_
          show SF p e below T8 (mkF m 143 #[iv p0s, iv p1s, iv 0, iv 1, iv 0, iv 1, iv 0, iv 1, iv 1, iv 1, iv 1] [(.int 1)]) _
          refine XS.ifNo X8.here hx rfl (hb hby at_143) rfl ((if0 _ _).trans (feq (by decide : ¬ ((1 : Int32) = (0 : Int32)))).1) ?_
          show SF p e below T8 (mkF m 146 #[iv p0s, iv p1s, iv 0, iv 1, iv 0, iv 1, iv 0, iv 1, iv 1, iv 1, iv 1] []) _
          refine XS.iconst X8.here hx rfl (hb hby at_146) ?_
          show SF p e below T8 (mkF m 147 #[iv p0s, iv p1s, iv 0, iv 1, iv 0, iv 1, iv 0, iv 1, iv 1, iv 1, iv 1] [(.int 1)]) _
          refine XS.goto X8.here hx rfl (pc0 := 147) (pc' := 151) rfl (hb hby at_147) (by decide) (by decide) ?_
          show SF p e below T8 (mkF m 151 #[iv p0s, iv p1s, iv 0, iv 1, iv 0, iv 1, iv 0, iv 1, iv 1, iv 1, iv 1] [(.int 1)]) _
          exact retN X8 hx (t := .boolean) hre (by simp) (hb hby at_151) hr
        · exact ⟨rfl, N8⟩
    · obtain ⟨cq6, kq6, q6a, q6b, q6c⟩ := isOf hZ e5 (E_w3.ext O0.2)
      obtain ⟨_, _, ⟨T6, L6, k6x, n6⟩, -, X6, ⟨Lc6, hQ6, l6, y6, z6⟩, st6⟩ := X5.virtualBack hx (y := (⟨"com/example/afterlog/afterlog/Condition", "admits", "(ZI)Z"⟩ : MethodName)) (z := (⟨"com/example/afterlog/afterlog/Condition", "admits", "(ZI)Z"⟩ : MethodName)) hown (mvT hZ (tw hw 3 rfl)) (mvT hZ (tw hw 4 rfl)) (notFace_of_selects (args := #[]) (mvT hZ (tw hw 6 rfl))) (mvT hZ (tw hw 6 rfl)) (mvT hZ (tw hw 5 rfl)) (by decide) (backOf (W := 0) (rm1_10 l Z a0 hw [] w3 p1s h0 n0 Z0 E_w3 O0 F_w3_ordinal hc2) hZ (tw hw 7 rfl) (tw hw 1 rfl) (by decide) (by decide)) q6a q6c (g := (mkF m 36 #[iv p0s, iv p1s, iv 0, iv 1, iv 0, .unset, .unset, .unset, .unset, .unset, .unset] [(.int p1s), (.int 0), (.ref w3)])) rfl (by rw [hml]; rfl) (Steps.refl _) (argsL := [(.int 0), (.int p1s)]) (rest := []) (lenOf pd_1 rfl) rfl (by show 2 * 0 + _ ≤ _; exact Nat.le_of_eq rfl) (hb hby at_36) (fun _ _ => ⟨rfl, e5, (by decide : 0 + 0 ≤ _), (by decide : 0 + 0 ≤ _)⟩)
      dsimp only [Pt.U, Pt.locs, Pt.cells, Pt.slots] at X6 l6 y6 z6 st6 hQ6
      subst l6 y6 z6
      obtain ⟨rfl, N6q, e6⟩ := hQ6
      have N6 := Fr.app N4 N6q
      obtain ⟨T7, X7, e7, st7⟩ := getS2 X6 hx hZ hown (host := "") (Or.inl (tw hw 21 rfl)) Via.refl e6 (S6.ext O0.2) (g := (mkF m 41 #[iv p0s, iv p1s, iv 0, iv 1, iv 0, iv 0, .unset, .unset, .unset, .unset, .unset] [])) rfl (hb hby at_41)
      have pre3 : ∀ t, SF p e below T7 (mkF m 46 #[iv p0s, iv p1s, iv 0, iv 1, iv 0, iv 0, .unset, .unset, .unset, .unset, .unset] [(.int p1s), (.int 0), (.ref w4)]) t → SF p e below T5 (mkF m 36 #[iv p0s, iv p1s, iv 0, iv 1, iv 0, .unset, .unset, .unset, .unset, .unset, .unset] [(.int p1s), (.int 0), (.ref w3)]) t := fun t k => by
        show SF p e below T5 (mkF m 36 #[iv p0s, iv p1s, iv 0, iv 1, iv 0, .unset, .unset, .unset, .unset, .unset, .unset] [(.int p1s), (.int 0), (.ref w3)]) _
        refine st6.trans ?_
        show SF p e below T6 (mkF m 39 #[iv p0s, iv p1s, iv 0, iv 1, iv 0, .unset, .unset, .unset, .unset, .unset, .unset] [(.int 0)]) _
        refine XS.istore X6.here hx rfl (hb hby at_39) rfl (l' := #[iv p0s, iv p1s, iv 0, iv 1, iv 0, iv 0, .unset, .unset, .unset, .unset, .unset]) rfl ?_
        show SF p e below T6 (mkF m 41 #[iv p0s, iv p1s, iv 0, iv 1, iv 0, iv 0, .unset, .unset, .unset, .unset, .unset] []) _
        refine st7 _ ?_
        show SF p e below T7 (mkF m 44 #[iv p0s, iv p1s, iv 0, iv 1, iv 0, iv 0, .unset, .unset, .unset, .unset, .unset] [(.ref w4)]) _
        refine XS.iloadN X7.here hx rfl (hb hby at_44) rfl ?_
        show SF p e below T7 (mkF m 45 #[iv p0s, iv p1s, iv 0, iv 1, iv 0, iv 0, .unset, .unset, .unset, .unset, .unset] [(.int 0), (.ref w4)]) _
        refine XS.iloadN X7.here hx rfl (hb hby at_45) rfl ?_
        exact k
      by_cases hc3 : p1s < (0 : Int32)
      · obtain ⟨cq8, kq8, q8a, q8b, q8c⟩ := isOf hZ e7 (E_w4.ext O0.2)
        obtain ⟨_, _, ⟨T8, L8, k8x, n8⟩, -, X8, ⟨Lc8, hQ8, l8, y8, z8⟩, st8⟩ := X7.virtualBack hx (y := (⟨"com/example/afterlog/afterlog/Condition", "admits", "(ZI)Z"⟩ : MethodName)) (z := (⟨"com/example/afterlog/afterlog/Condition", "admits", "(ZI)Z"⟩ : MethodName)) hown (mvT hZ (tw hw 3 rfl)) (mvT hZ (tw hw 4 rfl)) (notFace_of_selects (args := #[]) (mvT hZ (tw hw 6 rfl))) (mvT hZ (tw hw 6 rfl)) (mvT hZ (tw hw 5 rfl)) (by decide) (backOf (W := 0) (rm1_8 l Z a0 hw [] w4 p1s h0 n0 Z0 E_w4 O0 F_w4_ordinal hc3) hZ (tw hw 7 rfl) (tw hw 1 rfl) (by decide) (by decide)) q8a q8c (g := (mkF m 46 #[iv p0s, iv p1s, iv 0, iv 1, iv 0, iv 0, .unset, .unset, .unset, .unset, .unset] [(.int p1s), (.int 0), (.ref w4)])) rfl (by rw [hml]; rfl) (Steps.refl _) (argsL := [(.int 0), (.int p1s)]) (rest := []) (lenOf pd_1 rfl) rfl (by show 2 * 0 + _ ≤ _; exact Nat.le_of_eq rfl) (hb hby at_46) (fun _ _ => ⟨rfl, e7, (by decide : 0 + 0 ≤ _), (by decide : 0 + 0 ≤ _)⟩)
        dsimp only [Pt.U, Pt.locs, Pt.cells, Pt.slots] at X8 l8 y8 z8 st8 hQ8
        subst l8 y8 z8
        obtain ⟨rfl, N8q, e8⟩ := hQ8
        have N8 := Fr.app N6 N8q
        obtain ⟨fs, hr, hrun, hended, hW, hsame⟩ := X8.leave (v := some (.int (1 : Int32))) (fun h => by rw [hre] at h; cases h)
        refine ⟨_, _, pre0 _ (pre1 _ (pre2 _ (pre3 _ (?_)))), hrun, hended, _, _, rfl, ?_, ⟨_, rfl⟩, hW, hsame.mono (by decide) (by decide)⟩
        · show SF p e below T7 (mkF m 46 #[iv p0s, iv p1s, iv 0, iv 1, iv 0, iv 0, .unset, .unset, .unset, .unset, .unset] [(.int p1s), (.int 0), (.ref w4)]) _
          refine st8.trans ?_
          show SF p e below T8 (mkF m 49 #[iv p0s, iv p1s, iv 0, iv 1, iv 0, iv 0, .unset, .unset, .unset, .unset, .unset] [(.int 1)]) _
          refine XS.istore X8.here hx rfl (hb hby at_49) rfl (l' := #[iv p0s, iv p1s, iv 0, iv 1, iv 0, iv 0, iv 1, .unset, .unset, .unset, .unset]) rfl ?_
          show SF p e below T8 (mkF m 51 #[iv p0s, iv p1s, iv 0, iv 1, iv 0, iv 0, iv 1, .unset, .unset, .unset, .unset] []) _
          refine XS.iloadN X8.here hx rfl (hb hby at_51) rfl ?_
          show SF p e below T8 (mkF m 52 #[iv p0s, iv p1s, iv 0, iv 1, iv 0, iv 0, iv 1, .unset, .unset, .unset, .unset] [(.int 1)]) _
          refine XS.iloadN X8.here hx rfl (hb hby at_52) rfl ?_
          show SF p e below T8 (mkF m 53 #[iv p0s, iv p1s, iv 0, iv 1, iv 0, iv 0, iv 1, .unset, .unset, .unset, .unset] [(.int 0), (.int 1)]) _
          refine XS.ifNo X8.here hx rfl (hb hby at_53) rfl ((if0 _ _).trans (teq (by decide : (0 : Int32) = (0 : Int32))).2) ?_
          show SF p e below T8 (mkF m 56 #[iv p0s, iv p1s, iv 0, iv 1, iv 0, iv 0, iv 1, .unset, .unset, .unset, .unset] [(.int 1)]) _
          refine XS.iconst X8.here hx rfl (hb hby at_56) ?_
          show SF p e below T8 (mkF m 57 #[iv p0s, iv p1s, iv 0, iv 1, iv 0, iv 0, iv 1, .unset, .unset, .unset, .unset] [(.int 1), (.int 1)]) _
          refine XS.goto X8.here hx rfl (pc0 := 57) (pc' := 61) rfl (hb hby at_57) (by decide) (by decide) ?_
          show SF p e below T8 (mkF m 61 #[iv p0s, iv p1s, iv 0, iv 1, iv 0, iv 0, iv 1, .unset, .unset, .unset, .unset] [(.int 1), (.int 1)]) _
          refine XS.icmpNo X8.here hx rfl (hb hby at_61) rfl (teq (by decide : (1 : Int32) = (1 : Int32))).2 ?_
          show SF p e below T8 (mkF m 64 #[iv p0s, iv p1s, iv 0, iv 1, iv 0, iv 0, iv 1, .unset, .unset, .unset, .unset] []) _
          refine XS.iconst X8.here hx rfl (hb hby at_64) ?_
          show SF p e below T8 (mkF m 65 #[iv p0s, iv p1s, iv 0, iv 1, iv 0, iv 0, iv 1, .unset, .unset, .unset, .unset] [(.int 1)]) _
          refine XS.goto X8.here hx rfl (pc0 := 65) (pc' := 69) rfl (hb hby at_65) (by decide) (by decide) ?_
          show SF p e below T8 (mkF m 69 #[iv p0s, iv p1s, iv 0, iv 1, iv 0, iv 0, iv 1, .unset, .unset, .unset, .unset] [(.int 1)]) _
          refine XS.istore X8.here hx rfl (hb hby at_69) rfl (l' := #[iv p0s, iv p1s, iv 0, iv 1, iv 0, iv 0, iv 1, iv 1, .unset, .unset, .unset]) rfl ?_
          show SF p e below T8 (mkF m 71 #[iv p0s, iv p1s, iv 0, iv 1, iv 0, iv 0, iv 1, iv 1, .unset, .unset, .unset] []) _
          refine XS.iload X8.here hx rfl (hb hby at_71) rfl ?_
          show SF p e below T8 (mkF m 73 #[iv p0s, iv p1s, iv 0, iv 1, iv 0, iv 0, iv 1, iv 1, .unset, .unset, .unset] [(.int 0)]) _
          refine XS.iloadN X8.here hx rfl (hb hby at_73) rfl ?_
          show SF p e below T8 (mkF m 74 #[iv p0s, iv p1s, iv 0, iv 1, iv 0, iv 0, iv 1, iv 1, .unset, .unset, .unset] [(.int 0), (.int 0)]) _
          refine XS.icmpNo X8.here hx rfl (hb hby at_74) rfl (teq (by decide : (0 : Int32) = (0 : Int32))).2 ?_
          show SF p e below T8 (mkF m 77 #[iv p0s, iv p1s, iv 0, iv 1, iv 0, iv 0, iv 1, iv 1, .unset, .unset, .unset] []) _
          refine XS.iconst X8.here hx rfl (hb hby at_77) ?_
          show SF p e below T8 (mkF m 78 #[iv p0s, iv p1s, iv 0, iv 1, iv 0, iv 0, iv 1, iv 1, .unset, .unset, .unset] [(.int 1)]) _
          refine XS.goto X8.here hx rfl (pc0 := 78) (pc' := 82) rfl (hb hby at_78) (by decide) (by decide) ?_
          show SF p e below T8 (mkF m 82 #[iv p0s, iv p1s, iv 0, iv 1, iv 0, iv 0, iv 1, iv 1, .unset, .unset, .unset] [(.int 1)]) _
          refine XS.istore X8.here hx rfl (hb hby at_82) rfl (l' := #[iv p0s, iv p1s, iv 0, iv 1, iv 0, iv 0, iv 1, iv 1, iv 1, .unset, .unset]) rfl ?_
          show SF p e below T8 (mkF m 84 #[iv p0s, iv p1s, iv 0, iv 1, iv 0, iv 0, iv 1, iv 1, iv 1, .unset, .unset] []) _
          refine XS.iload X8.here hx rfl (hb hby at_84) rfl ?_
          show SF p e below T8 (mkF m 86 #[iv p0s, iv p1s, iv 0, iv 1, iv 0, iv 0, iv 1, iv 1, iv 1, .unset, .unset] [(.int 0)]) _
          refine XS.iloadN X8.here hx rfl (hb hby at_86) rfl ?_
          show SF p e below T8 (mkF m 87 #[iv p0s, iv p1s, iv 0, iv 1, iv 0, iv 0, iv 1, iv 1, iv 1, .unset, .unset] [(.int p1s), (.int 0)]) _
          refine XS.ifYes X8.here hx rfl (pc0 := 87) (pc' := 94) rfl (hb hby at_87) rfl ((if0 _ _).trans (flt hc2).2.2.2) (by decide) (by decide) ?_
          show SF p e below T8 (mkF m 94 #[iv p0s, iv p1s, iv 0, iv 1, iv 0, iv 0, iv 1, iv 1, iv 1, .unset, .unset] [(.int 0)]) _
          refine XS.iconst X8.here hx rfl (hb hby at_94) ?_
          show SF p e below T8 (mkF m 95 #[iv p0s, iv p1s, iv 0, iv 1, iv 0, iv 0, iv 1, iv 1, iv 1, .unset, .unset] [(.int 0), (.int 0)]) _
          refine XS.icmpNo X8.here hx rfl (hb hby at_95) rfl (teq (by decide : (0 : Int32) = (0 : Int32))).2 ?_
          show SF p e below T8 (mkF m 98 #[iv p0s, iv p1s, iv 0, iv 1, iv 0, iv 0, iv 1, iv 1, iv 1, .unset, .unset] []) _
          refine XS.iconst X8.here hx rfl (hb hby at_98) ?_
          show SF p e below T8 (mkF m 99 #[iv p0s, iv p1s, iv 0, iv 1, iv 0, iv 0, iv 1, iv 1, iv 1, .unset, .unset] [(.int 1)]) _
          refine XS.goto X8.here hx rfl (pc0 := 99) (pc' := 103) rfl (hb hby at_99) (by decide) (by decide) ?_
          show SF p e below T8 (mkF m 103 #[iv p0s, iv p1s, iv 0, iv 1, iv 0, iv 0, iv 1, iv 1, iv 1, .unset, .unset] [(.int 1)]) _
          refine XS.istore X8.here hx rfl (hb hby at_103) rfl (l' := #[iv p0s, iv p1s, iv 0, iv 1, iv 0, iv 0, iv 1, iv 1, iv 1, iv 1, .unset]) rfl ?_
          show SF p e below T8 (mkF m 105 #[iv p0s, iv p1s, iv 0, iv 1, iv 0, iv 0, iv 1, iv 1, iv 1, iv 1, .unset] []) _
          refine XS.iload X8.here hx rfl (hb hby at_105) rfl ?_
          show SF p e below T8 (mkF m 107 #[iv p0s, iv p1s, iv 0, iv 1, iv 0, iv 0, iv 1, iv 1, iv 1, iv 1, .unset] [(.int 1)]) _
          refine XS.iloadN X8.here hx rfl (hb hby at_107) rfl ?_
          show SF p e below T8 (mkF m 108 #[iv p0s, iv p1s, iv 0, iv 1, iv 0, iv 0, iv 1, iv 1, iv 1, iv 1, .unset] [(.int p1s), (.int 1)]) _
          refine XS.ifNo X8.here hx rfl (hb hby at_108) rfl ((if0 _ _).trans (tlt hc3).2.1) ?_
          show SF p e below T8 (mkF m 111 #[iv p0s, iv p1s, iv 0, iv 1, iv 0, iv 0, iv 1, iv 1, iv 1, iv 1, .unset] [(.int 1)]) _
          refine XS.iconst X8.here hx rfl (hb hby at_111) ?_
          show SF p e below T8 (mkF m 112 #[iv p0s, iv p1s, iv 0, iv 1, iv 0, iv 0, iv 1, iv 1, iv 1, iv 1, .unset] [(.int 1), (.int 1)]) _
          refine XS.goto X8.here hx rfl (pc0 := 112) (pc' := 116) rfl (hb hby at_112) (by decide) (by decide) ?_
          show SF p e below T8 (mkF m 116 #[iv p0s, iv p1s, iv 0, iv 1, iv 0, iv 0, iv 1, iv 1, iv 1, iv 1, .unset] [(.int 1), (.int 1)]) _
          refine XS.icmpNo X8.here hx rfl (hb hby at_116) rfl (teq (by decide : (1 : Int32) = (1 : Int32))).2 ?_
          show SF p e below T8 (mkF m 119 #[iv p0s, iv p1s, iv 0, iv 1, iv 0, iv 0, iv 1, iv 1, iv 1, iv 1, .unset] []) _
          refine XS.iconst X8.here hx rfl (hb hby at_119) ?_
          show SF p e below T8 (mkF m 120 #[iv p0s, iv p1s, iv 0, iv 1, iv 0, iv 0, iv 1, iv 1, iv 1, iv 1, .unset] [(.int 1)]) _
          refine XS.goto X8.here hx rfl (pc0 := 120) (pc' := 124) rfl (hb hby at_120) (by decide) (by decide) ?_
          show SF p e below T8 (mkF m 124 #[iv p0s, iv p1s, iv 0, iv 1, iv 0, iv 0, iv 1, iv 1, iv 1, iv 1, .unset] [(.int 1)]) _
          refine XS.istore X8.here hx rfl (hb hby at_124) rfl (l' := #[iv p0s, iv p1s, iv 0, iv 1, iv 0, iv 0, iv 1, iv 1, iv 1, iv 1, iv 1]) rfl ?_
          show SF p e below T8 (mkF m 126 #[iv p0s, iv p1s, iv 0, iv 1, iv 0, iv 0, iv 1, iv 1, iv 1, iv 1, iv 1] []) _
          refine XS.iload X8.here hx rfl (hb hby at_126) rfl ?_
          show SF p e below T8 (mkF m 128 #[iv p0s, iv p1s, iv 0, iv 1, iv 0, iv 0, iv 1, iv 1, iv 1, iv 1, iv 1] [(.int 1)]) _
          refine XS.ifNo X8.here hx rfl (hb hby at_128) rfl ((if0 _ _).trans (feq (by decide : ¬ ((1 : Int32) = (0 : Int32)))).1) ?_
          show SF p e below T8 (mkF m 131 #[iv p0s, iv p1s, iv 0, iv 1, iv 0, iv 0, iv 1, iv 1, iv 1, iv 1, iv 1] []) _
          refine XS.iload X8.here hx rfl (hb hby at_131) rfl ?_
          show SF p e below T8 (mkF m 133 #[iv p0s, iv p1s, iv 0, iv 1, iv 0, iv 0, iv 1, iv 1, iv 1, iv 1, iv 1] [(.int 1)]) _
          refine XS.ifNo X8.here hx rfl (hb hby at_133) rfl ((if0 _ _).trans (feq (by decide : ¬ ((1 : Int32) = (0 : Int32)))).1) ?_
          show SF p e below T8 (mkF m 136 #[iv p0s, iv p1s, iv 0, iv 1, iv 0, iv 0, iv 1, iv 1, iv 1, iv 1, iv 1] []) _
          refine XS.iload X8.here hx rfl (hb hby at_136) rfl ?_
          show SF p e below T8 (mkF m 138 #[iv p0s, iv p1s, iv 0, iv 1, iv 0, iv 0, iv 1, iv 1, iv 1, iv 1, iv 1] [(.int 1)]) _
          refine XS.ifNo X8.here hx rfl (hb hby at_138) rfl ((if0 _ _).trans (feq (by decide : ¬ ((1 : Int32) = (0 : Int32)))).1) ?_
          show SF p e below T8 (mkF m 141 #[iv p0s, iv p1s, iv 0, iv 1, iv 0, iv 0, iv 1, iv 1, iv 1, iv 1, iv 1] []) _
          refine XS.iload X8.here hx rfl (hb hby at_141) rfl ?_
          show SF p e below T8 (mkF m 143 #[iv p0s, iv p1s, iv 0, iv 1, iv 0, iv 0, iv 1, iv 1, iv 1, iv 1, iv 1] [(.int 1)]) _
          refine XS.ifNo X8.here hx rfl (hb hby at_143) rfl ((if0 _ _).trans (feq (by decide : ¬ ((1 : Int32) = (0 : Int32)))).1) ?_
          show SF p e below T8 (mkF m 146 #[iv p0s, iv p1s, iv 0, iv 1, iv 0, iv 0, iv 1, iv 1, iv 1, iv 1, iv 1] []) _
          refine XS.iconst X8.here hx rfl (hb hby at_146) ?_
          show SF p e below T8 (mkF m 147 #[iv p0s, iv p1s, iv 0, iv 1, iv 0, iv 0, iv 1, iv 1, iv 1, iv 1, iv 1] [(.int 1)]) _
          refine XS.goto X8.here hx rfl (pc0 := 147) (pc' := 151) rfl (hb hby at_147) (by decide) (by decide) ?_
          show SF p e below T8 (mkF m 151 #[iv p0s, iv p1s, iv 0, iv 1, iv 0, iv 0, iv 1, iv 1, iv 1, iv 1, iv 1] [(.int 1)]) _
          exact retN X8 hx (t := .boolean) hre (by simp) (hb hby at_151) hr
        · exact ⟨rfl, N8⟩
      · obtain ⟨cq8, kq8, q8a, q8b, q8c⟩ := isOf hZ e7 (E_w4.ext O0.2)
        obtain ⟨_, _, ⟨T8, L8, k8x, n8⟩, -, X8, ⟨Lc8, hQ8, l8, y8, z8⟩, st8⟩ := X7.virtualBack hx (y := (⟨"com/example/afterlog/afterlog/Condition", "admits", "(ZI)Z"⟩ : MethodName)) (z := (⟨"com/example/afterlog/afterlog/Condition", "admits", "(ZI)Z"⟩ : MethodName)) hown (mvT hZ (tw hw 3 rfl)) (mvT hZ (tw hw 4 rfl)) (notFace_of_selects (args := #[]) (mvT hZ (tw hw 6 rfl))) (mvT hZ (tw hw 6 rfl)) (mvT hZ (tw hw 5 rfl)) (by decide) (backOf (W := 0) (rm1_9 l Z a0 hw [] w4 p1s h0 n0 Z0 E_w4 O0 F_w4_ordinal hc3) hZ (tw hw 7 rfl) (tw hw 1 rfl) (by decide) (by decide)) q8a q8c (g := (mkF m 46 #[iv p0s, iv p1s, iv 0, iv 1, iv 0, iv 0, .unset, .unset, .unset, .unset, .unset] [(.int p1s), (.int 0), (.ref w4)])) rfl (by rw [hml]; rfl) (Steps.refl _) (argsL := [(.int 0), (.int p1s)]) (rest := []) (lenOf pd_1 rfl) rfl (by show 2 * 0 + _ ≤ _; exact Nat.le_of_eq rfl) (hb hby at_46) (fun _ _ => ⟨rfl, e7, (by decide : 0 + 0 ≤ _), (by decide : 0 + 0 ≤ _)⟩)
        dsimp only [Pt.U, Pt.locs, Pt.cells, Pt.slots] at X8 l8 y8 z8 st8 hQ8
        subst l8 y8 z8
        obtain ⟨rfl, N8q, e8⟩ := hQ8
        have N8 := Fr.app N6 N8q
        obtain ⟨fs, hr, hrun, hended, hW, hsame⟩ := X8.leave (v := some (.int (1 : Int32))) (fun h => by rw [hre] at h; cases h)
        refine ⟨_, _, pre0 _ (pre1 _ (pre2 _ (pre3 _ (?_)))), hrun, hended, _, _, rfl, ?_, ⟨_, rfl⟩, hW, hsame.mono (by decide) (by decide)⟩
        · show SF p e below T7 (mkF m 46 #[iv p0s, iv p1s, iv 0, iv 1, iv 0, iv 0, .unset, .unset, .unset, .unset, .unset] [(.int p1s), (.int 0), (.ref w4)]) _
          refine st8.trans ?_
          show SF p e below T8 (mkF m 49 #[iv p0s, iv p1s, iv 0, iv 1, iv 0, iv 0, .unset, .unset, .unset, .unset, .unset] [(.int 0)]) _
          refine XS.istore X8.here hx rfl (hb hby at_49) rfl (l' := #[iv p0s, iv p1s, iv 0, iv 1, iv 0, iv 0, iv 0, .unset, .unset, .unset, .unset]) rfl ?_
          show SF p e below T8 (mkF m 51 #[iv p0s, iv p1s, iv 0, iv 1, iv 0, iv 0, iv 0, .unset, .unset, .unset, .unset] []) _
          refine XS.iloadN X8.here hx rfl (hb hby at_51) rfl ?_
          show SF p e below T8 (mkF m 52 #[iv p0s, iv p1s, iv 0, iv 1, iv 0, iv 0, iv 0, .unset, .unset, .unset, .unset] [(.int 1)]) _
          refine XS.iloadN X8.here hx rfl (hb hby at_52) rfl ?_
          show SF p e below T8 (mkF m 53 #[iv p0s, iv p1s, iv 0, iv 1, iv 0, iv 0, iv 0, .unset, .unset, .unset, .unset] [(.int 0), (.int 1)]) _
          refine XS.ifNo X8.here hx rfl (hb hby at_53) rfl ((if0 _ _).trans (teq (by decide : (0 : Int32) = (0 : Int32))).2) ?_
          show SF p e below T8 (mkF m 56 #[iv p0s, iv p1s, iv 0, iv 1, iv 0, iv 0, iv 0, .unset, .unset, .unset, .unset] [(.int 1)]) _
          refine XS.iconst X8.here hx rfl (hb hby at_56) ?_
          show SF p e below T8 (mkF m 57 #[iv p0s, iv p1s, iv 0, iv 1, iv 0, iv 0, iv 0, .unset, .unset, .unset, .unset] [(.int 1), (.int 1)]) _
          refine XS.goto X8.here hx rfl (pc0 := 57) (pc' := 61) rfl (hb hby at_57) (by decide) (by decide) ?_
          show SF p e below T8 (mkF m 61 #[iv p0s, iv p1s, iv 0, iv 1, iv 0, iv 0, iv 0, .unset, .unset, .unset, .unset] [(.int 1), (.int 1)]) _
          refine XS.icmpNo X8.here hx rfl (hb hby at_61) rfl (teq (by decide : (1 : Int32) = (1 : Int32))).2 ?_
          show SF p e below T8 (mkF m 64 #[iv p0s, iv p1s, iv 0, iv 1, iv 0, iv 0, iv 0, .unset, .unset, .unset, .unset] []) _
          refine XS.iconst X8.here hx rfl (hb hby at_64) ?_
          show SF p e below T8 (mkF m 65 #[iv p0s, iv p1s, iv 0, iv 1, iv 0, iv 0, iv 0, .unset, .unset, .unset, .unset] [(.int 1)]) _
          refine XS.goto X8.here hx rfl (pc0 := 65) (pc' := 69) rfl (hb hby at_65) (by decide) (by decide) ?_
          show SF p e below T8 (mkF m 69 #[iv p0s, iv p1s, iv 0, iv 1, iv 0, iv 0, iv 0, .unset, .unset, .unset, .unset] [(.int 1)]) _
          refine XS.istore X8.here hx rfl (hb hby at_69) rfl (l' := #[iv p0s, iv p1s, iv 0, iv 1, iv 0, iv 0, iv 0, iv 1, .unset, .unset, .unset]) rfl ?_
          show SF p e below T8 (mkF m 71 #[iv p0s, iv p1s, iv 0, iv 1, iv 0, iv 0, iv 0, iv 1, .unset, .unset, .unset] []) _
          refine XS.iload X8.here hx rfl (hb hby at_71) rfl ?_
          show SF p e below T8 (mkF m 73 #[iv p0s, iv p1s, iv 0, iv 1, iv 0, iv 0, iv 0, iv 1, .unset, .unset, .unset] [(.int 0)]) _
          refine XS.iloadN X8.here hx rfl (hb hby at_73) rfl ?_
          show SF p e below T8 (mkF m 74 #[iv p0s, iv p1s, iv 0, iv 1, iv 0, iv 0, iv 0, iv 1, .unset, .unset, .unset] [(.int 0), (.int 0)]) _
          refine XS.icmpNo X8.here hx rfl (hb hby at_74) rfl (teq (by decide : (0 : Int32) = (0 : Int32))).2 ?_
          show SF p e below T8 (mkF m 77 #[iv p0s, iv p1s, iv 0, iv 1, iv 0, iv 0, iv 0, iv 1, .unset, .unset, .unset] []) _
          refine XS.iconst X8.here hx rfl (hb hby at_77) ?_
          show SF p e below T8 (mkF m 78 #[iv p0s, iv p1s, iv 0, iv 1, iv 0, iv 0, iv 0, iv 1, .unset, .unset, .unset] [(.int 1)]) _
          refine XS.goto X8.here hx rfl (pc0 := 78) (pc' := 82) rfl (hb hby at_78) (by decide) (by decide) ?_
          show SF p e below T8 (mkF m 82 #[iv p0s, iv p1s, iv 0, iv 1, iv 0, iv 0, iv 0, iv 1, .unset, .unset, .unset] [(.int 1)]) _
          refine XS.istore X8.here hx rfl (hb hby at_82) rfl (l' := #[iv p0s, iv p1s, iv 0, iv 1, iv 0, iv 0, iv 0, iv 1, iv 1, .unset, .unset]) rfl ?_
          show SF p e below T8 (mkF m 84 #[iv p0s, iv p1s, iv 0, iv 1, iv 0, iv 0, iv 0, iv 1, iv 1, .unset, .unset] []) _
          refine XS.iload X8.here hx rfl (hb hby at_84) rfl ?_
          show SF p e below T8 (mkF m 86 #[iv p0s, iv p1s, iv 0, iv 1, iv 0, iv 0, iv 0, iv 1, iv 1, .unset, .unset] [(.int 0)]) _
          refine XS.iloadN X8.here hx rfl (hb hby at_86) rfl ?_
          show SF p e below T8 (mkF m 87 #[iv p0s, iv p1s, iv 0, iv 1, iv 0, iv 0, iv 0, iv 1, iv 1, .unset, .unset] [(.int p1s), (.int 0)]) _
          refine XS.ifYes X8.here hx rfl (pc0 := 87) (pc' := 94) rfl (hb hby at_87) rfl ((if0 _ _).trans (flt hc2).2.2.2) (by decide) (by decide) ?_
          show SF p e below T8 (mkF m 94 #[iv p0s, iv p1s, iv 0, iv 1, iv 0, iv 0, iv 0, iv 1, iv 1, .unset, .unset] [(.int 0)]) _
          refine XS.iconst X8.here hx rfl (hb hby at_94) ?_
          show SF p e below T8 (mkF m 95 #[iv p0s, iv p1s, iv 0, iv 1, iv 0, iv 0, iv 0, iv 1, iv 1, .unset, .unset] [(.int 0), (.int 0)]) _
          refine XS.icmpNo X8.here hx rfl (hb hby at_95) rfl (teq (by decide : (0 : Int32) = (0 : Int32))).2 ?_
          show SF p e below T8 (mkF m 98 #[iv p0s, iv p1s, iv 0, iv 1, iv 0, iv 0, iv 0, iv 1, iv 1, .unset, .unset] []) _
          refine XS.iconst X8.here hx rfl (hb hby at_98) ?_
          show SF p e below T8 (mkF m 99 #[iv p0s, iv p1s, iv 0, iv 1, iv 0, iv 0, iv 0, iv 1, iv 1, .unset, .unset] [(.int 1)]) _
          refine XS.goto X8.here hx rfl (pc0 := 99) (pc' := 103) rfl (hb hby at_99) (by decide) (by decide) ?_
          show SF p e below T8 (mkF m 103 #[iv p0s, iv p1s, iv 0, iv 1, iv 0, iv 0, iv 0, iv 1, iv 1, .unset, .unset] [(.int 1)]) _
          refine XS.istore X8.here hx rfl (hb hby at_103) rfl (l' := #[iv p0s, iv p1s, iv 0, iv 1, iv 0, iv 0, iv 0, iv 1, iv 1, iv 1, .unset]) rfl ?_
          show SF p e below T8 (mkF m 105 #[iv p0s, iv p1s, iv 0, iv 1, iv 0, iv 0, iv 0, iv 1, iv 1, iv 1, .unset] []) _
          refine XS.iload X8.here hx rfl (hb hby at_105) rfl ?_
          show SF p e below T8 (mkF m 107 #[iv p0s, iv p1s, iv 0, iv 1, iv 0, iv 0, iv 0, iv 1, iv 1, iv 1, .unset] [(.int 0)]) _
          refine XS.iloadN X8.here hx rfl (hb hby at_107) rfl ?_
          show SF p e below T8 (mkF m 108 #[iv p0s, iv p1s, iv 0, iv 1, iv 0, iv 0, iv 0, iv 1, iv 1, iv 1, .unset] [(.int p1s), (.int 0)]) _
          refine XS.ifYes X8.here hx rfl (pc0 := 108) (pc' := 115) rfl (hb hby at_108) rfl ((if0 _ _).trans (flt hc3).2.1) (by decide) (by decide) ?_
          show SF p e below T8 (mkF m 115 #[iv p0s, iv p1s, iv 0, iv 1, iv 0, iv 0, iv 0, iv 1, iv 1, iv 1, .unset] [(.int 0)]) _
          refine XS.iconst X8.here hx rfl (hb hby at_115) ?_
          show SF p e below T8 (mkF m 116 #[iv p0s, iv p1s, iv 0, iv 1, iv 0, iv 0, iv 0, iv 1, iv 1, iv 1, .unset] [(.int 0), (.int 0)]) _
          refine XS.icmpNo X8.here hx rfl (hb hby at_116) rfl (teq (by decide : (0 : Int32) = (0 : Int32))).2 ?_
          show SF p e below T8 (mkF m 119 #[iv p0s, iv p1s, iv 0, iv 1, iv 0, iv 0, iv 0, iv 1, iv 1, iv 1, .unset] []) _
          refine XS.iconst X8.here hx rfl (hb hby at_119) ?_
          show SF p e below T8 (mkF m 120 #[iv p0s, iv p1s, iv 0, iv 1, iv 0, iv 0, iv 0, iv 1, iv 1, iv 1, .unset] [(.int 1)]) _
          refine XS.goto X8.here hx rfl (pc0 := 120) (pc' := 124) rfl (hb hby at_120) (by decide) (by decide) ?_
          show SF p e below T8 (mkF m 124 #[iv p0s, iv p1s, iv 0, iv 1, iv 0, iv 0, iv 0, iv 1, iv 1, iv 1, .unset] [(.int 1)]) _
          refine XS.istore X8.here hx rfl (hb hby at_124) rfl (l' := #[iv p0s, iv p1s, iv 0, iv 1, iv 0, iv 0, iv 0, iv 1, iv 1, iv 1, iv 1]) rfl ?_
          show SF p e below T8 (mkF m 126 #[iv p0s, iv p1s, iv 0, iv 1, iv 0, iv 0, iv 0, iv 1, iv 1, iv 1, iv 1] []) _
          refine XS.iload X8.here hx rfl (hb hby at_126) rfl ?_
          show SF p e below T8 (mkF m 128 #[iv p0s, iv p1s, iv 0, iv 1, iv 0, iv 0, iv 0, iv 1, iv 1, iv 1, iv 1] [(.int 1)]) _
          refine XS.ifNo X8.here hx rfl (hb hby at_128) rfl ((if0 _ _).trans (feq (by decide : ¬ ((1 : Int32) = (0 : Int32)))).1) ?_
          show SF p e below T8 (mkF m 131 #[iv p0s, iv p1s, iv 0, iv 1, iv 0, iv 0, iv 0, iv 1, iv 1, iv 1, iv 1] []) _
          refine XS.iload X8.here hx rfl (hb hby at_131) rfl ?_
          show SF p e below T8 (mkF m 133 #[iv p0s, iv p1s, iv 0, iv 1, iv 0, iv 0, iv 0, iv 1, iv 1, iv 1, iv 1] [(.int 1)]) _
          refine XS.ifNo X8.here hx rfl (hb hby at_133) rfl ((if0 _ _).trans (feq (by decide : ¬ ((1 : Int32) = (0 : Int32)))).1) ?_
          show SF p e below T8 (mkF m 136 #[iv p0s, iv p1s, iv 0, iv 1, iv 0, iv 0, iv 0, iv 1, iv 1, iv 1, iv 1] []) _
          refine XS.iload X8.here hx rfl (hb hby at_136) rfl ?_
          show SF p e below T8 (mkF m 138 #[iv p0s, iv p1s, iv 0, iv 1, iv 0, iv 0, iv 0, iv 1, iv 1, iv 1, iv 1] [(.int 1)]) _
          refine XS.ifNo X8.here hx rfl (hb hby at_138) rfl ((if0 _ _).trans (feq (by decide : ¬ ((1 : Int32) = (0 : Int32)))).1) ?_
          show SF p e below T8 (mkF m 141 #[iv p0s, iv p1s, iv 0, iv 1, iv 0, iv 0, iv 0, iv 1, iv 1, iv 1, iv 1] []) _
          refine XS.iload X8.here hx rfl (hb hby at_141) rfl ?_
          show SF p e below T8 (mkF m 143 #[iv p0s, iv p1s, iv 0, iv 1, iv 0, iv 0, iv 0, iv 1, iv 1, iv 1, iv 1] [(.int 1)]) _
          refine XS.ifNo X8.here hx rfl (hb hby at_143) rfl ((if0 _ _).trans (feq (by decide : ¬ ((1 : Int32) = (0 : Int32)))).1) ?_
          show SF p e below T8 (mkF m 146 #[iv p0s, iv p1s, iv 0, iv 1, iv 0, iv 0, iv 0, iv 1, iv 1, iv 1, iv 1] []) _
          refine XS.iconst X8.here hx rfl (hb hby at_146) ?_
          show SF p e below T8 (mkF m 147 #[iv p0s, iv p1s, iv 0, iv 1, iv 0, iv 0, iv 0, iv 1, iv 1, iv 1, iv 1] [(.int 1)]) _
          refine XS.goto X8.here hx rfl (pc0 := 147) (pc' := 151) rfl (hb hby at_147) (by decide) (by decide) ?_
          show SF p e below T8 (mkF m 151 #[iv p0s, iv p1s, iv 0, iv 1, iv 0, iv 0, iv 0, iv 1, iv 1, iv 1, iv 1] [(.int 1)]) _
          exact retN X8 hx (t := .boolean) hre (by simp) (hb hby at_151) hr
        · exact ⟨rfl, N8⟩
  · obtain ⟨T1, X1, e1, st1⟩ := getS2 X0 hx hZ hown (host := "") (Or.inl (tw hw 0 rfl)) Via.refl e0 (S0.ext O0.2) (g := (mkF m 12 #[iv p0s, iv p1s, iv 1, .unset, .unset, .unset, .unset, .unset, .unset, .unset, .unset] [])) rfl (hb hby at_12)
    obtain ⟨cq2, kq2, q2a, q2b, q2c⟩ := isOf hZ e1 (E_w1.ext O0.2)
    obtain ⟨_, _, ⟨T2, L2, k2x, n2⟩, -, X2, ⟨Lc2, hQ2, l2, y2, z2⟩, st2⟩ := X1.virtualBack hx (y := (⟨"com/example/afterlog/afterlog/Condition", "admits", "(ZI)Z"⟩ : MethodName)) (z := (⟨"com/example/afterlog/afterlog/Condition", "admits", "(ZI)Z"⟩ : MethodName)) hown (mvT hZ (tw hw 3 rfl)) (mvT hZ (tw hw 4 rfl)) (notFace_of_selects (args := #[]) (mvT hZ (tw hw 6 rfl))) (mvT hZ (tw hw 6 rfl)) (mvT hZ (tw hw 5 rfl)) (by decide) (backOf (W := 0) (rm1_11 l Z a0 hw [] w1 p1s h0 n0 Z0 E_w1 O0 F_w1_ordinal) hZ (tw hw 7 rfl) (tw hw 1 rfl) (by decide) (by decide)) q2a q2c (g := (mkF m 17 #[iv p0s, iv p1s, iv 1, .unset, .unset, .unset, .unset, .unset, .unset, .unset, .unset] [(.int p1s), (.int 1), (.ref w1)])) rfl (by rw [hml]; rfl) (Steps.refl _) (argsL := [(.int 1), (.int p1s)]) (rest := []) (lenOf pd_1 rfl) rfl (by show 2 * 0 + _ ≤ _; exact Nat.le_of_eq rfl) (hb hby at_17) (fun _ _ => ⟨rfl, e1, (by decide : 0 + 0 ≤ _), (by decide : 0 + 0 ≤ _)⟩)
    dsimp only [Pt.U, Pt.locs, Pt.cells, Pt.slots] at X2 l2 y2 z2 st2 hQ2
    subst l2 y2 z2
    obtain ⟨rfl, N2q, e2⟩ := hQ2
    have N2 := Fr.app N0 N2q
    obtain ⟨T3, X3, e3, st3⟩ := getS2 X2 hx hZ hown (host := "") (Or.inl (tw hw 17 rfl)) Via.refl e2 (S2.ext O0.2) (g := (mkF m 21 #[iv p0s, iv p1s, iv 1, iv 0, .unset, .unset, .unset, .unset, .unset, .unset, .unset] [])) rfl (hb hby at_21)
    obtain ⟨cq4, kq4, q4a, q4b, q4c⟩ := isOf hZ e3 (E_w2.ext O0.2)
    obtain ⟨_, _, ⟨T4, L4, k4x, n4⟩, -, X4, ⟨Lc4, hQ4, l4, y4, z4⟩, st4⟩ := X3.virtualBack hx (y := (⟨"com/example/afterlog/afterlog/Condition", "admits", "(ZI)Z"⟩ : MethodName)) (z := (⟨"com/example/afterlog/afterlog/Condition", "admits", "(ZI)Z"⟩ : MethodName)) hown (mvT hZ (tw hw 3 rfl)) (mvT hZ (tw hw 4 rfl)) (notFace_of_selects (args := #[]) (mvT hZ (tw hw 6 rfl))) (mvT hZ (tw hw 6 rfl)) (mvT hZ (tw hw 5 rfl)) (by decide) (backOf (W := 0) (rm1_12 l Z a0 hw [] w2 p1s h0 n0 Z0 E_w2 O0 F_w2_ordinal) hZ (tw hw 7 rfl) (tw hw 1 rfl) (by decide) (by decide)) q4a q4c (g := (mkF m 26 #[iv p0s, iv p1s, iv 1, iv 0, .unset, .unset, .unset, .unset, .unset, .unset, .unset] [(.int p1s), (.int 1), (.ref w2)])) rfl (by rw [hml]; rfl) (Steps.refl _) (argsL := [(.int 1), (.int p1s)]) (rest := []) (lenOf pd_1 rfl) rfl (by show 2 * 0 + _ ≤ _; exact Nat.le_of_eq rfl) (hb hby at_26) (fun _ _ => ⟨rfl, e3, (by decide : 0 + 0 ≤ _), (by decide : 0 + 0 ≤ _)⟩)
    dsimp only [Pt.U, Pt.locs, Pt.cells, Pt.slots] at X4 l4 y4 z4 st4 hQ4
    subst l4 y4 z4
    obtain ⟨rfl, N4q, e4⟩ := hQ4
    have N4 := Fr.app N2 N4q
    obtain ⟨T5, X5, e5, st5⟩ := getS2 X4 hx hZ hown (host := "") (Or.inl (tw hw 19 rfl)) Via.refl e4 (S4.ext O0.2) (g := (mkF m 31 #[iv p0s, iv p1s, iv 1, iv 0, iv 1, .unset, .unset, .unset, .unset, .unset, .unset] [])) rfl (hb hby at_31)
    have pre2 : ∀ t, SF p e below T5 (mkF m 36 #[iv p0s, iv p1s, iv 1, iv 0, iv 1, .unset, .unset, .unset, .unset, .unset, .unset] [(.int p1s), (.int 1), (.ref w3)]) t → SF p e below s₁ (mkF m 3 #[iv p0s, iv p1s, .unset, .unset, .unset, .unset, .unset, .unset, .unset, .unset, .unset] [(.int (p0s &&& (1 : Int32)))]) t := fun t k => by
      show SF p e below s₁ (mkF m 3 #[iv p0s, iv p1s, .unset, .unset, .unset, .unset, .unset, .unset, .unset, .unset, .unset] [(.int (p0s &&& (1 : Int32)))]) _
      refine XS.ifNo X0.here hx rfl (hb hby at_3) rfl ((if0 _ _).trans (feq hc1).1) ?_
      show SF p e below s₁ (mkF m 6 #[iv p0s, iv p1s, .unset, .unset, .unset, .unset, .unset, .unset, .unset, .unset, .unset] []) _
      refine XS.iconst X0.here hx rfl (hb hby at_6) ?_
      show SF p e below s₁ (mkF m 7 #[iv p0s, iv p1s, .unset, .unset, .unset, .unset, .unset, .unset, .unset, .unset, .unset] [(.int 1)]) _
      refine XS.goto X0.here hx rfl (pc0 := 7) (pc' := 11) rfl (hb hby at_7) (by decide) (by decide) ?_
      show SF p e below s₁ (mkF m 11 #[iv p0s, iv p1s, .unset, .unset, .unset, .unset, .unset, .unset, .unset, .unset, .unset] [(.int 1)]) _
      refine XS.istoreN X0.here hx rfl (hb hby at_11) rfl (l' := #[iv p0s, iv p1s, iv 1, .unset, .unset, .unset, .unset, .unset, .unset, .unset, .unset]) rfl ?_
      show SF p e below s₁ (mkF m 12 #[iv p0s, iv p1s, iv 1, .unset, .unset, .unset, .unset, .unset, .unset, .unset, .unset] []) _
      refine st1 _ ?_
      show SF p e below T1 (mkF m 15 #[iv p0s, iv p1s, iv 1, .unset, .unset, .unset, .unset, .unset, .unset, .unset, .unset] [(.ref w1)]) _
      refine XS.iloadN X1.here hx rfl (hb hby at_15) rfl ?_
      show SF p e below T1 (mkF m 16 #[iv p0s, iv p1s, iv 1, .unset, .unset, .unset, .unset, .unset, .unset, .unset, .unset] [(.int 1), (.ref w1)]) _
      refine XS.iloadN X1.here hx rfl (hb hby at_16) rfl ?_
      show SF p e below T1 (mkF m 17 #[iv p0s, iv p1s, iv 1, .unset, .unset, .unset, .unset, .unset, .unset, .unset, .unset] [(.int p1s), (.int 1), (.ref w1)]) _
      refine st2.trans ?_
      show SF p e below T2 (mkF m 20 #[iv p0s, iv p1s, iv 1, .unset, .unset, .unset, .unset, .unset, .unset, .unset, .unset] [(.int 0)]) _
      refine XS.istoreN X2.here hx rfl (hb hby at_20) rfl (l' := #[iv p0s, iv p1s, iv 1, iv 0, .unset, .unset, .unset, .unset, .unset, .unset, .unset]) rfl ?_
      show SF p e below T2 (mkF m 21 #[iv p0s, iv p1s, iv 1, iv 0, .unset, .unset, .unset, .unset, .unset, .unset, .unset] []) _
      refine st3 _ ?_
      show SF p e below T3 (mkF m 24 #[iv p0s, iv p1s, iv 1, iv 0, .unset, .unset, .unset, .unset, .unset, .unset, .unset] [(.ref w2)]) _
      refine XS.iloadN X3.here hx rfl (hb hby at_24) rfl ?_
      show SF p e below T3 (mkF m 25 #[iv p0s, iv p1s, iv 1, iv 0, .unset, .unset, .unset, .unset, .unset, .unset, .unset] [(.int 1), (.ref w2)]) _
      refine XS.iloadN X3.here hx rfl (hb hby at_25) rfl ?_
      show SF p e below T3 (mkF m 26 #[iv p0s, iv p1s, iv 1, iv 0, .unset, .unset, .unset, .unset, .unset, .unset, .unset] [(.int p1s), (.int 1), (.ref w2)]) _
      refine st4.trans ?_
      show SF p e below T4 (mkF m 29 #[iv p0s, iv p1s, iv 1, iv 0, .unset, .unset, .unset, .unset, .unset, .unset, .unset] [(.int 1)]) _
      refine XS.istore X4.here hx rfl (hb hby at_29) rfl (l' := #[iv p0s, iv p1s, iv 1, iv 0, iv 1, .unset, .unset, .unset, .unset, .unset, .unset]) rfl ?_
      show SF p e below T4 (mkF m 31 #[iv p0s, iv p1s, iv 1, iv 0, iv 1, .unset, .unset, .unset, .unset, .unset, .unset] []) _
      refine st5 _ ?_
      show SF p e below T5 (mkF m 34 #[iv p0s, iv p1s, iv 1, iv 0, iv 1, .unset, .unset, .unset, .unset, .unset, .unset] [(.ref w3)]) _
      refine XS.iloadN X5.here hx rfl (hb hby at_34) rfl ?_
      show SF p e below T5 (mkF m 35 #[iv p0s, iv p1s, iv 1, iv 0, iv 1, .unset, .unset, .unset, .unset, .unset, .unset] [(.int 1), (.ref w3)]) _
      refine XS.iloadN X5.here hx rfl (hb hby at_35) rfl ?_
      exact k
    by_cases hc2 : (0 : Int32) < p1s
    · obtain ⟨cq6, kq6, q6a, q6b, q6c⟩ := isOf hZ e5 (E_w3.ext O0.2)
      obtain ⟨_, _, ⟨T6, L6, k6x, n6⟩, -, X6, ⟨Lc6, hQ6, l6, y6, z6⟩, st6⟩ := X5.virtualBack hx (y := (⟨"com/example/afterlog/afterlog/Condition", "admits", "(ZI)Z"⟩ : MethodName)) (z := (⟨"com/example/afterlog/afterlog/Condition", "admits", "(ZI)Z"⟩ : MethodName)) hown (mvT hZ (tw hw 3 rfl)) (mvT hZ (tw hw 4 rfl)) (notFace_of_selects (args := #[]) (mvT hZ (tw hw 6 rfl))) (mvT hZ (tw hw 6 rfl)) (mvT hZ (tw hw 5 rfl)) (by decide) (backOf (W := 0) (rm1_13 l Z a0 hw [] w3 p1s h0 n0 Z0 E_w3 O0 F_w3_ordinal hc2) hZ (tw hw 7 rfl) (tw hw 1 rfl) (by decide) (by decide)) q6a q6c (g := (mkF m 36 #[iv p0s, iv p1s, iv 1, iv 0, iv 1, .unset, .unset, .unset, .unset, .unset, .unset] [(.int p1s), (.int 1), (.ref w3)])) rfl (by rw [hml]; rfl) (Steps.refl _) (argsL := [(.int 1), (.int p1s)]) (rest := []) (lenOf pd_1 rfl) rfl (by show 2 * 0 + _ ≤ _; exact Nat.le_of_eq rfl) (hb hby at_36) (fun _ _ => ⟨rfl, e5, (by decide : 0 + 0 ≤ _), (by decide : 0 + 0 ≤ _)⟩)
      dsimp only [Pt.U, Pt.locs, Pt.cells, Pt.slots] at X6 l6 y6 z6 st6 hQ6
      subst l6 y6 z6
      obtain ⟨rfl, N6q, e6⟩ := hQ6
      have N6 := Fr.app N4 N6q
      obtain ⟨T7, X7, e7, st7⟩ := getS2 X6 hx hZ hown (host := "") (Or.inl (tw hw 21 rfl)) Via.refl e6 (S6.ext O0.2) (g := (mkF m 41 #[iv p0s, iv p1s, iv 1, iv 0, iv 1, iv 1, .unset, .unset, .unset, .unset, .unset] [])) rfl (hb hby at_41)
      have pre3 : ∀ t, SF p e below T7 (mkF m 46 #[iv p0s, iv p1s, iv 1, iv 0, iv 1, iv 1, .unset, .unset, .unset, .unset, .unset] [(.int p1s), (.int 1), (.ref w4)]) t → SF p e below T5 (mkF m 36 #[iv p0s, iv p1s, iv 1, iv 0, iv 1, .unset, .unset, .unset, .unset, .unset, .unset] [(.int p1s), (.int 1), (.ref w3)]) t := fun t k => by
        show SF p e below T5 (mkF m 36 #[iv p0s, iv p1s, iv 1, iv 0, iv 1, .unset, .unset, .unset, .unset, .unset, .unset] [(.int p1s), (.int 1), (.ref w3)]) _
        refine st6.trans ?_
        show SF p e below T6 (mkF m 39 #[iv p0s, iv p1s, iv 1, iv 0, iv 1, .unset, .unset, .unset, .unset, .unset, .unset] [(.int 1)]) _
        refine XS.istore X6.here hx rfl (hb hby at_39) rfl (l' := #[iv p0s, iv p1s, iv 1, iv 0, iv 1, iv 1, .unset, .unset, .unset, .unset, .unset]) rfl ?_
        show SF p e below T6 (mkF m 41 #[iv p0s, iv p1s, iv 1, iv 0, iv 1, iv 1, .unset, .unset, .unset, .unset, .unset] []) _
        refine st7 _ ?_
        show SF p e below T7 (mkF m 44 #[iv p0s, iv p1s, iv 1, iv 0, iv 1, iv 1, .unset, .unset, .unset, .unset, .unset] [(.ref w4)]) _
        refine XS.iloadN X7.here hx rfl (hb hby at_44) rfl ?_
        show SF p e below T7 (mkF m 45 #[iv p0s, iv p1s, iv 1, iv 0, iv 1, iv 1, .unset, .unset, .unset, .unset, .unset] [(.int 1), (.ref w4)]) _
        refine XS.iloadN X7.here hx rfl (hb hby at_45) rfl ?_
        exact k
      by_cases hc3 : p1s < (0 : Int32)
      · obtain ⟨cq8, kq8, q8a, q8b, q8c⟩ := isOf hZ e7 (E_w4.ext O0.2)
        obtain ⟨_, _, ⟨T8, L8, k8x, n8⟩, -, X8, ⟨Lc8, hQ8, l8, y8, z8⟩, st8⟩ := X7.virtualBack hx (y := (⟨"com/example/afterlog/afterlog/Condition", "admits", "(ZI)Z"⟩ : MethodName)) (z := (⟨"com/example/afterlog/afterlog/Condition", "admits", "(ZI)Z"⟩ : MethodName)) hown (mvT hZ (tw hw 3 rfl)) (mvT hZ (tw hw 4 rfl)) (notFace_of_selects (args := #[]) (mvT hZ (tw hw 6 rfl))) (mvT hZ (tw hw 6 rfl)) (mvT hZ (tw hw 5 rfl)) (by decide) (backOf (W := 0) (rm1_14 l Z a0 hw [] w4 p1s h0 n0 Z0 E_w4 O0 F_w4_ordinal hc3) hZ (tw hw 7 rfl) (tw hw 1 rfl) (by decide) (by decide)) q8a q8c (g := (mkF m 46 #[iv p0s, iv p1s, iv 1, iv 0, iv 1, iv 1, .unset, .unset, .unset, .unset, .unset] [(.int p1s), (.int 1), (.ref w4)])) rfl (by rw [hml]; rfl) (Steps.refl _) (argsL := [(.int 1), (.int p1s)]) (rest := []) (lenOf pd_1 rfl) rfl (by show 2 * 0 + _ ≤ _; exact Nat.le_of_eq rfl) (hb hby at_46) (fun _ _ => ⟨rfl, e7, (by decide : 0 + 0 ≤ _), (by decide : 0 + 0 ≤ _)⟩)
        dsimp only [Pt.U, Pt.locs, Pt.cells, Pt.slots] at X8 l8 y8 z8 st8 hQ8
        subst l8 y8 z8
        obtain ⟨rfl, N8q, e8⟩ := hQ8
        have N8 := Fr.app N6 N8q
        obtain ⟨fs, hr, hrun, hended, hW, hsame⟩ := X8.leave (v := some (.int (1 : Int32))) (fun h => by rw [hre] at h; cases h)
        refine ⟨_, _, pre0 _ (pre1 _ (pre2 _ (pre3 _ (?_)))), hrun, hended, _, _, rfl, ?_, ⟨_, rfl⟩, hW, hsame.mono (by decide) (by decide)⟩
        · show SF p e below T7 (mkF m 46 #[iv p0s, iv p1s, iv 1, iv 0, iv 1, iv 1, .unset, .unset, .unset, .unset, .unset] [(.int p1s), (.int 1), (.ref w4)]) _
          refine st8.trans ?_
          show SF p e below T8 (mkF m 49 #[iv p0s, iv p1s, iv 1, iv 0, iv 1, iv 1, .unset, .unset, .unset, .unset, .unset] [(.int 1)]) _
          refine XS.istore X8.here hx rfl (hb hby at_49) rfl (l' := #[iv p0s, iv p1s, iv 1, iv 0, iv 1, iv 1, iv 1, .unset, .unset, .unset, .unset]) rfl ?_
          show SF p e below T8 (mkF m 51 #[iv p0s, iv p1s, iv 1, iv 0, iv 1, iv 1, iv 1, .unset, .unset, .unset, .unset] []) _
          refine XS.iloadN X8.here hx rfl (hb hby at_51) rfl ?_
          show SF p e below T8 (mkF m 52 #[iv p0s, iv p1s, iv 1, iv 0, iv 1, iv 1, iv 1, .unset, .unset, .unset, .unset] [(.int 0)]) _
          refine XS.iloadN X8.here hx rfl (hb hby at_52) rfl ?_
          show SF p e below T8 (mkF m 53 #[iv p0s, iv p1s, iv 1, iv 0, iv 1, iv 1, iv 1, .unset, .unset, .unset, .unset] [(.int 1), (.int 0)]) _
          refine XS.ifYes X8.here hx rfl (pc0 := 53) (pc' := 60) rfl (hb hby at_53) rfl ((if0 _ _).trans (feq (by decide : ¬ ((1 : Int32) = (0 : Int32)))).2) (by decide) (by decide) ?_
          show SF p e below T8 (mkF m 60 #[iv p0s, iv p1s, iv 1, iv 0, iv 1, iv 1, iv 1, .unset, .unset, .unset, .unset] [(.int 0)]) _
          refine XS.iconst X8.here hx rfl (hb hby at_60) ?_
          show SF p e below T8 (mkF m 61 #[iv p0s, iv p1s, iv 1, iv 0, iv 1, iv 1, iv 1, .unset, .unset, .unset, .unset] [(.int 0), (.int 0)]) _
          refine XS.icmpNo X8.here hx rfl (hb hby at_61) rfl (teq (by decide : (0 : Int32) = (0 : Int32))).2 ?_
          show SF p e below T8 (mkF m 64 #[iv p0s, iv p1s, iv 1, iv 0, iv 1, iv 1, iv 1, .unset, .unset, .unset, .unset] []) _
          refine XS.iconst X8.here hx rfl (hb hby at_64) ?_
          show SF p e below T8 (mkF m 65 #[iv p0s, iv p1s, iv 1, iv 0, iv 1, iv 1, iv 1, .unset, .unset, .unset, .unset] [(.int 1)]) _
          refine XS.goto X8.here hx rfl (pc0 := 65) (pc' := 69) rfl (hb hby at_65) (by decide) (by decide) ?_
          show SF p e below T8 (mkF m 69 #[iv p0s, iv p1s, iv 1, iv 0, iv 1, iv 1, iv 1, .unset, .unset, .unset, .unset] [(.int 1)]) _
          refine XS.istore X8.here hx rfl (hb hby at_69) rfl (l' := #[iv p0s, iv p1s, iv 1, iv 0, iv 1, iv 1, iv 1, iv 1, .unset, .unset, .unset]) rfl ?_
          show SF p e below T8 (mkF m 71 #[iv p0s, iv p1s, iv 1, iv 0, iv 1, iv 1, iv 1, iv 1, .unset, .unset, .unset] []) _
          refine XS.iload X8.here hx rfl (hb hby at_71) rfl ?_
          show SF p e below T8 (mkF m 73 #[iv p0s, iv p1s, iv 1, iv 0, iv 1, iv 1, iv 1, iv 1, .unset, .unset, .unset] [(.int 1)]) _
          refine XS.iloadN X8.here hx rfl (hb hby at_73) rfl ?_
          show SF p e below T8 (mkF m 74 #[iv p0s, iv p1s, iv 1, iv 0, iv 1, iv 1, iv 1, iv 1, .unset, .unset, .unset] [(.int 1), (.int 1)]) _
          refine XS.icmpNo X8.here hx rfl (hb hby at_74) rfl (teq (by decide : (1 : Int32) = (1 : Int32))).2 ?_
          show SF p e below T8 (mkF m 77 #[iv p0s, iv p1s, iv 1, iv 0, iv 1, iv 1, iv 1, iv 1, .unset, .unset, .unset] []) _
          refine XS.iconst X8.here hx rfl (hb hby at_77) ?_
          show SF p e below T8 (mkF m 78 #[iv p0s, iv p1s, iv 1, iv 0, iv 1, iv 1, iv 1, iv 1, .unset, .unset, .unset] [(.int 1)]) _
          refine XS.goto X8.here hx rfl (pc0 := 78) (pc' := 82) rfl (hb hby at_78) (by decide) (by decide) ?_
          show SF p e below T8 (mkF m 82 #[iv p0s, iv p1s, iv 1, iv 0, iv 1, iv 1, iv 1, iv 1, .unset, .unset, .unset] [(.int 1)]) _
          refine XS.istore X8.here hx rfl (hb hby at_82) rfl (l' := #[iv p0s, iv p1s, iv 1, iv 0, iv 1, iv 1, iv 1, iv 1, iv 1, .unset, .unset]) rfl ?_
          show SF p e below T8 (mkF m 84 #[iv p0s, iv p1s, iv 1, iv 0, iv 1, iv 1, iv 1, iv 1, iv 1, .unset, .unset] []) _
          refine XS.iload X8.here hx rfl (hb hby at_84) rfl ?_
          show SF p e below T8 (mkF m 86 #[iv p0s, iv p1s, iv 1, iv 0, iv 1, iv 1, iv 1, iv 1, iv 1, .unset, .unset] [(.int 1)]) _
          refine XS.iloadN X8.here hx rfl (hb hby at_86) rfl ?_
          show SF p e below T8 (mkF m 87 #[iv p0s, iv p1s, iv 1, iv 0, iv 1, iv 1, iv 1, iv 1, iv 1, .unset, .unset] [(.int p1s), (.int 1)]) _
          refine XS.ifNo X8.here hx rfl (hb hby at_87) rfl ((if0 _ _).trans (tlt hc2).2.2.2) ?_
          show SF p e below T8 (mkF m 90 #[iv p0s, iv p1s, iv 1, iv 0, iv 1, iv 1, iv 1, iv 1, iv 1, .unset, .unset] [(.int 1)]) _
          refine XS.iconst X8.here hx rfl (hb hby at_90) ?_
          show SF p e below T8 (mkF m 91 #[iv p0s, iv p1s, iv 1, iv 0, iv 1, iv 1, iv 1, iv 1, iv 1, .unset, .unset] [(.int 1), (.int 1)]) _
          refine XS.goto X8.here hx rfl (pc0 := 91) (pc' := 95) rfl (hb hby at_91) (by decide) (by decide) ?_
          show SF p e below T8 (mkF m 95 #[iv p0s, iv p1s, iv 1, iv 0, iv 1, iv 1, iv 1, iv 1, iv 1, .unset, .unset] [(.int 1), (.int 1)]) _
          refine XS.icmpNo X8.here hx rfl (hb hby at_95) rfl (teq (by decide : (1 : Int32) = (1 : Int32))).2 ?_
          show SF p e below T8 (mkF m 98 #[iv p0s, iv p1s, iv 1, iv 0, iv 1, iv 1, iv 1, iv 1, iv 1, .unset, .unset] []) _
          refine XS.iconst X8.here hx rfl (hb hby at_98) ?_
          show SF p e below T8 (mkF m 99 #[iv p0s, iv p1s, iv 1, iv 0, iv 1, iv 1, iv 1, iv 1, iv 1, .unset, .unset] [(.int 1)]) _
          refine XS.goto X8.here hx rfl (pc0 := 99) (pc' := 103) rfl (hb hby at_99) (by decide) (by decide) ?_
          show SF p e below T8 (mkF m 103 #[iv p0s, iv p1s, iv 1, iv 0, iv 1, iv 1, iv 1, iv 1, iv 1, .unset, .unset] [(.int 1)]) _
          refine XS.istore X8.here hx rfl (hb hby at_103) rfl (l' := #[iv p0s, iv p1s, iv 1, iv 0, iv 1, iv 1, iv 1, iv 1, iv 1, iv 1, .unset]) rfl ?_
          show SF p e below T8 (mkF m 105 #[iv p0s, iv p1s, iv 1, iv 0, iv 1, iv 1, iv 1, iv 1, iv 1, iv 1, .unset] []) _
          refine XS.iload X8.here hx rfl (hb hby at_105) rfl ?_
          show SF p e below T8 (mkF m 107 #[iv p0s, iv p1s, iv 1, iv 0, iv 1, iv 1, iv 1, iv 1, iv 1, iv 1, .unset] [(.int 1)]) _
          refine XS.iloadN X8.here hx rfl (hb hby at_107) rfl ?_
          show SF p e below T8 (mkF m 108 #[iv p0s, iv p1s, iv 1, iv 0, iv 1, iv 1, iv 1, iv 1, iv 1, iv 1, .unset] [(.int p1s), (.int 1)]) _
          refine XS.ifNo X8.here hx rfl (hb hby at_108) rfl ((if0 _ _).trans (tlt hc3).2.1) ?_
          show SF p e below T8 (mkF m 111 #[iv p0s, iv p1s, iv 1, iv 0, iv 1, iv 1, iv 1, iv 1, iv 1, iv 1, .unset] [(.int 1)]) _
          refine XS.iconst X8.here hx rfl (hb hby at_111) ?_
          show SF p e below T8 (mkF m 112 #[iv p0s, iv p1s, iv 1, iv 0, iv 1, iv 1, iv 1, iv 1, iv 1, iv 1, .unset] [(.int 1), (.int 1)]) _
          refine XS.goto X8.here hx rfl (pc0 := 112) (pc' := 116) rfl (hb hby at_112) (by decide) (by decide) ?_
          show SF p e below T8 (mkF m 116 #[iv p0s, iv p1s, iv 1, iv 0, iv 1, iv 1, iv 1, iv 1, iv 1, iv 1, .unset] [(.int 1), (.int 1)]) _
          refine XS.icmpNo X8.here hx rfl (hb hby at_116) rfl (teq (by decide : (1 : Int32) = (1 : Int32))).2 ?_
          show SF p e below T8 (mkF m 119 #[iv p0s, iv p1s, iv 1, iv 0, iv 1, iv 1, iv 1, iv 1, iv 1, iv 1, .unset] []) _
          refine XS.iconst X8.here hx rfl (hb hby at_119) ?_
          show SF p e below T8 (mkF m 120 #[iv p0s, iv p1s, iv 1, iv 0, iv 1, iv 1, iv 1, iv 1, iv 1, iv 1, .unset] [(.int 1)]) _
          refine XS.goto X8.here hx rfl (pc0 := 120) (pc' := 124) rfl (hb hby at_120) (by decide) (by decide) ?_
          show SF p e below T8 (mkF m 124 #[iv p0s, iv p1s, iv 1, iv 0, iv 1, iv 1, iv 1, iv 1, iv 1, iv 1, .unset] [(.int 1)]) _
          refine XS.istore X8.here hx rfl (hb hby at_124) rfl (l' := #[iv p0s, iv p1s, iv 1, iv 0, iv 1, iv 1, iv 1, iv 1, iv 1, iv 1, iv 1]) rfl ?_
          show SF p e below T8 (mkF m 126 #[iv p0s, iv p1s, iv 1, iv 0, iv 1, iv 1, iv 1, iv 1, iv 1, iv 1, iv 1] []) _
          refine XS.iload X8.here hx rfl (hb hby at_126) rfl ?_
          show SF p e below T8 (mkF m 128 #[iv p0s, iv p1s, iv 1, iv 0, iv 1, iv 1, iv 1, iv 1, iv 1, iv 1, iv 1] [(.int 1)]) _
          refine XS.ifNo X8.here hx rfl (hb hby at_128) rfl ((if0 _ _).trans (feq (by decide : ¬ ((1 : Int32) = (0 : Int32)))).1) ?_
          show SF p e below T8 (mkF m 131 #[iv p0s, iv p1s, iv 1, iv 0, iv 1, iv 1, iv 1, iv 1, iv 1, iv 1, iv 1] []) _
          refine XS.iload X8.here hx rfl (hb hby at_131) rfl ?_
          show SF p e below T8 (mkF m 133 #[iv p0s, iv p1s, iv 1, iv 0, iv 1, iv 1, iv 1, iv 1, iv 1, iv 1, iv 1] [(.int 1)]) _
          refine XS.ifNo X8.here hx rfl (hb hby at_133) rfl ((if0 _ _).trans (feq (by decide : ¬ ((1 : Int32) = (0 : Int32)))).1) ?_
          show SF p e below T8 (mkF m 136 #[iv p0s, iv p1s, iv 1, iv 0, iv 1, iv 1, iv 1, iv 1, iv 1, iv 1, iv 1] []) _
          refine XS.iload X8.here hx rfl (hb hby at_136) rfl ?_
          show SF p e below T8 (mkF m 138 #[iv p0s, iv p1s, iv 1, iv 0, iv 1, iv 1, iv 1, iv 1, iv 1, iv 1, iv 1] [(.int 1)]) _
          refine XS.ifNo X8.here hx rfl (hb hby at_138) rfl ((if0 _ _).trans (feq (by decide : ¬ ((1 : Int32) = (0 : Int32)))).1) ?_
          show SF p e below T8 (mkF m 141 #[iv p0s, iv p1s, iv 1, iv 0, iv 1, iv 1, iv 1, iv 1, iv 1, iv 1, iv 1] []) _
          refine XS.iload X8.here hx rfl (hb hby at_141) rfl ?_
          show SF p e below T8 (mkF m 143 #[iv p0s, iv p1s, iv 1, iv 0, iv 1, iv 1, iv 1, iv 1, iv 1, iv 1, iv 1] [(.int 1)]) _
          refine XS.ifNo X8.here hx rfl (hb hby at_143) rfl ((if0 _ _).trans (feq (by decide : ¬ ((1 : Int32) = (0 : Int32)))).1) ?_
          show SF p e below T8 (mkF m 146 #[iv p0s, iv p1s, iv 1, iv 0, iv 1, iv 1, iv 1, iv 1, iv 1, iv 1, iv 1] []) _
          refine XS.iconst X8.here hx rfl (hb hby at_146) ?_
          show SF p e below T8 (mkF m 147 #[iv p0s, iv p1s, iv 1, iv 0, iv 1, iv 1, iv 1, iv 1, iv 1, iv 1, iv 1] [(.int 1)]) _
          refine XS.goto X8.here hx rfl (pc0 := 147) (pc' := 151) rfl (hb hby at_147) (by decide) (by decide) ?_
          show SF p e below T8 (mkF m 151 #[iv p0s, iv p1s, iv 1, iv 0, iv 1, iv 1, iv 1, iv 1, iv 1, iv 1, iv 1] [(.int 1)]) _
          exact retN X8 hx (t := .boolean) hre (by simp) (hb hby at_151) hr
        · exact ⟨rfl, N8⟩
      · obtain ⟨cq8, kq8, q8a, q8b, q8c⟩ := isOf hZ e7 (E_w4.ext O0.2)
        obtain ⟨_, _, ⟨T8, L8, k8x, n8⟩, -, X8, ⟨Lc8, hQ8, l8, y8, z8⟩, st8⟩ := X7.virtualBack hx (y := (⟨"com/example/afterlog/afterlog/Condition", "admits", "(ZI)Z"⟩ : MethodName)) (z := (⟨"com/example/afterlog/afterlog/Condition", "admits", "(ZI)Z"⟩ : MethodName)) hown (mvT hZ (tw hw 3 rfl)) (mvT hZ (tw hw 4 rfl)) (notFace_of_selects (args := #[]) (mvT hZ (tw hw 6 rfl))) (mvT hZ (tw hw 6 rfl)) (mvT hZ (tw hw 5 rfl)) (by decide) (backOf (W := 0) (rm1_15 l Z a0 hw [] w4 p1s h0 n0 Z0 E_w4 O0 F_w4_ordinal hc3) hZ (tw hw 7 rfl) (tw hw 1 rfl) (by decide) (by decide)) q8a q8c (g := (mkF m 46 #[iv p0s, iv p1s, iv 1, iv 0, iv 1, iv 1, .unset, .unset, .unset, .unset, .unset] [(.int p1s), (.int 1), (.ref w4)])) rfl (by rw [hml]; rfl) (Steps.refl _) (argsL := [(.int 1), (.int p1s)]) (rest := []) (lenOf pd_1 rfl) rfl (by show 2 * 0 + _ ≤ _; exact Nat.le_of_eq rfl) (hb hby at_46) (fun _ _ => ⟨rfl, e7, (by decide : 0 + 0 ≤ _), (by decide : 0 + 0 ≤ _)⟩)
        dsimp only [Pt.U, Pt.locs, Pt.cells, Pt.slots] at X8 l8 y8 z8 st8 hQ8
        subst l8 y8 z8
        obtain ⟨rfl, N8q, e8⟩ := hQ8
        have N8 := Fr.app N6 N8q
        obtain ⟨fs, hr, hrun, hended, hW, hsame⟩ := X8.leave (v := some (.int (1 : Int32))) (fun h => by rw [hre] at h; cases h)
        refine ⟨_, _, pre0 _ (pre1 _ (pre2 _ (pre3 _ (?_)))), hrun, hended, _, _, rfl, ?_, ⟨_, rfl⟩, hW, hsame.mono (by decide) (by decide)⟩
        · show SF p e below T7 (mkF m 46 #[iv p0s, iv p1s, iv 1, iv 0, iv 1, iv 1, .unset, .unset, .unset, .unset, .unset] [(.int p1s), (.int 1), (.ref w4)]) _
          refine st8.trans ?_
          show SF p e below T8 (mkF m 49 #[iv p0s, iv p1s, iv 1, iv 0, iv 1, iv 1, .unset, .unset, .unset, .unset, .unset] [(.int 0)]) _
          refine XS.istore X8.here hx rfl (hb hby at_49) rfl (l' := #[iv p0s, iv p1s, iv 1, iv 0, iv 1, iv 1, iv 0, .unset, .unset, .unset, .unset]) rfl ?_
          show SF p e below T8 (mkF m 51 #[iv p0s, iv p1s, iv 1, iv 0, iv 1, iv 1, iv 0, .unset, .unset, .unset, .unset] []) _
          refine XS.iloadN X8.here hx rfl (hb hby at_51) rfl ?_
          show SF p e below T8 (mkF m 52 #[iv p0s, iv p1s, iv 1, iv 0, iv 1, iv 1, iv 0, .unset, .unset, .unset, .unset] [(.int 0)]) _
          refine XS.iloadN X8.here hx rfl (hb hby at_52) rfl ?_
          show SF p e below T8 (mkF m 53 #[iv p0s, iv p1s, iv 1, iv 0, iv 1, iv 1, iv 0, .unset, .unset, .unset, .unset] [(.int 1), (.int 0)]) _
          refine XS.ifYes X8.here hx rfl (pc0 := 53) (pc' := 60) rfl (hb hby at_53) rfl ((if0 _ _).trans (feq (by decide : ¬ ((1 : Int32) = (0 : Int32)))).2) (by decide) (by decide) ?_
          show SF p e below T8 (mkF m 60 #[iv p0s, iv p1s, iv 1, iv 0, iv 1, iv 1, iv 0, .unset, .unset, .unset, .unset] [(.int 0)]) _
          refine XS.iconst X8.here hx rfl (hb hby at_60) ?_
          show SF p e below T8 (mkF m 61 #[iv p0s, iv p1s, iv 1, iv 0, iv 1, iv 1, iv 0, .unset, .unset, .unset, .unset] [(.int 0), (.int 0)]) _
          refine XS.icmpNo X8.here hx rfl (hb hby at_61) rfl (teq (by decide : (0 : Int32) = (0 : Int32))).2 ?_
          show SF p e below T8 (mkF m 64 #[iv p0s, iv p1s, iv 1, iv 0, iv 1, iv 1, iv 0, .unset, .unset, .unset, .unset] []) _
          refine XS.iconst X8.here hx rfl (hb hby at_64) ?_
          show SF p e below T8 (mkF m 65 #[iv p0s, iv p1s, iv 1, iv 0, iv 1, iv 1, iv 0, .unset, .unset, .unset, .unset] [(.int 1)]) _
          refine XS.goto X8.here hx rfl (pc0 := 65) (pc' := 69) rfl (hb hby at_65) (by decide) (by decide) ?_
          show SF p e below T8 (mkF m 69 #[iv p0s, iv p1s, iv 1, iv 0, iv 1, iv 1, iv 0, .unset, .unset, .unset, .unset] [(.int 1)]) _
          refine XS.istore X8.here hx rfl (hb hby at_69) rfl (l' := #[iv p0s, iv p1s, iv 1, iv 0, iv 1, iv 1, iv 0, iv 1, .unset, .unset, .unset]) rfl ?_
          show SF p e below T8 (mkF m 71 #[iv p0s, iv p1s, iv 1, iv 0, iv 1, iv 1, iv 0, iv 1, .unset, .unset, .unset] []) _
          refine XS.iload X8.here hx rfl (hb hby at_71) rfl ?_
          show SF p e below T8 (mkF m 73 #[iv p0s, iv p1s, iv 1, iv 0, iv 1, iv 1, iv 0, iv 1, .unset, .unset, .unset] [(.int 1)]) _
          refine XS.iloadN X8.here hx rfl (hb hby at_73) rfl ?_
          show SF p e below T8 (mkF m 74 #[iv p0s, iv p1s, iv 1, iv 0, iv 1, iv 1, iv 0, iv 1, .unset, .unset, .unset] [(.int 1), (.int 1)]) _
          refine XS.icmpNo X8.here hx rfl (hb hby at_74) rfl (teq (by decide : (1 : Int32) = (1 : Int32))).2 ?_
          show SF p e below T8 (mkF m 77 #[iv p0s, iv p1s, iv 1, iv 0, iv 1, iv 1, iv 0, iv 1, .unset, .unset, .unset] []) _
          refine XS.iconst X8.here hx rfl (hb hby at_77) ?_
          show SF p e below T8 (mkF m 78 #[iv p0s, iv p1s, iv 1, iv 0, iv 1, iv 1, iv 0, iv 1, .unset, .unset, .unset] [(.int 1)]) _
          refine XS.goto X8.here hx rfl (pc0 := 78) (pc' := 82) rfl (hb hby at_78) (by decide) (by decide) ?_
          show SF p e below T8 (mkF m 82 #[iv p0s, iv p1s, iv 1, iv 0, iv 1, iv 1, iv 0, iv 1, .unset, .unset, .unset] [(.int 1)]) _
          refine XS.istore X8.here hx rfl (hb hby at_82) rfl (l' := #[iv p0s, iv p1s, iv 1, iv 0, iv 1, iv 1, iv 0, iv 1, iv 1, .unset, .unset]) rfl ?_
          show SF p e below T8 (mkF m 84 #[iv p0s, iv p1s, iv 1, iv 0, iv 1, iv 1, iv 0, iv 1, iv 1, .unset, .unset] []) _
          refine XS.iload X8.here hx rfl (hb hby at_84) rfl ?_
          show SF p e below T8 (mkF m 86 #[iv p0s, iv p1s, iv 1, iv 0, iv 1, iv 1, iv 0, iv 1, iv 1, .unset, .unset] [(.int 1)]) _
          refine XS.iloadN X8.here hx rfl (hb hby at_86) rfl ?_
          show SF p e below T8 (mkF m 87 #[iv p0s, iv p1s, iv 1, iv 0, iv 1, iv 1, iv 0, iv 1, iv 1, .unset, .unset] [(.int p1s), (.int 1)]) _
          refine XS.ifNo X8.here hx rfl (hb hby at_87) rfl ((if0 _ _).trans (tlt hc2).2.2.2) ?_
          show SF p e below T8 (mkF m 90 #[iv p0s, iv p1s, iv 1, iv 0, iv 1, iv 1, iv 0, iv 1, iv 1, .unset, .unset] [(.int 1)]) _
          refine XS.iconst X8.here hx rfl (hb hby at_90) ?_
          show SF p e below T8 (mkF m 91 #[iv p0s, iv p1s, iv 1, iv 0, iv 1, iv 1, iv 0, iv 1, iv 1, .unset, .unset] [(.int 1), (.int 1)]) _
          refine XS.goto X8.here hx rfl (pc0 := 91) (pc' := 95) rfl (hb hby at_91) (by decide) (by decide) ?_
          show SF p e below T8 (mkF m 95 #[iv p0s, iv p1s, iv 1, iv 0, iv 1, iv 1, iv 0, iv 1, iv 1, .unset, .unset] [(.int 1), (.int 1)]) _
          refine XS.icmpNo X8.here hx rfl (hb hby at_95) rfl (teq (by decide : (1 : Int32) = (1 : Int32))).2 ?_
          show SF p e below T8 (mkF m 98 #[iv p0s, iv p1s, iv 1, iv 0, iv 1, iv 1, iv 0, iv 1, iv 1, .unset, .unset] []) _
          refine XS.iconst X8.here hx rfl (hb hby at_98) ?_
          show SF p e below T8 (mkF m 99 #[iv p0s, iv p1s, iv 1, iv 0, iv 1, iv 1, iv 0, iv 1, iv 1, .unset, .unset] [(.int 1)]) _
          refine XS.goto X8.here hx rfl (pc0 := 99) (pc' := 103) rfl (hb hby at_99) (by decide) (by decide) ?_
          show SF p e below T8 (mkF m 103 #[iv p0s, iv p1s, iv 1, iv 0, iv 1, iv 1, iv 0, iv 1, iv 1, .unset, .unset] [(.int 1)]) _
          refine XS.istore X8.here hx rfl (hb hby at_103) rfl (l' := #[iv p0s, iv p1s, iv 1, iv 0, iv 1, iv 1, iv 0, iv 1, iv 1, iv 1, .unset]) rfl ?_
          show SF p e below T8 (mkF m 105 #[iv p0s, iv p1s, iv 1, iv 0, iv 1, iv 1, iv 0, iv 1, iv 1, iv 1, .unset] []) _
          refine XS.iload X8.here hx rfl (hb hby at_105) rfl ?_
          show SF p e below T8 (mkF m 107 #[iv p0s, iv p1s, iv 1, iv 0, iv 1, iv 1, iv 0, iv 1, iv 1, iv 1, .unset] [(.int 0)]) _
          refine XS.iloadN X8.here hx rfl (hb hby at_107) rfl ?_
          show SF p e below T8 (mkF m 108 #[iv p0s, iv p1s, iv 1, iv 0, iv 1, iv 1, iv 0, iv 1, iv 1, iv 1, .unset] [(.int p1s), (.int 0)]) _
          refine XS.ifYes X8.here hx rfl (pc0 := 108) (pc' := 115) rfl (hb hby at_108) rfl ((if0 _ _).trans (flt hc3).2.1) (by decide) (by decide) ?_
          show SF p e below T8 (mkF m 115 #[iv p0s, iv p1s, iv 1, iv 0, iv 1, iv 1, iv 0, iv 1, iv 1, iv 1, .unset] [(.int 0)]) _
          refine XS.iconst X8.here hx rfl (hb hby at_115) ?_
          show SF p e below T8 (mkF m 116 #[iv p0s, iv p1s, iv 1, iv 0, iv 1, iv 1, iv 0, iv 1, iv 1, iv 1, .unset] [(.int 0), (.int 0)]) _
          refine XS.icmpNo X8.here hx rfl (hb hby at_116) rfl (teq (by decide : (0 : Int32) = (0 : Int32))).2 ?_
          show SF p e below T8 (mkF m 119 #[iv p0s, iv p1s, iv 1, iv 0, iv 1, iv 1, iv 0, iv 1, iv 1, iv 1, .unset] []) _
          refine XS.iconst X8.here hx rfl (hb hby at_119) ?_
          show SF p e below T8 (mkF m 120 #[iv p0s, iv p1s, iv 1, iv 0, iv 1, iv 1, iv 0, iv 1, iv 1, iv 1, .unset] [(.int 1)]) _
          refine XS.goto X8.here hx rfl (pc0 := 120) (pc' := 124) rfl (hb hby at_120) (by decide) (by decide) ?_
          show SF p e below T8 (mkF m 124 #[iv p0s, iv p1s, iv 1, iv 0, iv 1, iv 1, iv 0, iv 1, iv 1, iv 1, .unset] [(.int 1)]) _
          refine XS.istore X8.here hx rfl (hb hby at_124) rfl (l' := #[iv p0s, iv p1s, iv 1, iv 0, iv 1, iv 1, iv 0, iv 1, iv 1, iv 1, iv 1]) rfl ?_
          show SF p e below T8 (mkF m 126 #[iv p0s, iv p1s, iv 1, iv 0, iv 1, iv 1, iv 0, iv 1, iv 1, iv 1, iv 1] []) _
          refine XS.iload X8.here hx rfl (hb hby at_126) rfl ?_
          show SF p e below T8 (mkF m 128 #[iv p0s, iv p1s, iv 1, iv 0, iv 1, iv 1, iv 0, iv 1, iv 1, iv 1, iv 1] [(.int 1)]) _
          refine XS.ifNo X8.here hx rfl (hb hby at_128) rfl ((if0 _ _).trans (feq (by decide : ¬ ((1 : Int32) = (0 : Int32)))).1) ?_
          show SF p e below T8 (mkF m 131 #[iv p0s, iv p1s, iv 1, iv 0, iv 1, iv 1, iv 0, iv 1, iv 1, iv 1, iv 1] []) _
          refine XS.iload X8.here hx rfl (hb hby at_131) rfl ?_
          show SF p e below T8 (mkF m 133 #[iv p0s, iv p1s, iv 1, iv 0, iv 1, iv 1, iv 0, iv 1, iv 1, iv 1, iv 1] [(.int 1)]) _
          refine XS.ifNo X8.here hx rfl (hb hby at_133) rfl ((if0 _ _).trans (feq (by decide : ¬ ((1 : Int32) = (0 : Int32)))).1) ?_
          show SF p e below T8 (mkF m 136 #[iv p0s, iv p1s, iv 1, iv 0, iv 1, iv 1, iv 0, iv 1, iv 1, iv 1, iv 1] []) _
          refine XS.iload X8.here hx rfl (hb hby at_136) rfl ?_
          show SF p e below T8 (mkF m 138 #[iv p0s, iv p1s, iv 1, iv 0, iv 1, iv 1, iv 0, iv 1, iv 1, iv 1, iv 1] [(.int 1)]) _
          refine XS.ifNo X8.here hx rfl (hb hby at_138) rfl ((if0 _ _).trans (feq (by decide : ¬ ((1 : Int32) = (0 : Int32)))).1) ?_
          show SF p e below T8 (mkF m 141 #[iv p0s, iv p1s, iv 1, iv 0, iv 1, iv 1, iv 0, iv 1, iv 1, iv 1, iv 1] []) _
          refine XS.iload X8.here hx rfl (hb hby at_141) rfl ?_
          show SF p e below T8 (mkF m 143 #[iv p0s, iv p1s, iv 1, iv 0, iv 1, iv 1, iv 0, iv 1, iv 1, iv 1, iv 1] [(.int 1)]) _
          refine XS.ifNo X8.here hx rfl (hb hby at_143) rfl ((if0 _ _).trans (feq (by decide : ¬ ((1 : Int32) = (0 : Int32)))).1) ?_
          show SF p e below T8 (mkF m 146 #[iv p0s, iv p1s, iv 1, iv 0, iv 1, iv 1, iv 0, iv 1, iv 1, iv 1, iv 1] []) _
          refine XS.iconst X8.here hx rfl (hb hby at_146) ?_
          show SF p e below T8 (mkF m 147 #[iv p0s, iv p1s, iv 1, iv 0, iv 1, iv 1, iv 0, iv 1, iv 1, iv 1, iv 1] [(.int 1)]) _
          refine XS.goto X8.here hx rfl (pc0 := 147) (pc' := 151) rfl (hb hby at_147) (by decide) (by decide) ?_
          show SF p e below T8 (mkF m 151 #[iv p0s, iv p1s, iv 1, iv 0, iv 1, iv 1, iv 0, iv 1, iv 1, iv 1, iv 1] [(.int 1)]) _
          exact retN X8 hx (t := .boolean) hre (by simp) (hb hby at_151) hr
        · exact ⟨rfl, N8⟩
    · obtain ⟨cq6, kq6, q6a, q6b, q6c⟩ := isOf hZ e5 (E_w3.ext O0.2)
      obtain ⟨_, _, ⟨T6, L6, k6x, n6⟩, -, X6, ⟨Lc6, hQ6, l6, y6, z6⟩, st6⟩ := X5.virtualBack hx (y := (⟨"com/example/afterlog/afterlog/Condition", "admits", "(ZI)Z"⟩ : MethodName)) (z := (⟨"com/example/afterlog/afterlog/Condition", "admits", "(ZI)Z"⟩ : MethodName)) hown (mvT hZ (tw hw 3 rfl)) (mvT hZ (tw hw 4 rfl)) (notFace_of_selects (args := #[]) (mvT hZ (tw hw 6 rfl))) (mvT hZ (tw hw 6 rfl)) (mvT hZ (tw hw 5 rfl)) (by decide) (backOf (W := 0) (rm1_16 l Z a0 hw [] w3 p1s h0 n0 Z0 E_w3 O0 F_w3_ordinal hc2) hZ (tw hw 7 rfl) (tw hw 1 rfl) (by decide) (by decide)) q6a q6c (g := (mkF m 36 #[iv p0s, iv p1s, iv 1, iv 0, iv 1, .unset, .unset, .unset, .unset, .unset, .unset] [(.int p1s), (.int 1), (.ref w3)])) rfl (by rw [hml]; rfl) (Steps.refl _) (argsL := [(.int 1), (.int p1s)]) (rest := []) (lenOf pd_1 rfl) rfl (by show 2 * 0 + _ ≤ _; exact Nat.le_of_eq rfl) (hb hby at_36) (fun _ _ => ⟨rfl, e5, (by decide : 0 + 0 ≤ _), (by decide : 0 + 0 ≤ _)⟩)
      dsimp only [Pt.U, Pt.locs, Pt.cells, Pt.slots] at X6 l6 y6 z6 st6 hQ6
      subst l6 y6 z6
      obtain ⟨rfl, N6q, e6⟩ := hQ6
      have N6 := Fr.app N4 N6q
      obtain ⟨T7, X7, e7, st7⟩ := getS2 X6 hx hZ hown (host := "") (Or.inl (tw hw 21 rfl)) Via.refl e6 (S6.ext O0.2) (g := (mkF m 41 #[iv p0s, iv p1s, iv 1, iv 0, iv 1, iv 0, .unset, .unset, .unset, .unset, .unset] [])) rfl (hb hby at_41)
      have pre3 : ∀ t, SF p e below T7 (mkF m 46 #[iv p0s, iv p1s, iv 1, iv 0, iv 1, iv 0, .unset, .unset, .unset, .unset, .unset] [(.int p1s), (.int 1), (.ref w4)]) t → SF p e below T5 (mkF m 36 #[iv p0s, iv p1s, iv 1, iv 0, iv 1, .unset, .unset, .unset, .unset, .unset, .unset] [(.int p1s), (.int 1), (.ref w3)]) t := fun t k => by
        show SF p e below T5 (mkF m 36 #[iv p0s, iv p1s, iv 1, iv 0, iv 1, .unset, .unset, .unset, .unset, .unset, .unset] [(.int p1s), (.int 1), (.ref w3)]) _
        refine st6.trans ?_
        show SF p e below T6 (mkF m 39 #[iv p0s, iv p1s, iv 1, iv 0, iv 1, .unset, .unset, .unset, .unset, .unset, .unset] [(.int 0)]) _
        refine XS.istore X6.here hx rfl (hb hby at_39) rfl (l' := #[iv p0s, iv p1s, iv 1, iv 0, iv 1, iv 0, .unset, .unset, .unset, .unset, .unset]) rfl ?_
        show SF p e below T6 (mkF m 41 #[iv p0s, iv p1s, iv 1, iv 0, iv 1, iv 0, .unset, .unset, .unset, .unset, .unset] []) _
        refine st7 _ ?_
        show SF p e below T7 (mkF m 44 #[iv p0s, iv p1s, iv 1, iv 0, iv 1, iv 0, .unset, .unset, .unset, .unset, .unset] [(.ref w4)]) _
        refine XS.iloadN X7.here hx rfl (hb hby at_44) rfl ?_
        show SF p e below T7 (mkF m 45 #[iv p0s, iv p1s, iv 1, iv 0, iv 1, iv 0, .unset, .unset, .unset, .unset, .unset] [(.int 1), (.ref w4)]) _
        refine XS.iloadN X7.here hx rfl (hb hby at_45) rfl ?_
        exact k
      by_cases hc3 : p1s < (0 : Int32)
      · obtain ⟨cq8, kq8, q8a, q8b, q8c⟩ := isOf hZ e7 (E_w4.ext O0.2)
        obtain ⟨_, _, ⟨T8, L8, k8x, n8⟩, -, X8, ⟨Lc8, hQ8, l8, y8, z8⟩, st8⟩ := X7.virtualBack hx (y := (⟨"com/example/afterlog/afterlog/Condition", "admits", "(ZI)Z"⟩ : MethodName)) (z := (⟨"com/example/afterlog/afterlog/Condition", "admits", "(ZI)Z"⟩ : MethodName)) hown (mvT hZ (tw hw 3 rfl)) (mvT hZ (tw hw 4 rfl)) (notFace_of_selects (args := #[]) (mvT hZ (tw hw 6 rfl))) (mvT hZ (tw hw 6 rfl)) (mvT hZ (tw hw 5 rfl)) (by decide) (backOf (W := 0) (rm1_14 l Z a0 hw [] w4 p1s h0 n0 Z0 E_w4 O0 F_w4_ordinal hc3) hZ (tw hw 7 rfl) (tw hw 1 rfl) (by decide) (by decide)) q8a q8c (g := (mkF m 46 #[iv p0s, iv p1s, iv 1, iv 0, iv 1, iv 0, .unset, .unset, .unset, .unset, .unset] [(.int p1s), (.int 1), (.ref w4)])) rfl (by rw [hml]; rfl) (Steps.refl _) (argsL := [(.int 1), (.int p1s)]) (rest := []) (lenOf pd_1 rfl) rfl (by show 2 * 0 + _ ≤ _; exact Nat.le_of_eq rfl) (hb hby at_46) (fun _ _ => ⟨rfl, e7, (by decide : 0 + 0 ≤ _), (by decide : 0 + 0 ≤ _)⟩)
        dsimp only [Pt.U, Pt.locs, Pt.cells, Pt.slots] at X8 l8 y8 z8 st8 hQ8
        subst l8 y8 z8
        obtain ⟨rfl, N8q, e8⟩ := hQ8
        have N8 := Fr.app N6 N8q
        obtain ⟨fs, hr, hrun, hended, hW, hsame⟩ := X8.leave (v := some (.int (1 : Int32))) (fun h => by rw [hre] at h; cases h)
        refine ⟨_, _, pre0 _ (pre1 _ (pre2 _ (pre3 _ (?_)))), hrun, hended, _, _, rfl, ?_, ⟨_, rfl⟩, hW, hsame.mono (by decide) (by decide)⟩
        · show SF p e below T7 (mkF m 46 #[iv p0s, iv p1s, iv 1, iv 0, iv 1, iv 0, .unset, .unset, .unset, .unset, .unset] [(.int p1s), (.int 1), (.ref w4)]) _
          refine st8.trans ?_
          show SF p e below T8 (mkF m 49 #[iv p0s, iv p1s, iv 1, iv 0, iv 1, iv 0, .unset, .unset, .unset, .unset, .unset] [(.int 1)]) _
          refine XS.istore X8.here hx rfl (hb hby at_49) rfl (l' := #[iv p0s, iv p1s, iv 1, iv 0, iv 1, iv 0, iv 1, .unset, .unset, .unset, .unset]) rfl ?_
          show SF p e below T8 (mkF m 51 #[iv p0s, iv p1s, iv 1, iv 0, iv 1, iv 0, iv 1, .unset, .unset, .unset, .unset] []) _
          refine XS.iloadN X8.here hx rfl (hb hby at_51) rfl ?_
          show SF p e below T8 (mkF m 52 #[iv p0s, iv p1s, iv 1, iv 0, iv 1, iv 0, iv 1, .unset, .unset, .unset, .unset] [(.int 0)]) _
          refine XS.iloadN X8.here hx rfl (hb hby at_52) rfl ?_
          show SF p e below T8 (mkF m 53 #[iv p0s, iv p1s, iv 1, iv 0, iv 1, iv 0, iv 1, .unset, .unset, .unset, .unset] [(.int 1), (.int 0)]) _
          refine XS.ifYes X8.here hx rfl (pc0 := 53) (pc' := 60) rfl (hb hby at_53) rfl ((if0 _ _).trans (feq (by decide : ¬ ((1 : Int32) = (0 : Int32)))).2) (by decide) (by decide) ?_
          show SF p e below T8 (mkF m 60 #[iv p0s, iv p1s, iv 1, iv 0, iv 1, iv 0, iv 1, .unset, .unset, .unset, .unset] [(.int 0)]) _
          refine XS.iconst X8.here hx rfl (hb hby at_60) ?_
          show SF p e below T8 (mkF m 61 #[iv p0s, iv p1s, iv 1, iv 0, iv 1, iv 0, iv 1, .unset, .unset, .unset, .unset] [(.int 0), (.int 0)]) _
          refine XS.icmpNo X8.here hx rfl (hb hby at_61) rfl (teq (by decide : (0 : Int32) = (0 : Int32))).2 ?_
          show SF p e below T8 (mkF m 64 #[iv p0s, iv p1s, iv 1, iv 0, iv 1, iv 0, iv 1, .unset, .unset, .unset, .unset] []) _
          refine XS.iconst X8.here hx rfl (hb hby at_64) ?_
          show SF p e below T8 (mkF m 65 #[iv p0s, iv p1s, iv 1, iv 0, iv 1, iv 0, iv 1, .unset, .unset, .unset, .unset] [(.int 1)]) _
          refine XS.goto X8.here hx rfl (pc0 := 65) (pc' := 69) rfl (hb hby at_65) (by decide) (by decide) ?_
          show SF p e below T8 (mkF m 69 #[iv p0s, iv p1s, iv 1, iv 0, iv 1, iv 0, iv 1, .unset, .unset, .unset, .unset] [(.int 1)]) _
          refine XS.istore X8.here hx rfl (hb hby at_69) rfl (l' := #[iv p0s, iv p1s, iv 1, iv 0, iv 1, iv 0, iv 1, iv 1, .unset, .unset, .unset]) rfl ?_
          show SF p e below T8 (mkF m 71 #[iv p0s, iv p1s, iv 1, iv 0, iv 1, iv 0, iv 1, iv 1, .unset, .unset, .unset] []) _
          refine XS.iload X8.here hx rfl (hb hby at_71) rfl ?_
          show SF p e below T8 (mkF m 73 #[iv p0s, iv p1s, iv 1, iv 0, iv 1, iv 0, iv 1, iv 1, .unset, .unset, .unset] [(.int 1)]) _
          refine XS.iloadN X8.here hx rfl (hb hby at_73) rfl ?_
          show SF p e below T8 (mkF m 74 #[iv p0s, iv p1s, iv 1, iv 0, iv 1, iv 0, iv 1, iv 1, .unset, .unset, .unset] [(.int 1), (.int 1)]) _
          refine XS.icmpNo X8.here hx rfl (hb hby at_74) rfl (teq (by decide : (1 : Int32) = (1 : Int32))).2 ?_
          show SF p e below T8 (mkF m 77 #[iv p0s, iv p1s, iv 1, iv 0, iv 1, iv 0, iv 1, iv 1, .unset, .unset, .unset] []) _
          refine XS.iconst X8.here hx rfl (hb hby at_77) ?_
          show SF p e below T8 (mkF m 78 #[iv p0s, iv p1s, iv 1, iv 0, iv 1, iv 0, iv 1, iv 1, .unset, .unset, .unset] [(.int 1)]) _
          refine XS.goto X8.here hx rfl (pc0 := 78) (pc' := 82) rfl (hb hby at_78) (by decide) (by decide) ?_
          show SF p e below T8 (mkF m 82 #[iv p0s, iv p1s, iv 1, iv 0, iv 1, iv 0, iv 1, iv 1, .unset, .unset, .unset] [(.int 1)]) _
          refine XS.istore X8.here hx rfl (hb hby at_82) rfl (l' := #[iv p0s, iv p1s, iv 1, iv 0, iv 1, iv 0, iv 1, iv 1, iv 1, .unset, .unset]) rfl ?_
          show SF p e below T8 (mkF m 84 #[iv p0s, iv p1s, iv 1, iv 0, iv 1, iv 0, iv 1, iv 1, iv 1, .unset, .unset] []) _
          refine XS.iload X8.here hx rfl (hb hby at_84) rfl ?_
          show SF p e below T8 (mkF m 86 #[iv p0s, iv p1s, iv 1, iv 0, iv 1, iv 0, iv 1, iv 1, iv 1, .unset, .unset] [(.int 0)]) _
          refine XS.iloadN X8.here hx rfl (hb hby at_86) rfl ?_
          show SF p e below T8 (mkF m 87 #[iv p0s, iv p1s, iv 1, iv 0, iv 1, iv 0, iv 1, iv 1, iv 1, .unset, .unset] [(.int p1s), (.int 0)]) _
          refine XS.ifYes X8.here hx rfl (pc0 := 87) (pc' := 94) rfl (hb hby at_87) rfl ((if0 _ _).trans (flt hc2).2.2.2) (by decide) (by decide) ?_
          show SF p e below T8 (mkF m 94 #[iv p0s, iv p1s, iv 1, iv 0, iv 1, iv 0, iv 1, iv 1, iv 1, .unset, .unset] [(.int 0)]) _
          refine XS.iconst X8.here hx rfl (hb hby at_94) ?_
          show SF p e below T8 (mkF m 95 #[iv p0s, iv p1s, iv 1, iv 0, iv 1, iv 0, iv 1, iv 1, iv 1, .unset, .unset] [(.int 0), (.int 0)]) _
          refine XS.icmpNo X8.here hx rfl (hb hby at_95) rfl (teq (by decide : (0 : Int32) = (0 : Int32))).2 ?_
          show SF p e below T8 (mkF m 98 #[iv p0s, iv p1s, iv 1, iv 0, iv 1, iv 0, iv 1, iv 1, iv 1, .unset, .unset] []) _
          refine XS.iconst X8.here hx rfl (hb hby at_98) ?_
          show SF p e below T8 (mkF m 99 #[iv p0s, iv p1s, iv 1, iv 0, iv 1, iv 0, iv 1, iv 1, iv 1, .unset, .unset] [(.int 1)]) _
          refine XS.goto X8.here hx rfl (pc0 := 99) (pc' := 103) rfl (hb hby at_99) (by decide) (by decide) ?_
          show SF p e below T8 (mkF m 103 #[iv p0s, iv p1s, iv 1, iv 0, iv 1, iv 0, iv 1, iv 1, iv 1, .unset, .unset] [(.int 1)]) _
          refine XS.istore X8.here hx rfl (hb hby at_103) rfl (l' := #[iv p0s, iv p1s, iv 1, iv 0, iv 1, iv 0, iv 1, iv 1, iv 1, iv 1, .unset]) rfl ?_
          show SF p e below T8 (mkF m 105 #[iv p0s, iv p1s, iv 1, iv 0, iv 1, iv 0, iv 1, iv 1, iv 1, iv 1, .unset] []) _
          refine XS.iload X8.here hx rfl (hb hby at_105) rfl ?_
          show SF p e below T8 (mkF m 107 #[iv p0s, iv p1s, iv 1, iv 0, iv 1, iv 0, iv 1, iv 1, iv 1, iv 1, .unset] [(.int 1)]) _
          refine XS.iloadN X8.here hx rfl (hb hby at_107) rfl ?_
          show SF p e below T8 (mkF m 108 #[iv p0s, iv p1s, iv 1, iv 0, iv 1, iv 0, iv 1, iv 1, iv 1, iv 1, .unset] [(.int p1s), (.int 1)]) _
          refine XS.ifNo X8.here hx rfl (hb hby at_108) rfl ((if0 _ _).trans (tlt hc3).2.1) ?_
          show SF p e below T8 (mkF m 111 #[iv p0s, iv p1s, iv 1, iv 0, iv 1, iv 0, iv 1, iv 1, iv 1, iv 1, .unset] [(.int 1)]) _
          refine XS.iconst X8.here hx rfl (hb hby at_111) ?_
          show SF p e below T8 (mkF m 112 #[iv p0s, iv p1s, iv 1, iv 0, iv 1, iv 0, iv 1, iv 1, iv 1, iv 1, .unset] [(.int 1), (.int 1)]) _
          refine XS.goto X8.here hx rfl (pc0 := 112) (pc' := 116) rfl (hb hby at_112) (by decide) (by decide) ?_
          show SF p e below T8 (mkF m 116 #[iv p0s, iv p1s, iv 1, iv 0, iv 1, iv 0, iv 1, iv 1, iv 1, iv 1, .unset] [(.int 1), (.int 1)]) _
          refine XS.icmpNo X8.here hx rfl (hb hby at_116) rfl (teq (by decide : (1 : Int32) = (1 : Int32))).2 ?_
          show SF p e below T8 (mkF m 119 #[iv p0s, iv p1s, iv 1, iv 0, iv 1, iv 0, iv 1, iv 1, iv 1, iv 1, .unset] []) _
          refine XS.iconst X8.here hx rfl (hb hby at_119) ?_
          show SF p e below T8 (mkF m 120 #[iv p0s, iv p1s, iv 1, iv 0, iv 1, iv 0, iv 1, iv 1, iv 1, iv 1, .unset] [(.int 1)]) _
          refine XS.goto X8.here hx rfl (pc0 := 120) (pc' := 124) rfl (hb hby at_120) (by decide) (by decide) ?_
          show SF p e below T8 (mkF m 124 #[iv p0s, iv p1s, iv 1, iv 0, iv 1, iv 0, iv 1, iv 1, iv 1, iv 1, .unset] [(.int 1)]) _
          refine XS.istore X8.here hx rfl (hb hby at_124) rfl (l' := #[iv p0s, iv p1s, iv 1, iv 0, iv 1, iv 0, iv 1, iv 1, iv 1, iv 1, iv 1]) rfl ?_
          show SF p e below T8 (mkF m 126 #[iv p0s, iv p1s, iv 1, iv 0, iv 1, iv 0, iv 1, iv 1, iv 1, iv 1, iv 1] []) _
          refine XS.iload X8.here hx rfl (hb hby at_126) rfl ?_
          show SF p e below T8 (mkF m 128 #[iv p0s, iv p1s, iv 1, iv 0, iv 1, iv 0, iv 1, iv 1, iv 1, iv 1, iv 1] [(.int 1)]) _
          refine XS.ifNo X8.here hx rfl (hb hby at_128) rfl ((if0 _ _).trans (feq (by decide : ¬ ((1 : Int32) = (0 : Int32)))).1) ?_
          show SF p e below T8 (mkF m 131 #[iv p0s, iv p1s, iv 1, iv 0, iv 1, iv 0, iv 1, iv 1, iv 1, iv 1, iv 1] []) _
          refine XS.iload X8.here hx rfl (hb hby at_131) rfl ?_
          show SF p e below T8 (mkF m 133 #[iv p0s, iv p1s, iv 1, iv 0, iv 1, iv 0, iv 1, iv 1, iv 1, iv 1, iv 1] [(.int 1)]) _
          refine XS.ifNo X8.here hx rfl (hb hby at_133) rfl ((if0 _ _).trans (feq (by decide : ¬ ((1 : Int32) = (0 : Int32)))).1) ?_
          show SF p e below T8 (mkF m 136 #[iv p0s, iv p1s, iv 1, iv 0, iv 1, iv 0, iv 1, iv 1, iv 1, iv 1, iv 1] []) _
          refine XS.iload X8.here hx rfl (hb hby at_136) rfl ?_
          show SF p e below T8 (mkF m 138 #[iv p0s, iv p1s, iv 1, iv 0, iv 1, iv 0, iv 1, iv 1, iv 1, iv 1, iv 1] [(.int 1)]) _
          refine XS.ifNo X8.here hx rfl (hb hby at_138) rfl ((if0 _ _).trans (feq (by decide : ¬ ((1 : Int32) = (0 : Int32)))).1) ?_
          show SF p e below T8 (mkF m 141 #[iv p0s, iv p1s, iv 1, iv 0, iv 1, iv 0, iv 1, iv 1, iv 1, iv 1, iv 1] []) _
          refine XS.iload X8.here hx rfl (hb hby at_141) rfl ?_
          show SF p e below T8 (mkF m 143 #[iv p0s, iv p1s, iv 1, iv 0, iv 1, iv 0, iv 1, iv 1, iv 1, iv 1, iv 1] [(.int 1)]) _
          refine XS.ifNo X8.here hx rfl (hb hby at_143) rfl ((if0 _ _).trans (feq (by decide : ¬ ((1 : Int32) = (0 : Int32)))).1) ?_
          show SF p e below T8 (mkF m 146 #[iv p0s, iv p1s, iv 1, iv 0, iv 1, iv 0, iv 1, iv 1, iv 1, iv 1, iv 1] []) _
          refine XS.iconst X8.here hx rfl (hb hby at_146) ?_
          show SF p e below T8 (mkF m 147 #[iv p0s, iv p1s, iv 1, iv 0, iv 1, iv 0, iv 1, iv 1, iv 1, iv 1, iv 1] [(.int 1)]) _
          refine XS.goto X8.here hx rfl (pc0 := 147) (pc' := 151) rfl (hb hby at_147) (by decide) (by decide) ?_
          show SF p e below T8 (mkF m 151 #[iv p0s, iv p1s, iv 1, iv 0, iv 1, iv 0, iv 1, iv 1, iv 1, iv 1, iv 1] [(.int 1)]) _
          exact retN X8 hx (t := .boolean) hre (by simp) (hb hby at_151) hr
        · exact ⟨rfl, N8⟩
      · obtain ⟨cq8, kq8, q8a, q8b, q8c⟩ := isOf hZ e7 (E_w4.ext O0.2)
        obtain ⟨_, _, ⟨T8, L8, k8x, n8⟩, -, X8, ⟨Lc8, hQ8, l8, y8, z8⟩, st8⟩ := X7.virtualBack hx (y := (⟨"com/example/afterlog/afterlog/Condition", "admits", "(ZI)Z"⟩ : MethodName)) (z := (⟨"com/example/afterlog/afterlog/Condition", "admits", "(ZI)Z"⟩ : MethodName)) hown (mvT hZ (tw hw 3 rfl)) (mvT hZ (tw hw 4 rfl)) (notFace_of_selects (args := #[]) (mvT hZ (tw hw 6 rfl))) (mvT hZ (tw hw 6 rfl)) (mvT hZ (tw hw 5 rfl)) (by decide) (backOf (W := 0) (rm1_15 l Z a0 hw [] w4 p1s h0 n0 Z0 E_w4 O0 F_w4_ordinal hc3) hZ (tw hw 7 rfl) (tw hw 1 rfl) (by decide) (by decide)) q8a q8c (g := (mkF m 46 #[iv p0s, iv p1s, iv 1, iv 0, iv 1, iv 0, .unset, .unset, .unset, .unset, .unset] [(.int p1s), (.int 1), (.ref w4)])) rfl (by rw [hml]; rfl) (Steps.refl _) (argsL := [(.int 1), (.int p1s)]) (rest := []) (lenOf pd_1 rfl) rfl (by show 2 * 0 + _ ≤ _; exact Nat.le_of_eq rfl) (hb hby at_46) (fun _ _ => ⟨rfl, e7, (by decide : 0 + 0 ≤ _), (by decide : 0 + 0 ≤ _)⟩)
        dsimp only [Pt.U, Pt.locs, Pt.cells, Pt.slots] at X8 l8 y8 z8 st8 hQ8
        subst l8 y8 z8
        obtain ⟨rfl, N8q, e8⟩ := hQ8
        have N8 := Fr.app N6 N8q
        obtain ⟨fs, hr, hrun, hended, hW, hsame⟩ := X8.leave (v := some (.int (1 : Int32))) (fun h => by rw [hre] at h; cases h)
        refine ⟨_, _, pre0 _ (pre1 _ (pre2 _ (pre3 _ (?_)))), hrun, hended, _, _, rfl, ?_, ⟨_, rfl⟩, hW, hsame.mono (by decide) (by decide)⟩
        · show SF p e below T7 (mkF m 46 #[iv p0s, iv p1s, iv 1, iv 0, iv 1, iv 0, .unset, .unset, .unset, .unset, .unset] [(.int p1s), (.int 1), (.ref w4)]) _
          refine st8.trans ?_
          show SF p e below T8 (mkF m 49 #[iv p0s, iv p1s, iv 1, iv 0, iv 1, iv 0, .unset, .unset, .unset, .unset, .unset] [(.int 0)]) _
          refine XS.istore X8.here hx rfl (hb hby at_49) rfl (l' := #[iv p0s, iv p1s, iv 1, iv 0, iv 1, iv 0, iv 0, .unset, .unset, .unset, .unset]) rfl ?_
          show SF p e below T8 (mkF m 51 #[iv p0s, iv p1s, iv 1, iv 0, iv 1, iv 0, iv 0, .unset, .unset, .unset, .unset] []) _
          refine XS.iloadN X8.here hx rfl (hb hby at_51) rfl ?_
          show SF p e below T8 (mkF m 52 #[iv p0s, iv p1s, iv 1, iv 0, iv 1, iv 0, iv 0, .unset, .unset, .unset, .unset] [(.int 0)]) _
          refine XS.iloadN X8.here hx rfl (hb hby at_52) rfl ?_
          show SF p e below T8 (mkF m 53 #[iv p0s, iv p1s, iv 1, iv 0, iv 1, iv 0, iv 0, .unset, .unset, .unset, .unset] [(.int 1), (.int 0)]) _
          refine XS.ifYes X8.here hx rfl (pc0 := 53) (pc' := 60) rfl (hb hby at_53) rfl ((if0 _ _).trans (feq (by decide : ¬ ((1 : Int32) = (0 : Int32)))).2) (by decide) (by decide) ?_
          show SF p e below T8 (mkF m 60 #[iv p0s, iv p1s, iv 1, iv 0, iv 1, iv 0, iv 0, .unset, .unset, .unset, .unset] [(.int 0)]) _
          refine XS.iconst X8.here hx rfl (hb hby at_60) ?_
          show SF p e below T8 (mkF m 61 #[iv p0s, iv p1s, iv 1, iv 0, iv 1, iv 0, iv 0, .unset, .unset, .unset, .unset] [(.int 0), (.int 0)]) _
          refine XS.icmpNo X8.here hx rfl (hb hby at_61) rfl (teq (by decide : (0 : Int32) = (0 : Int32))).2 ?_
          show SF p e below T8 (mkF m 64 #[iv p0s, iv p1s, iv 1, iv 0, iv 1, iv 0, iv 0, .unset, .unset, .unset, .unset] []) _
          refine XS.iconst X8.here hx rfl (hb hby at_64) ?_
          show SF p e below T8 (mkF m 65 #[iv p0s, iv p1s, iv 1, iv 0, iv 1, iv 0, iv 0, .unset, .unset, .unset, .unset] [(.int 1)]) _
          refine XS.goto X8.here hx rfl (pc0 := 65) (pc' := 69) rfl (hb hby at_65) (by decide) (by decide) ?_
          show SF p e below T8 (mkF m 69 #[iv p0s, iv p1s, iv 1, iv 0, iv 1, iv 0, iv 0, .unset, .unset, .unset, .unset] [(.int 1)]) _
          refine XS.istore X8.here hx rfl (hb hby at_69) rfl (l' := #[iv p0s, iv p1s, iv 1, iv 0, iv 1, iv 0, iv 0, iv 1, .unset, .unset, .unset]) rfl ?_
          show SF p e below T8 (mkF m 71 #[iv p0s, iv p1s, iv 1, iv 0, iv 1, iv 0, iv 0, iv 1, .unset, .unset, .unset] []) _
          refine XS.iload X8.here hx rfl (hb hby at_71) rfl ?_
          show SF p e below T8 (mkF m 73 #[iv p0s, iv p1s, iv 1, iv 0, iv 1, iv 0, iv 0, iv 1, .unset, .unset, .unset] [(.int 1)]) _
          refine XS.iloadN X8.here hx rfl (hb hby at_73) rfl ?_
          show SF p e below T8 (mkF m 74 #[iv p0s, iv p1s, iv 1, iv 0, iv 1, iv 0, iv 0, iv 1, .unset, .unset, .unset] [(.int 1), (.int 1)]) _
          refine XS.icmpNo X8.here hx rfl (hb hby at_74) rfl (teq (by decide : (1 : Int32) = (1 : Int32))).2 ?_
          show SF p e below T8 (mkF m 77 #[iv p0s, iv p1s, iv 1, iv 0, iv 1, iv 0, iv 0, iv 1, .unset, .unset, .unset] []) _
          refine XS.iconst X8.here hx rfl (hb hby at_77) ?_
          show SF p e below T8 (mkF m 78 #[iv p0s, iv p1s, iv 1, iv 0, iv 1, iv 0, iv 0, iv 1, .unset, .unset, .unset] [(.int 1)]) _
          refine XS.goto X8.here hx rfl (pc0 := 78) (pc' := 82) rfl (hb hby at_78) (by decide) (by decide) ?_
          show SF p e below T8 (mkF m 82 #[iv p0s, iv p1s, iv 1, iv 0, iv 1, iv 0, iv 0, iv 1, .unset, .unset, .unset] [(.int 1)]) _
          refine XS.istore X8.here hx rfl (hb hby at_82) rfl (l' := #[iv p0s, iv p1s, iv 1, iv 0, iv 1, iv 0, iv 0, iv 1, iv 1, .unset, .unset]) rfl ?_
          show SF p e below T8 (mkF m 84 #[iv p0s, iv p1s, iv 1, iv 0, iv 1, iv 0, iv 0, iv 1, iv 1, .unset, .unset] []) _
          refine XS.iload X8.here hx rfl (hb hby at_84) rfl ?_
          show SF p e below T8 (mkF m 86 #[iv p0s, iv p1s, iv 1, iv 0, iv 1, iv 0, iv 0, iv 1, iv 1, .unset, .unset] [(.int 0)]) _
          refine XS.iloadN X8.here hx rfl (hb hby at_86) rfl ?_
          show SF p e below T8 (mkF m 87 #[iv p0s, iv p1s, iv 1, iv 0, iv 1, iv 0, iv 0, iv 1, iv 1, .unset, .unset] [(.int p1s), (.int 0)]) _
          refine XS.ifYes X8.here hx rfl (pc0 := 87) (pc' := 94) rfl (hb hby at_87) rfl ((if0 _ _).trans (flt hc2).2.2.2) (by decide) (by decide) ?_
          show SF p e below T8 (mkF m 94 #[iv p0s, iv p1s, iv 1, iv 0, iv 1, iv 0, iv 0, iv 1, iv 1, .unset, .unset] [(.int 0)]) _
          refine XS.iconst X8.here hx rfl (hb hby at_94) ?_
          show SF p e below T8 (mkF m 95 #[iv p0s, iv p1s, iv 1, iv 0, iv 1, iv 0, iv 0, iv 1, iv 1, .unset, .unset] [(.int 0), (.int 0)]) _
          refine XS.icmpNo X8.here hx rfl (hb hby at_95) rfl (teq (by decide : (0 : Int32) = (0 : Int32))).2 ?_
          show SF p e below T8 (mkF m 98 #[iv p0s, iv p1s, iv 1, iv 0, iv 1, iv 0, iv 0, iv 1, iv 1, .unset, .unset] []) _
          refine XS.iconst X8.here hx rfl (hb hby at_98) ?_
          show SF p e below T8 (mkF m 99 #[iv p0s, iv p1s, iv 1, iv 0, iv 1, iv 0, iv 0, iv 1, iv 1, .unset, .unset] [(.int 1)]) _
          refine XS.goto X8.here hx rfl (pc0 := 99) (pc' := 103) rfl (hb hby at_99) (by decide) (by decide) ?_
          show SF p e below T8 (mkF m 103 #[iv p0s, iv p1s, iv 1, iv 0, iv 1, iv 0, iv 0, iv 1, iv 1, .unset, .unset] [(.int 1)]) _
          refine XS.istore X8.here hx rfl (hb hby at_103) rfl (l' := #[iv p0s, iv p1s, iv 1, iv 0, iv 1, iv 0, iv 0, iv 1, iv 1, iv 1, .unset]) rfl ?_
          show SF p e below T8 (mkF m 105 #[iv p0s, iv p1s, iv 1, iv 0, iv 1, iv 0, iv 0, iv 1, iv 1, iv 1, .unset] []) _
          refine XS.iload X8.here hx rfl (hb hby at_105) rfl ?_
          show SF p e below T8 (mkF m 107 #[iv p0s, iv p1s, iv 1, iv 0, iv 1, iv 0, iv 0, iv 1, iv 1, iv 1, .unset] [(.int 0)]) _
          refine XS.iloadN X8.here hx rfl (hb hby at_107) rfl ?_
          show SF p e below T8 (mkF m 108 #[iv p0s, iv p1s, iv 1, iv 0, iv 1, iv 0, iv 0, iv 1, iv 1, iv 1, .unset] [(.int p1s), (.int 0)]) _
          refine XS.ifYes X8.here hx rfl (pc0 := 108) (pc' := 115) rfl (hb hby at_108) rfl ((if0 _ _).trans (flt hc3).2.1) (by decide) (by decide) ?_
          show SF p e below T8 (mkF m 115 #[iv p0s, iv p1s, iv 1, iv 0, iv 1, iv 0, iv 0, iv 1, iv 1, iv 1, .unset] [(.int 0)]) _
          refine XS.iconst X8.here hx rfl (hb hby at_115) ?_
          show SF p e below T8 (mkF m 116 #[iv p0s, iv p1s, iv 1, iv 0, iv 1, iv 0, iv 0, iv 1, iv 1, iv 1, .unset] [(.int 0), (.int 0)]) _
          refine XS.icmpNo X8.here hx rfl (hb hby at_116) rfl (teq (by decide : (0 : Int32) = (0 : Int32))).2 ?_
          show SF p e below T8 (mkF m 119 #[iv p0s, iv p1s, iv 1, iv 0, iv 1, iv 0, iv 0, iv 1, iv 1, iv 1, .unset] []) _
          refine XS.iconst X8.here hx rfl (hb hby at_119) ?_
          show SF p e below T8 (mkF m 120 #[iv p0s, iv p1s, iv 1, iv 0, iv 1, iv 0, iv 0, iv 1, iv 1, iv 1, .unset] [(.int 1)]) _
          refine XS.goto X8.here hx rfl (pc0 := 120) (pc' := 124) rfl (hb hby at_120) (by decide) (by decide) ?_
          show SF p e below T8 (mkF m 124 #[iv p0s, iv p1s, iv 1, iv 0, iv 1, iv 0, iv 0, iv 1, iv 1, iv 1, .unset] [(.int 1)]) _
          refine XS.istore X8.here hx rfl (hb hby at_124) rfl (l' := #[iv p0s, iv p1s, iv 1, iv 0, iv 1, iv 0, iv 0, iv 1, iv 1, iv 1, iv 1]) rfl ?_
          show SF p e below T8 (mkF m 126 #[iv p0s, iv p1s, iv 1, iv 0, iv 1, iv 0, iv 0, iv 1, iv 1, iv 1, iv 1] []) _
          refine XS.iload X8.here hx rfl (hb hby at_126) rfl ?_
          show SF p e below T8 (mkF m 128 #[iv p0s, iv p1s, iv 1, iv 0, iv 1, iv 0, iv 0, iv 1, iv 1, iv 1, iv 1] [(.int 1)]) _
          refine XS.ifNo X8.here hx rfl (hb hby at_128) rfl ((if0 _ _).trans (feq (by decide : ¬ ((1 : Int32) = (0 : Int32)))).1) ?_
          show SF p e below T8 (mkF m 131 #[iv p0s, iv p1s, iv 1, iv 0, iv 1, iv 0, iv 0, iv 1, iv 1, iv 1, iv 1] []) _
          refine XS.iload X8.here hx rfl (hb hby at_131) rfl ?_
          show SF p e below T8 (mkF m 133 #[iv p0s, iv p1s, iv 1, iv 0, iv 1, iv 0, iv 0, iv 1, iv 1, iv 1, iv 1] [(.int 1)]) _
          refine XS.ifNo X8.here hx rfl (hb hby at_133) rfl ((if0 _ _).trans (feq (by decide : ¬ ((1 : Int32) = (0 : Int32)))).1) ?_
          show SF p e below T8 (mkF m 136 #[iv p0s, iv p1s, iv 1, iv 0, iv 1, iv 0, iv 0, iv 1, iv 1, iv 1, iv 1] []) _
          refine XS.iload X8.here hx rfl (hb hby at_136) rfl ?_
          show SF p e below T8 (mkF m 138 #[iv p0s, iv p1s, iv 1, iv 0, iv 1, iv 0, iv 0, iv 1, iv 1, iv 1, iv 1] [(.int 1)]) _
          refine XS.ifNo X8.here hx rfl (hb hby at_138) rfl ((if0 _ _).trans (feq (by decide : ¬ ((1 : Int32) = (0 : Int32)))).1) ?_
          show SF p e below T8 (mkF m 141 #[iv p0s, iv p1s, iv 1, iv 0, iv 1, iv 0, iv 0, iv 1, iv 1, iv 1, iv 1] []) _
          refine XS.iload X8.here hx rfl (hb hby at_141) rfl ?_
          show SF p e below T8 (mkF m 143 #[iv p0s, iv p1s, iv 1, iv 0, iv 1, iv 0, iv 0, iv 1, iv 1, iv 1, iv 1] [(.int 1)]) _
          refine XS.ifNo X8.here hx rfl (hb hby at_143) rfl ((if0 _ _).trans (feq (by decide : ¬ ((1 : Int32) = (0 : Int32)))).1) ?_
          show SF p e below T8 (mkF m 146 #[iv p0s, iv p1s, iv 1, iv 0, iv 1, iv 0, iv 0, iv 1, iv 1, iv 1, iv 1] []) _
          refine XS.iconst X8.here hx rfl (hb hby at_146) ?_
          show SF p e below T8 (mkF m 147 #[iv p0s, iv p1s, iv 1, iv 0, iv 1, iv 0, iv 0, iv 1, iv 1, iv 1, iv 1] [(.int 1)]) _
          refine XS.goto X8.here hx rfl (pc0 := 147) (pc' := 151) rfl (hb hby at_147) (by decide) (by decide) ?_
          show SF p e below T8 (mkF m 151 #[iv p0s, iv p1s, iv 1, iv 0, iv 1, iv 0, iv 0, iv 1, iv 1, iv 1, iv 1] [(.int 1)]) _
          exact retN X8 hx (t := .boolean) hre (by simp) (hb hby at_151) hr
        · exact ⟨rfl, N8⟩
set_option maxRecDepth 65536 in
set_option maxHeartbeats 40000000 in
theorem comes_1 {Post : Tables → Env → Array Value → State → Outcome → State → Prop} (hpost : ∀ tb e args s v u, (limb_1_1.after args s (.returned v) u = true ∧ limb_1_2.after args s (.returned v) u = true ∧ True) → FrameEnd s (.returned v) u (Jvm.fieldLocs frame_1_writes args s ++ Jvm.arrayLocs frame_1_arrays args s ++ Jvm.staticLocs frame_1_statics s) 0 0 → Post tb e args s (.returned v) u) :
    ArmFor flags0 classFile x code maxLocals ret World_1 tables_1 room_1 Calls_1 rest_1 Pre_1 Post := by
  intro l hfl _ _ p e ha hc hk s m args below hf hA hF happ hP
  obtain ⟨hcalls, hrest, hpre⟩ := hP
  obtain ⟨-, -, -, hnamed, -, -, -, hat⟩ := (Spec.applies_iff hf).mp happ
  obtain ⟨hg, hn⟩ := and_e (Cond.before_iff.mp (show (Jvm.Cond.and given_1 narrow_1).before args s = true from hpre))
  obtain ⟨gv0, gr0⟩ := and_e hg
  obtain ⟨gv1, gr1⟩ := and_e gr0
  have gv2 := gr1
  obtain ⟨av0, av1, rfl⟩ : ∃ av0 av1 : Value, args = #[av0, av1] := by
    have hs : args.size = 2 := by simpa [Cond.value, given_1] using gv0
    obtain ⟨L⟩ := args
    match L, hs with
    | [av0, av1], _ => exact ⟨av0, av1, rfl⟩
  have hw := fun d (hd : d ∈ tables_1) => atoms_spec (ws := Jvm.Cond.code x code maxLocals ret :: tables_1) hat d (List.mem_cons_of_mem _ hd)
  have hfit : Fit s := fun {y c} hc i hi => by
    obtain ⟨ha, rfl⟩ := Array.getElem?_eq_some_iff.mp hc
    have q := List.all_eq_true.mp ((Array.all_eq_true_iff_forall_mem.mp hF) _ (Array.getElem_mem ha)) i (List.mem_range.mpr hi)
    simpa [Array.getElem?_eq_getElem hi] using q
  obtain ⟨p0s, ei0⟩ := is_v gv1
  obtain rfl : av0 = (.int p0s) := Option.some.inj ei0
  obtain ⟨p1s, ei1⟩ := is_v gv2
  obtain rfl : av1 = (.int p1s) := Option.some.inj ei1
  obtain ⟨nv0, nr0⟩ := and_e hn
  obtain ⟨nv1, nr1⟩ := and_e nr0
  obtain ⟨nv2, nr2⟩ := and_e nr1
  obtain ⟨nv3, nr3⟩ := and_e nr2
  obtain ⟨nv4, nr4⟩ := and_e nr3
  obtain ⟨nv5, nr5⟩ := and_e nr4
  obtain ⟨nv6, nr6⟩ := and_e nr5
  obtain ⟨w1, ev_w1⟩ := exa_v nv0
  have S0 : Sta s s.heap "com/example/afterlog/afterlog/Condition" "NX" "Lcom/example/afterlog/afterlog/Condition;" (.ref w1) := Sta.start ev_w1 (Or.inr ⟨(tw hw 1 rfl), (tw hw 2 rfl)⟩)
  have E_w1 : Exa s s.heap w1 "com/example/afterlog/afterlog/Condition" := Exa.start ev_w1 nv0
  obtain ⟨w2, ev_w2⟩ := exa_v nv2
  have S2 : Sta s s.heap "com/example/afterlog/afterlog/Condition" "XX" "Lcom/example/afterlog/afterlog/Condition;" (.ref w2) := Sta.start ev_w2 (Or.inr ⟨(tw hw 1 rfl), (tw hw 18 rfl)⟩)
  have E_w2 : Exa s s.heap w2 "com/example/afterlog/afterlog/Condition" := Exa.start ev_w2 nv2
  obtain ⟨w3, ev_w3⟩ := exa_v nv4
  have S4 : Sta s s.heap "com/example/afterlog/afterlog/Condition" "GT" "Lcom/example/afterlog/afterlog/Condition;" (.ref w3) := Sta.start ev_w3 (Or.inr ⟨(tw hw 1 rfl), (tw hw 20 rfl)⟩)
  have E_w3 : Exa s s.heap w3 "com/example/afterlog/afterlog/Condition" := Exa.start ev_w3 nv4
  obtain ⟨w4, ev_w4⟩ := exa_v nv6
  have S6 : Sta s s.heap "com/example/afterlog/afterlog/Condition" "LT" "Lcom/example/afterlog/afterlog/Condition;" (.ref w4) := Sta.start ev_w4 (Or.inr ⟨(tw hw 1 rfl), (tw hw 22 rfl)⟩)
  have E_w4 : Exa s s.heap w4 "com/example/afterlog/afterlog/Condition" := Exa.start ev_w4 nv6
  have F_w1_ordinal : Fld s s.heap w1 "java/lang/Enum" "ordinal" "I" (.int 0) := Fld.start ((fld_at ev_w1).symm.trans (own_eqv nv1 (Term.int_eval (0))))
  have F_w2_ordinal : Fld s s.heap w2 "java/lang/Enum" "ordinal" "I" (.int 1) := Fld.start ((fld_at ev_w2).symm.trans (own_eqv nv3 (Term.int_eval (1))))
  have F_w3_ordinal : Fld s s.heap w3 "java/lang/Enum" "ordinal" "I" (.int 2) := Fld.start ((fld_at ev_w3).symm.trans (own_eqv nv5 (Term.int_eval (2))))
  have F_w4_ordinal : Fld s s.heap w4 "java/lang/Enum" "ordinal" "I" (.int 3) := Fld.start ((fld_at ev_w4).symm.trans (own_eqv nr6 (Term.int_eval (3))))
  have O0 := Old.start s
  obtain ⟨n, o, h1, h2, h3, _, L, rfl, ⟨rfl, N⟩, hq⟩ := rm0 l s _ hw tables_1 p0s p1s w1 w2 w3 w4 s.heap s.heap.size (Nat.le_refl _) O0 S0 E_w1 S2 E_w2 S4 E_w3 S6 E_w4 F_w1_ordinal F_w2_ordinal F_w3_ordinal F_w4_ordinal p e ha hc hk s m _ below hf ((Spec.applies_iff_loose hf).mp happ).1 ⟨rfl, State.Warmed39.refl s, rfl⟩ trivial
  refine ⟨n, _, h1, h2, h3, hpost _ _ _ _ _ _ ⟨Cond.after_iff.mpr rfl, Cond.after_iff.mpr (eq_i res_at (Term.int_eval (1)) rfl), trivial⟩ ⟨hq.1, hq.2.1, (hq.2.2.sift fun y hy => Or.inr (N y hy)).mono (by decide) (by decide)⟩⟩
theorem main_1_1 : Claimed_1_1 := comes_1 fun _ _ _ _ _ _ h hF => ⟨h.1, hF⟩
theorem main_1_2 : Claimed_1_2 := comes_1 fun _ _ _ _ _ _ h hF => ⟨h.2.1, hF⟩
end Jvm.Pilot.@@N@@
namespace Jvm.Pilot.@@N@@
open Jvm Jvm.ClassFile Sem Op Lib Jvm.Free Jvm.Stand Jvm.Pilot.@@N@@.Jvm.D
/-! MADE BY PROGRAM (witnessworld.py) out of the Statement's table words and the real class files: 12 classes; the members and pool entries that the words name. The judged class is class 1, her method 1. -/
namespace start1
open Jvm.ClassFile
def u (s : String) : CpInfo := .utf8 (stringToUtf16 s)
/-- a pool by its gaps: so many unusable entries, then the entry; so many at the end -/
def gap : Nat → List CpInfo → List CpInfo
  | 0, r => r
  | n + 1, r => .unusable :: gap n r
def poolList (es : List (Nat × CpInfo)) (last : Nat) : List CpInfo := es.foldr (fun e r => gap e.1 (e.2 :: r)) (gap last [])
def pool (es : List (Nat × CpInfo)) (last : Nat) : Array CpInfo := ⟨poolList es last⟩
def fileOf (pool : Array CpInfo) (this : Nat) (attrs : Array Attribute := #[]) (ms : Array MethodInfo := #[]) (fl : Nat := 33) (sup : Nat := 0) (ifs : Array Nat := #[]) (fds : Array FieldInfo := #[]) : ClassFile where
  minorVersion := 0
  majorVersion := 65
  constantPool := pool
  accessFlags := fl
  thisClass := this
  superClass := sup
  interfaces := ifs
  fields := fds
  methods := ms
  attributes := attrs
def plain (name : String) (sup : Option ClassId) : Class where
  name := name
  kind := .ordinary
  loader := none
  accessFlags := 33
  super := sup
  interfaces := #[]
  cf := none
  fields := #[]
  methods := #[]
  instanceTypes := #[]
  staticTypes := #[]
  resolved := #[]
  callSites := []
  init := .initialized
  statics := none
  mirror := none

def pool0 : Array CpInfo := pool [(5, u "<init>"), (0, u "()V"), (1, .class_ 10), (1, u "java/lang/Object")] 113

def k0m0 : Method := { name := "<init>", desc := "()V", sig := { parameters := [], returnType := none }, accessFlags := 1, code := none }
/-- java/lang/Object -/
def k0 : Class := { plain "java/lang/Object" none with
  accessFlags := 33
  interfaces := #[]
  cf := some (fileOf pool0 8 #[] #[{ accessFlags := 1, nameIndex := 5, descriptorIndex := 6, attributes := #[] }] 33 0 #[] #[])
  fields := #[]
  methods := #[k0m0]
  instanceTypes := #[]
  staticTypes := #[]
  resolved := Array.replicate 124 none
  statics := none }

def pool1 : Array CpInfo := pool [(2, .class_ 4), (1, u "java/lang/Object"), (0, u "<init>"), (0, u "()V"), (0, .fieldref 8 9), (0, .class_ 10), (0, .nameAndType 11 12), (0, u "com/example/afterlog/afterlog/Condition"), (0, u "NX"), (0, u "Lcom/example/afterlog/afterlog/Condition;"), (0, .methodref 8 14), (0, .nameAndType 15 16), (0, u "admits"), (0, u "(ZI)Z"), (0, .fieldref 8 18), (0, .nameAndType 19 12), (0, u "XX"), (0, .fieldref 8 21), (0, .nameAndType 22 12), (0, u "GT"), (0, .fieldref 8 24), (0, .nameAndType 25 12), (0, u "LT"), (0, .class_ 27), (0, u "com/example/afterlog/afterlog/ConditionAdmitsPinLaw"), (2, u "law"), (0, u "(II)Z")] 3

def k1m0 : Method := { name := "<init>", desc := "()V", sig := { parameters := [], returnType := none }, accessFlags := 1, code := none }
def k1c1 : Code := { maxStack := 3, maxLocals := 11, code := code, exceptionTable := #[], attributes := #[] }
def k1m1 : Method := { name := "law", desc := "(II)Z", sig := { parameters := [.int, .int], returnType := some .boolean }, accessFlags := 9, code := some k1c1 }
/-- com/example/afterlog/afterlog/ConditionAdmitsPinLaw -/
def k1 : Class := { plain "com/example/afterlog/afterlog/ConditionAdmitsPinLaw" (some 0) with
  accessFlags := 49
  interfaces := #[]
  cf := some (fileOf pool1 26 #[] #[{ accessFlags := 1, nameIndex := 5, descriptorIndex := 6, attributes := #[] }, { accessFlags := 9, nameIndex := 30, descriptorIndex := 31, attributes := #[] }] 49 2 #[] #[])
  fields := #[]
  methods := #[k1m0, k1m1]
  instanceTypes := #[]
  staticTypes := #[]
  resolved := Array.replicate 35 none
  statics := none }

def pool2 : Array CpInfo := pool [(1, .class_ 2), (0, u "java/lang/constant/Constable"), (0, .class_ 4), (0, u "java/lang/Object")] 6

/-- java/lang/constant/Constable -/
def k2 : Class := { plain "java/lang/constant/Constable" (some 0) with
  accessFlags := 1537
  interfaces := #[]
  cf := some (fileOf pool2 1 #[] #[] 1537 3 #[] #[])
  fields := #[]
  methods := #[]
  instanceTypes := #[]
  staticTypes := #[]
  resolved := Array.replicate 11 none
  statics := none }

def pool3 : Array CpInfo := pool [(1, .class_ 2), (0, u "java/lang/Comparable"), (0, .class_ 4), (0, u "java/lang/Object")] 7

/-- java/lang/Comparable -/
def k3 : Class := { plain "java/lang/Comparable" (some 0) with
  accessFlags := 1537
  interfaces := #[]
  cf := some (fileOf pool3 1 #[] #[] 1537 3 #[] #[])
  fields := #[]
  methods := #[]
  instanceTypes := #[]
  staticTypes := #[]
  resolved := Array.replicate 12 none
  statics := none }

def pool4 : Array CpInfo := pool [(1, .class_ 2), (0, u "java/io/Serializable"), (0, .class_ 4), (0, u "java/lang/Object")] 2

/-- java/io/Serializable -/
def k4 : Class := { plain "java/io/Serializable" (some 0) with
  accessFlags := 1537
  interfaces := #[]
  cf := some (fileOf pool4 1 #[] #[] 1537 3 #[] #[])
  fields := #[]
  methods := #[]
  instanceTypes := #[]
  staticTypes := #[]
  resolved := Array.replicate 7 none
  statics := none }

def pool5 : Array CpInfo := pool [(2, .class_ 4), (1, u "java/lang/Enum"), (0, u "name"), (0, u "Ljava/lang/String;"), (0, .fieldref 2 8), (0, .nameAndType 9 10), (0, u "ordinal"), (0, u "I"), (1, .class_ 14), (1, u "java/lang/Object"), (4, u "hash"), (86, .class_ 108), (1, u "java/lang/Enum$EnumDesc"), (2, .class_ 112), (0, u "java/lang/constant/Constable"), (0, .class_ 114), (0, u "java/lang/Comparable"), (0, .class_ 116), (0, u "java/io/Serializable"), (9, u "()I")] 77

def k5c0 : Code := { maxStack := 1, maxLocals := 1, code := jdk_37_method_2_code, exceptionTable := #[], attributes := #[] }
def k5m0 : Method := { name := "ordinal", desc := "()I", sig := { parameters := [], returnType := some .int }, accessFlags := 17, code := some k5c0 }
/-- java/lang/Enum -/
def k5 : Class := { plain "java/lang/Enum" (some 0) with
  accessFlags := 1057
  interfaces := #[2, 3, 4]
  cf := some (fileOf pool5 2 #[.nestMembers #[106]] #[{ accessFlags := 17, nameIndex := 9, descriptorIndex := 126, attributes := #[] }] 1057 12 #[111, 113, 115] #[{ accessFlags := 18, nameIndex := 5, descriptorIndex := 6, attributes := #[] }, { accessFlags := 18, nameIndex := 9, descriptorIndex := 10, attributes := #[] }, { accessFlags := 2, nameIndex := 19, descriptorIndex := 10, attributes := #[] }])
  fields := #[{ name := "name", type := (.object "java/lang/String"), accessFlags := 18, slot := 0, constantValue := 0 }, { name := "ordinal", type := .int, accessFlags := 18, slot := 1, constantValue := 0 }, { name := "hash", type := .int, accessFlags := 2, slot := 2, constantValue := 0 }]
  methods := #[k5m0]
  instanceTypes := #[(.object "java/lang/String"), .int, .int]
  staticTypes := #[]
  resolved := Array.replicate 204 none
  statics := none }

def pool6 : Array CpInfo := pool [(1, .class_ 2), (0, u "com/example/afterlog/afterlog/Condition"), (2, u "NX"), (0, u "Lcom/example/afterlog/afterlog/Condition;"), (2, u "XX"), (2, u "GT"), (2, u "LT"), (2, u "$VALUES"), (0, u "[Lcom/example/afterlog/afterlog/Condition;"), (6, .class_ 28), (1, u "java/lang/Enum"), (15, u "()I"), (4, .methodref 1 50), (0, .nameAndType 51 44), (0, u "ordinal"), (27, u "admits"), (0, u "(ZI)Z")] 4

def k6c0 : Code := { maxStack := 4, maxLocals := 3, code := prog_9_method_5_code, exceptionTable := #[], attributes := #[] }
def k6m0 : Method := { name := "admits", desc := "(ZI)Z", sig := { parameters := [.boolean, .int], returnType := some .boolean }, accessFlags := 0, code := some k6c0 }
/-- com/example/afterlog/afterlog/Condition -/
def k6 : Class := { plain "com/example/afterlog/afterlog/Condition" (some 5) with
  accessFlags := 16432
  interfaces := #[]
  cf := some (fileOf pool6 1 #[] #[{ accessFlags := 0, nameIndex := 79, descriptorIndex := 80, attributes := #[] }] 16432 26 #[] #[{ accessFlags := 16409, nameIndex := 5, descriptorIndex := 6, attributes := #[] }, { accessFlags := 16409, nameIndex := 9, descriptorIndex := 6, attributes := #[] }, { accessFlags := 16409, nameIndex := 12, descriptorIndex := 6, attributes := #[] }, { accessFlags := 16409, nameIndex := 15, descriptorIndex := 6, attributes := #[] }, { accessFlags := 4122, nameIndex := 18, descriptorIndex := 19, attributes := #[] }])
  fields := #[{ name := "NX", type := (.object "com/example/afterlog/afterlog/Condition"), accessFlags := 16409, slot := 0, constantValue := 0 }, { name := "XX", type := (.object "com/example/afterlog/afterlog/Condition"), accessFlags := 16409, slot := 1, constantValue := 0 }, { name := "GT", type := (.object "com/example/afterlog/afterlog/Condition"), accessFlags := 16409, slot := 2, constantValue := 0 }, { name := "LT", type := (.object "com/example/afterlog/afterlog/Condition"), accessFlags := 16409, slot := 3, constantValue := 0 }, { name := "$VALUES", type := (.array (.object "com/example/afterlog/afterlog/Condition")), accessFlags := 4122, slot := 4, constantValue := 0 }]
  methods := #[k6m0]
  instanceTypes := #[(.object "java/lang/String"), .int, .int]
  staticTypes := #[(.object "com/example/afterlog/afterlog/Condition"), (.object "com/example/afterlog/afterlog/Condition"), (.object "com/example/afterlog/afterlog/Condition"), (.object "com/example/afterlog/afterlog/Condition"), (.array (.object "com/example/afterlog/afterlog/Condition"))]
  resolved := Array.replicate 85 none
  statics := some 0 }

def pool7 : Array CpInfo := pool [(1, u "java/lang/Cloneable"), (0, .class_ 1), (0, u "java/lang/Object"), (0, .class_ 3)] 3

/-- java/lang/Cloneable -/
def k7 : Class := { plain "java/lang/Cloneable" (some 0) with
  accessFlags := 1537
  interfaces := #[]
  cf := some (fileOf pool7 2 #[] #[] 1537 4 #[] #[])
  fields := #[]
  methods := #[]
  instanceTypes := #[]
  staticTypes := #[]
  resolved := Array.replicate 8 none
  statics := none }

/-- the primitive byte -/
def k8 : Class := { plain "byte" none with kind := .primitive 'B', accessFlags := 0x411 }
/-- [B -/
def k9 : Class := { plain "[B" (some 0) with kind := .array 8 .byte, interfaces := #[7, 4], accessFlags := 1041 }

/-- the primitive int -/
def k10 : Class := { plain "int" none with kind := .primitive 'I', accessFlags := 0x411 }
/-- [I -/
def k11 : Class := { plain "[I" (some 0) with kind := .array 10 .int, interfaces := #[7, 4], accessFlags := 1041 }

def heap : Heap := #[{ cls := 6, slots := #[.ref 1, .ref 2, .ref 3, .ref 4, .null], vm := .statics 6 },
  { cls := 6, slots := #[.null, .int 0, .int 0], vm := .none },
  { cls := 6, slots := #[.null, .int 1, .int 0], vm := .none },
  { cls := 6, slots := #[.null, .int 2, .int 0], vm := .none },
  { cls := 6, slots := #[.null, .int 3, .int 0], vm := .none }]
def classes : Array Class := #[k0, k1, k2, k3, k4, k5, k6, k7, k8, k9, k10, k11]
def interned : List (Array UInt16 × Addr) := []
def slotsUsed : Nat := 17
def theMethod : MethodId := ⟨1, 1⟩
def args0 : Array Value := #[.int 5, .int 3]
def aboutOver (below : List Frame) : State where
  vm := { classes := classes, interned := interned.toArray }
  heap := heap
  slotsUsed := slotsUsed
  threads := #[{ frames := .invoking theMethod args0 :: below }]
def below0 : List Frame := [.native { method := ⟨0, 0⟩, args := #[] }]
def about1 : State := aboutOver below0
def p0 : Program := .bare "" "" ""
def e0 : Env := launch0.env 0 0 0
theorem w_frames : about1.frames = Frame.invoking theMethod args0 :: below0 := rfl
set_option maxRecDepth 65536 in
theorem w_args : argsFit about1.vm theMethod args0 = true := by decide +kernel
set_option maxRecDepth 65536 in
theorem w_heap : heapFits about1 = true := by decide +kernel
set_option maxRecDepth 65536 in
theorem w_runnable : about1.curStatus? = some .runnable := by decide +kernel
set_option maxRecDepth 65536 in
theorem w_alone : about1.alone = true := by decide +kernel
set_option maxRecDepth 65536 in
theorem w_named : about1.methodNamed? x = some theMethod := by decide +kernel
set_option maxRecDepth 65536 in
theorem w_hears : about1.hears theMethod below0 = true := by decide +kernel
set_option maxRecDepth 65536 in
theorem w_ripe : about1.ripe theMethod args0 below0 = true := by decide +kernel
theorem w_running : about1.status = .running := rfl
set_option maxRecDepth 65536 in
theorem w_room : about1.hasRoom e0.platform room_1 = true :=
  launch0.hasRoom_least _ room_1 (by decide +kernel) (by decide +kernel) (by decide +kernel) (by decide +kernel) (by decide +kernel) (by decide +kernel)
theorem allAtoms_all (ts : List Jvm.Cond) (a : Array Jvm.Value) (st : Jvm.State) : (allAtoms ts).before a st = ts.all (fun c => c.before a st) := by
  induction ts with
  | nil => rfl
  | cons c t ih =>
    show (Jvm.Cond.and c (allAtoms t)).before a st = _
    rw [Jvm.Cond.before_and, ih, List.all_cons]
def words1 : List Jvm.Cond := Jvm.Cond.code x code maxLocals ret :: tables_1
/-- a 'code' word, met by the world's own term for the bytes: nothing is compared byte by byte -/
theorem code_word {y : MethodName} {bytes : ByteArray} {mx : Nat} {rt : Option FieldType} {a : Array Value} {s : State} {m : MethodId} {meth : Method} {c : Code} (h1 : s.methodNamed? y = some m) (h2 : s.vm.method? m = some meth) (h3 : meth.code = some c) (h4 : c.code = bytes)
    (h5 : (c.maxLocals == mx && c.exceptionTable.isEmpty && decide (c.maxStack ≤ mostOperands) && decide (meth.sig.returnType = rt) && !meth.locks && decide (parseMethodDescriptor y.desc = some meth.sig)) = true) : (Jvm.Cond.code y bytes mx rt).before a s = true := by
  simp only [Bool.and_eq_true, beq_iff_eq, Bool.not_eq_true', decide_eq_true_eq] at h5
  obtain ⟨⟨⟨⟨⟨g1, g2⟩, g3⟩, g4⟩, g5⟩, g6⟩ := h5
  simp [Cond.before, Cond.holds, Cond.value, h1, h2, h3, h4, g1, g2, g3, g4, g5, g6]
def isCode : Jvm.Cond → Bool
  | .code _ _ _ _ => true
  | _ => false
theorem all_split {L : List Jvm.Cond} {P : Jvm.Cond → Bool} (h1 : L.all (fun c => isCode c || P c) = true) (h2 : ∀ c ∈ L.filter isCode, P c = true) : L.all P = true := by
  refine List.all_eq_true.mpr fun c hc => ?_
  have h := List.all_eq_true.mp h1 c hc
  rcases Bool.eq_false_or_eq_true (isCode c) with hi | hi
  · exact h2 c (List.mem_filter.mpr ⟨hc, hi⟩)
  · simpa [hi] using h
set_option maxRecDepth 65536 in
theorem w_c0 : (Jvm.Cond.code x code maxLocals ret).before args0 about1 = true := code_word (m := ⟨1, 1⟩) (meth := k1m1) (c := k1c1) (by decide +kernel) rfl rfl rfl (by decide +kernel)
set_option maxRecDepth 65536 in
theorem w_c1 : (Jvm.Cond.code ({ cls := "com/example/afterlog/afterlog/Condition", name := "admits", desc := "(ZI)Z" } : Jvm.MethodName) prog_9_method_5_code (3 : Nat) (Option.some Jvm.ClassFile.FieldType.boolean)).before args0 about1 = true := code_word (m := ⟨6, 0⟩) (meth := k6m0) (c := k6c0) (by decide +kernel) rfl rfl rfl (by decide +kernel)
set_option maxRecDepth 65536 in
theorem w_c2 : (Jvm.Cond.code ({ cls := "java/lang/Enum", name := "ordinal", desc := "()I" } : Jvm.MethodName) jdk_37_method_2_code (1 : Nat) (Option.some Jvm.ClassFile.FieldType.int)).before args0 about1 = true := code_word (m := ⟨5, 0⟩) (meth := k5m0) (c := k5c0) (by decide +kernel) rfl rfl rfl (by decide +kernel)
def codes1 : List Jvm.Cond := [Jvm.Cond.code x code maxLocals ret, Jvm.Cond.code ({ cls := "com/example/afterlog/afterlog/Condition", name := "admits", desc := "(ZI)Z" } : Jvm.MethodName) prog_9_method_5_code (3 : Nat) (Option.some Jvm.ClassFile.FieldType.boolean), Jvm.Cond.code ({ cls := "java/lang/Enum", name := "ordinal", desc := "()I" } : Jvm.MethodName) jdk_37_method_2_code (1 : Nat) (Option.some Jvm.ClassFile.FieldType.int)]
set_option maxRecDepth 65536 in
theorem codes_eq : words1.filter isCode = codes1 := rfl
theorem w_codes : ∀ c ∈ words1.filter isCode, c.before args0 about1 = true := by
  rw [codes_eq]
  intro c hc
  simp only [codes1, List.mem_cons, List.not_mem_nil, or_false] at hc
  rcases hc with rfl | rfl | rfl
  · exact w_c0
  · exact w_c1
  · exact w_c2
set_option maxRecDepth 65536 in
theorem w_t1 : words1.all (fun c => isCode c || c.before args0 about1) = true := by decide +kernel
theorem w_tables : (allAtoms (Jvm.Cond.code x code maxLocals ret :: tables_1)).before args0 about1 = true := by
  rw [allAtoms_all]
  show words1.all (fun c => c.before args0 about1) = true
  refine all_split ?_ w_codes
  rw [w_t1]
set_option maxRecDepth 65536 in
theorem w_case : (Jvm.Cond.and given_1 narrow_1).before args0 about1 = true := by decide +kernel
theorem w_applies : (headSpec (Jvm.Cond.code x code maxLocals ret :: tables_1) room_1).applies x e0.platform about1 = true :=
  (Spec.applies_iff w_frames).mpr ⟨w_running, w_runnable, w_alone, w_named, w_hears, w_ripe, w_room, w_tables⟩
theorem atStart : AtStart classFile x code maxLocals ret World_1 tables_1 room_1 Calls_1 rest_1 Pre_1 launch0 p0 e0 about1 theMethod args0 below0 :=
  ⟨lists_1, trivial, launch0.admits_env _ _ _, launch0.least_env, fairChoices_fair.cas, fairChoices_fair.clock, w_frames, w_args, w_heap, w_applies, trivial, trivial, w_case⟩
end start1
theorem witness_1 : WitnessClaimed_1 := ⟨start1.p0, start1.e0, start1.about1, start1.theMethod, start1.args0, start1.below0, start1.atStart⟩
end Jvm.Pilot.@@N@@
