import JvmDerived
import JvmDerived.Pilot.@@N@@Statement
import JvmDerived.Pilot.@@N@@Code
set_option linter.unusedVariables false
set_option linter.unusedSimpArgs false
namespace Jvm.RoadKit
open Sem ClassFile Op Lib Jvm.Stand Jvm.Free Jvm.LawKit
section New
variable {p : Program} {l : Launch} {e : Env} {R : Room} {s : State} {m : MethodId} {args : Array Value} {below : List Frame} {meth : Method} {c : Code} {T : State} {locs : List Loc} {cells slots : Nat}
theorem retI (X : Stand p l e R s m args below meth c T locs cells slots) (hx : p.tables.exec = Jvm.exec) {pc : Nat} {Ls : Array Slot} {z : Int32} {rest : List Value} (hret : meth.sig.returnType = some .int) (hd : decode c.code pc = .ok (.ireturn, 1)) {fs : List Frame}
    (hl : ∀ (f : JFrame) (acts : List Action), f.method = m → f.locked = none → f.entered = [] → (doReturn e (T.setTop f) acts (some (.int z))).1 = T.setFrames fs) : Steps p.tables e below (T.setTop (mkF m pc Ls (.int z :: rest))) (T.setFrames fs) := by
  have hm' : T.vm.method? m = some meth := X.method'
  have hn : narrow .int (.int z) = .int z := rfl
  show Steps p.tables e below (T.setTop { method := m, pc := pc, locals := Ls, stack := _ :: rest, locked := none }) _
  jvm_step X.here [X.here.top, hx, hd, hm', hret, hn]
  first | (intro acts; rw [hl _ acts rfl rfl rfl]) | rw [hl _ _ rfl rfl rfl]
  exact Steps.refl _
theorem own_retR (X : Stand p l e R s m args below meth c T locs cells slots) (hx : p.tables.exec = Jvm.exec) {pc : Nat} {Ls : Array Slot} {w : Value} {t : FieldType} {rest : List Value} (hret : meth.sig.returnType = some t) (ht : t.isReference = true) (hw : w.isRef = true) (hd : decode c.code pc = .ok (.areturn, 1)) {fs : List Frame}
    (hl : ∀ (f : JFrame) (acts : List Action), f.method = m → f.locked = none → f.entered = [] → (doReturn e (T.setTop f) acts (some w)).1 = T.setFrames fs) : Steps p.tables e below (T.setTop (mkF m pc Ls (w :: rest))) (T.setFrames fs) :=
  retOut X hx hret (by rcases ref_cases hw with rfl | ⟨z, rfl⟩ <;> cases t <;> first | rfl | (cases ht; done)) (Or.inr (Or.inr (Or.inr (Or.inr ⟨rfl, ht, hw⟩)))) hd hl
theorem own_retJ (X : Stand p l e R s m args below meth c T locs cells slots) (hx : p.tables.exec = Jvm.exec) {pc : Nat} {Ls : Array Slot} {z : Int64} {rest : List Value} (hret : meth.sig.returnType = some .long) (hd : decode c.code pc = .ok (.lreturn, 1)) {fs : List Frame}
    (hl : ∀ (f : JFrame) (acts : List Action), f.method = m → f.locked = none → f.entered = [] → (doReturn e (T.setTop f) acts (some (.long z))).1 = T.setFrames fs) : Steps p.tables e below (T.setTop (mkF m pc Ls (.long z :: rest))) (T.setFrames fs) :=
  retOut X hx hret rfl (Or.inr (Or.inl ⟨rfl, rfl, z, rfl⟩)) hd hl
end New
theorem own_eqv {args : Array Value} {first s : State} {o : Option Outcome} {idx : List Nat} {a b : Term} {v : Value} (h : (Jvm.Cond.eq a b).value args first o s idx = some true) (hb : b.eval args first o idx s = some v) (hk : (match v with | .int _ => true | .ref _ => true | .long _ => true | _ => false) = true := by rfl) : a.eval args first o idx s = some v := by
  simp only [Cond.value, hb] at h
  cases ha : a.eval args first o idx s with
  | none => simp [ha] at h
  | some x => cases x <;> cases v <;> simp_all
theorem own_selP {Z s : State} {a0 args : Array Value} {y : MethodName} {n : Nat} (hZ : Z.Warmed39 s.vm) (wi : (Cond.instantiable y.cls n).before a0 Z = true) (wp : (Cond.privateMethod y).before a0 Z = true) (wm : (Cond.instanceMethod y).before a0 Z = true) (hy : y.cls ≠ "java/lang/invoke/MethodHandle" ∧ y.cls ≠ "java/lang/invoke/VarHandle") : (Cond.selects y.cls y y).before args s = true := by
  have wi' : (Cond.instantiable y.cls n).before args s = true := mvT hZ wi
  have wm' : (Cond.instanceMethod y).before args s = true := mvT hZ wm
  obtain ⟨c, k, h1, h2, -, h4, -⟩ := Cond.instantiable_spec wi'
  simp only [Bool.or_eq_false_iff] at h4
  exact selects_self_of_private h1 h2 h4.1 (Cond.privateMethod_at (mvP hZ wp (args := #[]))) wm' hy
theorem own_selQ {Z s : State} {a0 args : Array Value} {y : MethodName} {y' : MethodName} {n' d' : String} (hZ : Z.Warmed39 s.vm) (wi : (Cond.selects y.cls y' ⟨y.cls, n', d'⟩).before a0 Z = true) (wp : (Cond.privateMethod y).before a0 Z = true) (wm : (Cond.instanceMethod y).before a0 Z = true) (hy : y.cls ≠ "java/lang/invoke/MethodHandle" ∧ y.cls ≠ "java/lang/invoke/VarHandle") : (Cond.selects y.cls y y).before args s = true := by
  have wi' : (Cond.selects y.cls y' ⟨y.cls, n', d'⟩).before args s = true := mvT hZ wi
  have wm' : (Cond.instanceMethod y).before args s = true := mvT hZ wm
  obtain ⟨c2, r2, m2, -, -, q3, -, kP, hkP, hkPi⟩ := Cond.selects_spec wi'
  have hc := findClass_of_methodNamed q3
  exact selects_self_of_private (c := m2.cls) hc hkP hkPi (Cond.privateMethod_at (mvP hZ wp (args := #[]))) wm' hy
theorem own_len {args : Array Value} {s : State} {t : Term} {a : Addr} {cl : Cell} {ty : FieldType} {z : Int32} (ht : t.eval args s none [] s = some (.ref a)) (A : Arr s s.heap a cl ty) (h : (Term.length t).eval args s none [] s = some (.int z)) : cl.slots.size < 2 ^ 31 ∧ cl.slots.size.toInt32 = z := by
  have e := A.fin (Vm.Alike.refl _)
  simp only [Term.eval, ht, e, Option.bind_eq_bind, Option.bind_some] at h
  split at h <;> simp_all
end Jvm.RoadKit
namespace Jvm.Pilot.@@N@@
open Jvm Jvm.ClassFile Sem Op Lib Jvm.Free Jvm.Stand Jvm.LawKit Jvm.RoadKit Bundle Jvm.Pilot.@@N@@.Jvm.D
theorem tw {Z : State} {a0 : Array Value} (hw : ∀ d ∈ tables_1, d.before a0 Z = true) (i : Nat) {d : Jvm.Cond} (h : tables_1[i]? = some d) : d.before a0 Z = true := hw d (List.mem_of_getElem? h)
abbrev MF (l : Launch) (Z : State) (y : MethodName) (cd : Jvm.Cond) (ws : List Jvm.Cond) (rm : Room) (A : Array Value) (h0 : Heap) (Q : Option Value → Heap → List Loc → Prop) : Prop := MetFree l y (head1 (cd :: ws) rm) (fun a U => a = A ∧ Z.Warmed39 U.vm ∧ U.heap = h0) (fun _ _ _ _ _ => True) (fun _ U o U' => ∃ v L, o = .returned v ∧ Q v U'.heap L ∧ FrameEnd U o U' L rm.cells rm.slots)
def Fin (p : Program) (e : Env) (below : List Frame) (s : State) (n0 : Nat) (S0 : State) : Prop := ∃ s₂ o, Steps p.tables e below S0 s₂ ∧ s₂.status = .running ∧ Ended s₂ below o ∧ ∃ v L, o = .returned v ∧ (v = some (.int (1 : Int32)) ∧ Fr n0 L) ∧ FrameEnd s o s₂ L room_1.cells room_1.slots
theorem Fin.pre {p : Program} {e : Env} {below : List Frame} {s S0 S1 : State} {n0 : Nat} (k : ∀ t, Steps p.tables e below S1 t → Steps p.tables e below S0 t) (h : Fin p e below s n0 S1) : Fin p e below s n0 S0 := by
  obtain ⟨u, o, h1, h2⟩ := h; exact ⟨u, o, k _ h1, h2⟩
abbrev SF (p : Program) (e : Env) (below : List Frame) (T : State) (g : JFrame) (t : State) : Prop := Steps p.tables e below (T.setTop g) t
abbrev HW (Z : State) (a0 : Array Value) : Prop := ∀ d ∈ tables_1, d.before a0 Z = true
theorem own_mod7 (a : Int32) : ((a &&& (2147483647 : Int32)) % (7 : Int32)) = (0 : Int32) ∨ ((a &&& (2147483647 : Int32)) % (7 : Int32)) = (1 : Int32) ∨ ((a &&& (2147483647 : Int32)) % (7 : Int32)) = (2 : Int32) ∨ ((a &&& (2147483647 : Int32)) % (7 : Int32)) = (3 : Int32) ∨ ((a &&& (2147483647 : Int32)) % (7 : Int32)) = (4 : Int32) ∨ ((a &&& (2147483647 : Int32)) % (7 : Int32)) = (5 : Int32) ∨ ((a &&& (2147483647 : Int32)) % (7 : Int32)) = (6 : Int32) := by
  have h1 := (c_and a (2147483647 : Int32)) (by decide)
  have h2 := (c_iremV (a &&& (2147483647 : Int32)) (7 : Int32)).1 h1.1 (by decide)
  have e : (7 : Int32).toInt = 7 := rfl
  rw [e] at h2
  simp only [← Int32.toInt_inj]
  show _ = (0 : Int) ∨ _ = (1 : Int) ∨ _ = (2 : Int) ∨ _ = (3 : Int) ∨ _ = (4 : Int) ∨ _ = (5 : Int) ∨ _ = (6 : Int)
  omega
theorem d1_0 : decode method_3_code 0 = .ok (.iload_n 0, 1) := by decide +kernel
theorem d1_1 : decode method_3_code 1 = .ok (.ifCond .ne 7, 3) := by decide +kernel
theorem d1_4 : decode method_3_code 4 = .ok (.getstatic 27, 3) := by decide +kernel
theorem d1_7 : decode method_3_code 7 = .ok (.areturn, 1) := by decide +kernel
theorem pn_0 : plainName "com/example/grenze/grenze/PropagationParticipationPinLaw" = true := by first | (simp [plainName, overriddenIn]; done) | decide +kernel
theorem ef_0 (m : MethodId) (x0 : Int32) : entryFrame m #[(.int x0)] 1 = mkF m 0 #[.val (.int x0)] [] := by first | (simp [entryFrame, mkF, argsToLocals, Value.category]; done) | rfl
-- PropagationParticipationPinLaw.pick 
def Q1_1 (Z : State) (w1 : Addr) (h0 : Heap) (n0 : Nat) (v : Option Value) (h : Heap) (L : List Loc) : Prop := v = some (.ref w1) ∧ Fr n0 L ∧ h = h0
set_option maxRecDepth 65536 in
set_option maxHeartbeats 40000000 in
theorem rm1_1 (l : Launch) (Z : State) (a0 : Array Value) (hw : HW Z a0) (ws : List Jvm.Cond) (w1 : Addr) (h0 : Heap) (n0 : Nat) (Z0 : n0 ≤ h0.size) (S0 : Sta Z Z.heap "com/example/grenze/grenze/Propagation" "REQUIRED" "Lcom/example/grenze/grenze/Propagation;" (.ref w1)) (P2 : Old Z n0 h0) :
    MF l Z (⟨"com/example/grenze/grenze/PropagationParticipationPinLaw", "pick", "(I)Lcom/example/grenze/grenze/Propagation;"⟩ : MethodName) (Jvm.Cond.code (⟨"com/example/grenze/grenze/PropagationParticipationPinLaw", "pick", "(I)Lcom/example/grenze/grenze/Propagation;"⟩ : MethodName) method_3_code 1 (some (.object "com/example/grenze/grenze/Propagation"))) ws ({ frames := 0, cells := 0, slots := 0, locals := 0 } : Room) #[(.int 0)] h0 (Q1_1 Z w1 h0 n0) := by
  refine MetFree.of_bodySF (plainFor_of_name pn_0) hisR ?_
  intro p e s m args below meth c s₁ Bd hml0 hP hK
  obtain ⟨rfl, hZ, hh⟩ := hP
  have hx := Bd.exec
  have hby := Bd.bytes
  have hml : c.maxLocals = 1 := hml0
  have hown : s.vm.findClass "com/example/grenze/grenze/PropagationParticipationPinLaw" = some m.cls := findClass_of_methodNamed Bd.named
  have hnm := (name_of_methodNamed Bd.named Bd.method).1
  have X0 : Stand p l e ({ frames := 0, cells := 0, slots := 0, locals := 0 } : Room) s m #[(.int 0)] below meth c s₁ [] 0 0 := Stand.of_body Bd
  have e0 : s₁.heap = h0 := by rw [← hh, Bd.state]; rfl
  have N0 := Fr.nil n0
  have pre0 : ∀ t, SF p e below s₁ (mkF m 0 #[iv 0] []) t → SF p e below s₁ (entryFrame m #[(.int 0)] 1) t := fun t k => castTop (ef_0 m (0 : Int32)) k
  obtain ⟨T1, X1, e1, st1⟩ := getS2 X0 hx hZ hown (host := "") (Or.inl (tw hw 5 rfl)) Via.refl e0 (S0.ext P2.2) (g := (mkF m 4 #[iv 0] [])) rfl (hb hby d1_4)
  obtain ⟨fs, hr, hrun, hended, hW, hsame⟩ := X1.leave (v := some (.ref w1)) (fun h => by rw [Bd.returns] at h; cases h)
  refine ⟨_, _, pre0 _ ?_, hrun, hended, _, _, rfl, ?_, ⟨_, rfl⟩, hW, hsame.mono (by decide) (by decide)⟩
  · show SF p e below s₁ (mkF m 0 #[iv 0] []) _
    refine XS.iloadN X0.here hx rfl (hb hby d1_0) rfl ?_
    show SF p e below s₁ (mkF m 1 #[iv 0] [(.int 0)]) _
    refine XS.ifNo X0.here hx rfl (hb hby d1_1) rfl ((if0 _ _).trans (teq (by decide : (0 : Int32) = (0 : Int32))).2) ?_
    show SF p e below s₁ (mkF m 4 #[iv 0] []) _
    refine st1 _ ?_
    show SF p e below T1 (mkF m 7 #[iv 0] [(.ref w1)]) _
    exact own_retR X1 hx Bd.returns rfl rfl (hb hby d1_7) hr
  · show Q1_1 Z w1 h0 n0 _ T1.heap _
    rw [e1]
    exact ⟨rfl, N0, rfl⟩
theorem pd_0 : parseMethodDescriptor "(I)Lcom/example/grenze/grenze/Propagation;" = some ⟨[.int], some (.object "com/example/grenze/grenze/Propagation")⟩ := by decide +kernel
theorem d4_0 : decode method_5_code 0 = .ok (.iload_n 0, 1) := by decide +kernel
theorem d4_1 : decode method_5_code 1 = .ok (.ifCond .eq 14, 3) := by decide +kernel
theorem d4_15 : decode method_5_code 15 = .ok (.getstatic 55, 3) := by decide +kernel
theorem d4_18 : decode method_5_code 18 = .ok (.areturn, 1) := by decide +kernel
theorem ef_1 (m : MethodId) (x0 : Int32) : entryFrame m #[(.int x0)] 1 = mkF m 0 #[.val (.int x0)] [] := by first | (simp [entryFrame, mkF, argsToLocals, Value.category]; done) | rfl
-- PropagationParticipationPinLaw.withNoneOpen 
def Q4_2 (Z : State) (w4 : Addr) (h0 : Heap) (n0 : Nat) (v : Option Value) (h : Heap) (L : List Loc) : Prop := v = some (.ref w4) ∧ Fr n0 L ∧ h = h0
set_option maxRecDepth 65536 in
set_option maxHeartbeats 40000000 in
theorem rm4_2 (l : Launch) (Z : State) (a0 : Array Value) (hw : HW Z a0) (ws : List Jvm.Cond) (w4 : Addr) (h0 : Heap) (n0 : Nat) (Z0 : n0 ≤ h0.size) (S6 : Sta Z Z.heap "com/example/grenze/grenze/Participation" "BEGIN" "Lcom/example/grenze/grenze/Participation;" (.ref w4)) (P2 : Old Z n0 h0) :
    MF l Z (⟨"com/example/grenze/grenze/PropagationParticipationPinLaw", "withNoneOpen", "(I)Lcom/example/grenze/grenze/Participation;"⟩ : MethodName) (Jvm.Cond.code (⟨"com/example/grenze/grenze/PropagationParticipationPinLaw", "withNoneOpen", "(I)Lcom/example/grenze/grenze/Participation;"⟩ : MethodName) method_5_code 1 (some (.object "com/example/grenze/grenze/Participation"))) ws ({ frames := 0, cells := 0, slots := 0, locals := 0 } : Room) #[(.int 0)] h0 (Q4_2 Z w4 h0 n0) := by
  refine MetFree.of_bodySF (plainFor_of_name pn_0) hisR ?_
  intro p e s m args below meth c s₁ Bd hml0 hP hK
  obtain ⟨rfl, hZ, hh⟩ := hP
  have hx := Bd.exec
  have hby := Bd.bytes
  have hml : c.maxLocals = 1 := hml0
  have hown : s.vm.findClass "com/example/grenze/grenze/PropagationParticipationPinLaw" = some m.cls := findClass_of_methodNamed Bd.named
  have hnm := (name_of_methodNamed Bd.named Bd.method).1
  have X0 : Stand p l e ({ frames := 0, cells := 0, slots := 0, locals := 0 } : Room) s m #[(.int 0)] below meth c s₁ [] 0 0 := Stand.of_body Bd
  have e0 : s₁.heap = h0 := by rw [← hh, Bd.state]; rfl
  have N0 := Fr.nil n0
  have pre0 : ∀ t, SF p e below s₁ (mkF m 0 #[iv 0] []) t → SF p e below s₁ (entryFrame m #[(.int 0)] 1) t := fun t k => castTop (ef_1 m (0 : Int32)) k
  obtain ⟨T1, X1, e1, st1⟩ := getS2 X0 hx hZ hown (host := "") (Or.inl (tw hw 23 rfl)) Via.refl e0 (S6.ext P2.2) (g := (mkF m 15 #[iv 0] [])) rfl (hb hby d4_15)
  obtain ⟨fs, hr, hrun, hended, hW, hsame⟩ := X1.leave (v := some (.ref w4)) (fun h => by rw [Bd.returns] at h; cases h)
  refine ⟨_, _, pre0 _ ?_, hrun, hended, _, _, rfl, ?_, ⟨_, rfl⟩, hW, hsame.mono (by decide) (by decide)⟩
  · show SF p e below s₁ (mkF m 0 #[iv 0] []) _
    refine XS.iloadN X0.here hx rfl (hb hby d4_0) rfl ?_
    show SF p e below s₁ (mkF m 1 #[iv 0] [(.int 0)]) _
    refine XS.ifYes X0.here hx rfl (pc0 := 1) (pc' := 15) rfl (hb hby d4_1) rfl ((if0 _ _).trans (teq (by decide : (0 : Int32) = (0 : Int32))).1) (by decide) (by decide) ?_
    show SF p e below s₁ (mkF m 15 #[iv 0] []) _
    refine st1 _ ?_
    show SF p e below T1 (mkF m 18 #[iv 0] [(.ref w4)]) _
    exact own_retR X1 hx Bd.returns rfl rfl (hb hby d4_18) hr
  · show Q4_2 Z w4 h0 n0 _ T1.heap _
    rw [e1]
    exact ⟨rfl, N0, rfl⟩
theorem pd_1 : parseMethodDescriptor "(I)Lcom/example/grenze/grenze/Participation;" = some ⟨[.int], some (.object "com/example/grenze/grenze/Participation")⟩ := by decide +kernel
theorem d3_0 : decode prog_9_method_5_code 0 = .ok (.iload_n 1, 1) := by decide +kernel
theorem d3_1 : decode prog_9_method_5_code 1 = .ok (.ifCond .eq 10, 3) := by decide +kernel
theorem d3_11 : decode prog_9_method_5_code 11 = .ok (.aload_n 0, 1) := by decide +kernel
theorem d3_12 : decode prog_9_method_5_code 12 = .ok (.getfield 48, 3) := by decide +kernel
theorem d3_15 : decode prog_9_method_5_code 15 = .ok (.areturn, 1) := by decide +kernel
theorem pn_1 : plainName "com/example/grenze/grenze/Propagation" = true := by first | (simp [plainName, overriddenIn]; done) | decide +kernel
theorem ef_2 (m : MethodId) (x0 : Addr) (x1 : Int32) : entryFrame m #[(.ref x0), (.int x1)] 2 = mkF m 0 #[.val (.ref x0), .val (.int x1)] [] := by first | (simp [entryFrame, mkF, argsToLocals, Value.category]; done) | rfl
-- Propagation.participation 
def Q3_3 (Z : State) (w1 : Addr) (w4 : Addr) (h0 : Heap) (n0 : Nat) (v : Option Value) (h : Heap) (L : List Loc) : Prop := v = some (.ref w4) ∧ Fr n0 L ∧ h = h0
set_option maxRecDepth 65536 in
set_option maxHeartbeats 40000000 in
theorem rm3_3 (l : Launch) (Z : State) (a0 : Array Value) (hw : HW Z a0) (ws : List Jvm.Cond) (w1 : Addr) (w4 : Addr) (h0 : Heap) (n0 : Nat) (Z0 : n0 ≤ h0.size) (F_w1_withoutTransaction : Fld Z Z.heap w1 "com/example/grenze/grenze/Propagation" "withoutTransaction" "Lcom/example/grenze/grenze/Participation;" (.ref w4)) (P2 : Old Z n0 h0) :
    MF l Z (⟨"com/example/grenze/grenze/Propagation", "participation", "(Z)Lcom/example/grenze/grenze/Participation;"⟩ : MethodName) (Jvm.Cond.code (⟨"com/example/grenze/grenze/Propagation", "participation", "(Z)Lcom/example/grenze/grenze/Participation;"⟩ : MethodName) prog_9_method_5_code 2 (some (.object "com/example/grenze/grenze/Participation"))) ws ({ frames := 0, cells := 0, slots := 0, locals := 0 } : Room) #[(.ref w1), (.int 0)] h0 (Q3_3 Z w1 w4 h0 n0) := by
  refine MetFree.of_bodySF (plainFor_of_name pn_1) hisR ?_
  intro p e s m args below meth c s₁ Bd hml0 hP hK
  obtain ⟨rfl, hZ, hh⟩ := hP
  have hx := Bd.exec
  have hby := Bd.bytes
  have hml : c.maxLocals = 2 := hml0
  have hown : s.vm.findClass "com/example/grenze/grenze/Propagation" = some m.cls := findClass_of_methodNamed Bd.named
  have hnm := (name_of_methodNamed Bd.named Bd.method).1
  have X0 : Stand p l e ({ frames := 0, cells := 0, slots := 0, locals := 0 } : Room) s m #[(.ref w1), (.int 0)] below meth c s₁ [] 0 0 := Stand.of_body Bd
  have e0 : s₁.heap = h0 := by rw [← hh, Bd.state]; rfl
  have N0 := Fr.nil n0
  have pre0 : ∀ t, SF p e below s₁ (mkF m 0 #[rv w1, iv 0] []) t → SF p e below s₁ (entryFrame m #[(.ref w1), (.int 0)] 2) t := fun t k => castTop (ef_2 m w1 (0 : Int32)) k
  obtain ⟨T1, X1, e1, st1⟩ := getF X0 hx hZ hown (host := "") (Or.inl (tw hw 32 rfl)) Via.refl e0 (F_w1_withoutTransaction.ext P2.2) (g := (mkF m 12 #[rv w1, iv 0] [(.ref w1)])) rfl rfl (hb hby d3_12)
  obtain ⟨fs, hr, hrun, hended, hW, hsame⟩ := X1.leave (v := some (.ref w4)) (fun h => by rw [Bd.returns] at h; cases h)
  refine ⟨_, _, pre0 _ ?_, hrun, hended, _, _, rfl, ?_, ⟨_, rfl⟩, hW, hsame.mono (by decide) (by decide)⟩
  · show SF p e below s₁ (mkF m 0 #[rv w1, iv 0] []) _
    refine XS.iloadN X0.here hx rfl (hb hby d3_0) rfl ?_
    show SF p e below s₁ (mkF m 1 #[rv w1, iv 0] [(.int 0)]) _
    refine XS.ifYes X0.here hx rfl (pc0 := 1) (pc' := 11) rfl (hb hby d3_1) rfl ((if0 _ _).trans (teq (by decide : (0 : Int32) = (0 : Int32))).1) (by decide) (by decide) ?_
    show SF p e below s₁ (mkF m 11 #[rv w1, iv 0] []) _
    refine XS.aloadN X0.here hx rfl (hb hby d3_11) rfl rfl ?_
    show SF p e below s₁ (mkF m 12 #[rv w1, iv 0] [(.ref w1)]) _
    refine st1 _ ?_
    show SF p e below T1 (mkF m 15 #[rv w1, iv 0] [(.ref w4)]) _
    exact own_retR X1 hx Bd.returns rfl rfl (hb hby d3_15) hr
  · show Q3_3 Z w1 w4 h0 n0 _ T1.heap _
    rw [e1]
    exact ⟨rfl, N0, rfl⟩
theorem pd_2 : parseMethodDescriptor "(Z)Lcom/example/grenze/grenze/Participation;" = some ⟨[.boolean], some (.object "com/example/grenze/grenze/Participation")⟩ := by decide +kernel
theorem d2_0 : decode method_4_code 0 = .ok (.iload_n 0, 1) := by decide +kernel
theorem d2_1 : decode method_4_code 1 = .ok (.iconst 2, 1) := by decide +kernel
theorem d2_2 : decode method_4_code 2 = .ok (.if_icmp .gt 7, 3) := by decide +kernel
theorem d2_5 : decode method_4_code 5 = .ok (.getstatic 49, 3) := by decide +kernel
theorem d2_8 : decode method_4_code 8 = .ok (.areturn, 1) := by decide +kernel
theorem ef_3 (m : MethodId) (x0 : Int32) : entryFrame m #[(.int x0)] 1 = mkF m 0 #[.val (.int x0)] [] := by first | (simp [entryFrame, mkF, argsToLocals, Value.category]; done) | rfl
-- PropagationParticipationPinLaw.withOpen 
def Q2_4 (Z : State) (w2 : Addr) (h0 : Heap) (n0 : Nat) (v : Option Value) (h : Heap) (L : List Loc) : Prop := v = some (.ref w2) ∧ Fr n0 L ∧ h = h0
set_option maxRecDepth 65536 in
set_option maxHeartbeats 40000000 in
theorem rm2_4 (l : Launch) (Z : State) (a0 : Array Value) (hw : HW Z a0) (ws : List Jvm.Cond) (w2 : Addr) (h0 : Heap) (n0 : Nat) (Z0 : n0 ≤ h0.size) (S2 : Sta Z Z.heap "com/example/grenze/grenze/Participation" "JOIN" "Lcom/example/grenze/grenze/Participation;" (.ref w2)) (P2 : Old Z n0 h0) :
    MF l Z (⟨"com/example/grenze/grenze/PropagationParticipationPinLaw", "withOpen", "(I)Lcom/example/grenze/grenze/Participation;"⟩ : MethodName) (Jvm.Cond.code (⟨"com/example/grenze/grenze/PropagationParticipationPinLaw", "withOpen", "(I)Lcom/example/grenze/grenze/Participation;"⟩ : MethodName) method_4_code 1 (some (.object "com/example/grenze/grenze/Participation"))) ws ({ frames := 0, cells := 0, slots := 0, locals := 0 } : Room) #[(.int 0)] h0 (Q2_4 Z w2 h0 n0) := by
  refine MetFree.of_bodySF (plainFor_of_name pn_0) hisR ?_
  intro p e s m args below meth c s₁ Bd hml0 hP hK
  obtain ⟨rfl, hZ, hh⟩ := hP
  have hx := Bd.exec
  have hby := Bd.bytes
  have hml : c.maxLocals = 1 := hml0
  have hown : s.vm.findClass "com/example/grenze/grenze/PropagationParticipationPinLaw" = some m.cls := findClass_of_methodNamed Bd.named
  have hnm := (name_of_methodNamed Bd.named Bd.method).1
  have X0 : Stand p l e ({ frames := 0, cells := 0, slots := 0, locals := 0 } : Room) s m #[(.int 0)] below meth c s₁ [] 0 0 := Stand.of_body Bd
  have e0 : s₁.heap = h0 := by rw [← hh, Bd.state]; rfl
  have N0 := Fr.nil n0
  have pre0 : ∀ t, SF p e below s₁ (mkF m 0 #[iv 0] []) t → SF p e below s₁ (entryFrame m #[(.int 0)] 1) t := fun t k => castTop (ef_3 m (0 : Int32)) k
  obtain ⟨T1, X1, e1, st1⟩ := getS2 X0 hx hZ hown (host := "") (Or.inl (tw hw 11 rfl)) Via.refl e0 (S2.ext P2.2) (g := (mkF m 5 #[iv 0] [])) rfl (hb hby d2_5)
  obtain ⟨fs, hr, hrun, hended, hW, hsame⟩ := X1.leave (v := some (.ref w2)) (fun h => by rw [Bd.returns] at h; cases h)
  refine ⟨_, _, pre0 _ ?_, hrun, hended, _, _, rfl, ?_, ⟨_, rfl⟩, hW, hsame.mono (by decide) (by decide)⟩
  · show SF p e below s₁ (mkF m 0 #[iv 0] []) _
    refine XS.iloadN X0.here hx rfl (hb hby d2_0) rfl ?_
    show SF p e below s₁ (mkF m 1 #[iv 0] [(.int 0)]) _
    refine XS.iconst X0.here hx rfl (hb hby d2_1) ?_
    show SF p e below s₁ (mkF m 2 #[iv 0] [(.int 2), (.int 0)]) _
    refine XS.icmpNo X0.here hx rfl (hb hby d2_2) rfl (flt (by decide : ¬ ((2 : Int32) < (0 : Int32)))).2.2.1 ?_
    show SF p e below s₁ (mkF m 5 #[iv 0] []) _
    refine st1 _ ?_
    show SF p e below T1 (mkF m 8 #[iv 0] [(.ref w2)]) _
    exact own_retR X1 hx Bd.returns rfl rfl (hb hby d2_8) hr
  · show Q2_4 Z w2 h0 n0 _ T1.heap _
    rw [e1]
    exact ⟨rfl, N0, rfl⟩
theorem d3_4 : decode prog_9_method_5_code 4 = .ok (.aload_n 0, 1) := by decide +kernel
theorem d3_5 : decode prog_9_method_5_code 5 = .ok (.getfield 44, 3) := by decide +kernel
theorem d3_8 : decode prog_9_method_5_code 8 = .ok (.goto 7, 3) := by decide +kernel
-- Propagation.participation 
def Q3_5 (Z : State) (w1 : Addr) (w2 : Addr) (h0 : Heap) (n0 : Nat) (v : Option Value) (h : Heap) (L : List Loc) : Prop := v = some (.ref w2) ∧ Fr n0 L ∧ h = h0
set_option maxRecDepth 65536 in
set_option maxHeartbeats 40000000 in
theorem rm3_5 (l : Launch) (Z : State) (a0 : Array Value) (hw : HW Z a0) (ws : List Jvm.Cond) (w1 : Addr) (w2 : Addr) (h0 : Heap) (n0 : Nat) (Z0 : n0 ≤ h0.size) (F_w1_withTransaction : Fld Z Z.heap w1 "com/example/grenze/grenze/Propagation" "withTransaction" "Lcom/example/grenze/grenze/Participation;" (.ref w2)) (P2 : Old Z n0 h0) :
    MF l Z (⟨"com/example/grenze/grenze/Propagation", "participation", "(Z)Lcom/example/grenze/grenze/Participation;"⟩ : MethodName) (Jvm.Cond.code (⟨"com/example/grenze/grenze/Propagation", "participation", "(Z)Lcom/example/grenze/grenze/Participation;"⟩ : MethodName) prog_9_method_5_code 2 (some (.object "com/example/grenze/grenze/Participation"))) ws ({ frames := 0, cells := 0, slots := 0, locals := 0 } : Room) #[(.ref w1), (.int 1)] h0 (Q3_5 Z w1 w2 h0 n0) := by
  refine MetFree.of_bodySF (plainFor_of_name pn_1) hisR ?_
  intro p e s m args below meth c s₁ Bd hml0 hP hK
  obtain ⟨rfl, hZ, hh⟩ := hP
  have hx := Bd.exec
  have hby := Bd.bytes
  have hml : c.maxLocals = 2 := hml0
  have hown : s.vm.findClass "com/example/grenze/grenze/Propagation" = some m.cls := findClass_of_methodNamed Bd.named
  have hnm := (name_of_methodNamed Bd.named Bd.method).1
  have X0 : Stand p l e ({ frames := 0, cells := 0, slots := 0, locals := 0 } : Room) s m #[(.ref w1), (.int 1)] below meth c s₁ [] 0 0 := Stand.of_body Bd
  have e0 : s₁.heap = h0 := by rw [← hh, Bd.state]; rfl
  have N0 := Fr.nil n0
  have pre0 : ∀ t, SF p e below s₁ (mkF m 0 #[rv w1, iv 1] []) t → SF p e below s₁ (entryFrame m #[(.ref w1), (.int 1)] 2) t := fun t k => castTop (ef_2 m w1 (1 : Int32)) k
  obtain ⟨T1, X1, e1, st1⟩ := getF X0 hx hZ hown (host := "") (Or.inl (tw hw 19 rfl)) Via.refl e0 (F_w1_withTransaction.ext P2.2) (g := (mkF m 5 #[rv w1, iv 1] [(.ref w1)])) rfl rfl (hb hby d3_5)
  obtain ⟨fs, hr, hrun, hended, hW, hsame⟩ := X1.leave (v := some (.ref w2)) (fun h => by rw [Bd.returns] at h; cases h)
  refine ⟨_, _, pre0 _ ?_, hrun, hended, _, _, rfl, ?_, ⟨_, rfl⟩, hW, hsame.mono (by decide) (by decide)⟩
  · show SF p e below s₁ (mkF m 0 #[rv w1, iv 1] []) _
    refine XS.iloadN X0.here hx rfl (hb hby d3_0) rfl ?_
    show SF p e below s₁ (mkF m 1 #[rv w1, iv 1] [(.int 1)]) _
    refine XS.ifNo X0.here hx rfl (hb hby d3_1) rfl ((if0 _ _).trans (feq (by decide : ¬ ((1 : Int32) = (0 : Int32)))).1) ?_
    show SF p e below s₁ (mkF m 4 #[rv w1, iv 1] []) _
    refine XS.aloadN X0.here hx rfl (hb hby d3_4) rfl rfl ?_
    show SF p e below s₁ (mkF m 5 #[rv w1, iv 1] [(.ref w1)]) _
    refine st1 _ ?_
    show SF p e below T1 (mkF m 8 #[rv w1, iv 1] [(.ref w2)]) _
    refine XS.goto X1.here hx rfl (pc0 := 8) (pc' := 15) rfl (hb hby d3_8) (by decide) (by decide) ?_
    show SF p e below T1 (mkF m 15 #[rv w1, iv 1] [(.ref w2)]) _
    exact own_retR X1 hx Bd.returns rfl rfl (hb hby d3_15) hr
  · show Q3_5 Z w1 w2 h0 n0 _ T1.heap _
    rw [e1]
    exact ⟨rfl, N0, rfl⟩
theorem d1_8 : decode method_3_code 8 = .ok (.iload_n 0, 1) := by decide +kernel
theorem d1_9 : decode method_3_code 9 = .ok (.iconst 1, 1) := by decide +kernel
theorem d1_10 : decode method_3_code 10 = .ok (.if_icmp .ne 7, 3) := by decide +kernel
theorem d1_13 : decode method_3_code 13 = .ok (.getstatic 31, 3) := by decide +kernel
theorem d1_16 : decode method_3_code 16 = .ok (.areturn, 1) := by decide +kernel
-- PropagationParticipationPinLaw.pick 
def Q1_6 (Z : State) (w5 : Addr) (h0 : Heap) (n0 : Nat) (v : Option Value) (h : Heap) (L : List Loc) : Prop := v = some (.ref w5) ∧ Fr n0 L ∧ h = h0
set_option maxRecDepth 65536 in
set_option maxHeartbeats 40000000 in
theorem rm1_6 (l : Launch) (Z : State) (a0 : Array Value) (hw : HW Z a0) (ws : List Jvm.Cond) (w5 : Addr) (h0 : Heap) (n0 : Nat) (Z0 : n0 ≤ h0.size) (S8 : Sta Z Z.heap "com/example/grenze/grenze/Propagation" "SUPPORTS" "Lcom/example/grenze/grenze/Propagation;" (.ref w5)) (P2 : Old Z n0 h0) :
    MF l Z (⟨"com/example/grenze/grenze/PropagationParticipationPinLaw", "pick", "(I)Lcom/example/grenze/grenze/Propagation;"⟩ : MethodName) (Jvm.Cond.code (⟨"com/example/grenze/grenze/PropagationParticipationPinLaw", "pick", "(I)Lcom/example/grenze/grenze/Propagation;"⟩ : MethodName) method_3_code 1 (some (.object "com/example/grenze/grenze/Propagation"))) ws ({ frames := 0, cells := 0, slots := 0, locals := 0 } : Room) #[(.int 1)] h0 (Q1_6 Z w5 h0 n0) := by
  refine MetFree.of_bodySF (plainFor_of_name pn_0) hisR ?_
  intro p e s m args below meth c s₁ Bd hml0 hP hK
  obtain ⟨rfl, hZ, hh⟩ := hP
  have hx := Bd.exec
  have hby := Bd.bytes
  have hml : c.maxLocals = 1 := hml0
  have hown : s.vm.findClass "com/example/grenze/grenze/PropagationParticipationPinLaw" = some m.cls := findClass_of_methodNamed Bd.named
  have hnm := (name_of_methodNamed Bd.named Bd.method).1
  have X0 : Stand p l e ({ frames := 0, cells := 0, slots := 0, locals := 0 } : Room) s m #[(.int 1)] below meth c s₁ [] 0 0 := Stand.of_body Bd
  have e0 : s₁.heap = h0 := by rw [← hh, Bd.state]; rfl
  have N0 := Fr.nil n0
  have pre0 : ∀ t, SF p e below s₁ (mkF m 0 #[iv 1] []) t → SF p e below s₁ (entryFrame m #[(.int 1)] 1) t := fun t k => castTop (ef_0 m (1 : Int32)) k
  obtain ⟨T1, X1, e1, st1⟩ := getS2 X0 hx hZ hown (host := "") (Or.inl (tw hw 25 rfl)) Via.refl e0 (S8.ext P2.2) (g := (mkF m 13 #[iv 1] [])) rfl (hb hby d1_13)
  obtain ⟨fs, hr, hrun, hended, hW, hsame⟩ := X1.leave (v := some (.ref w5)) (fun h => by rw [Bd.returns] at h; cases h)
  refine ⟨_, _, pre0 _ ?_, hrun, hended, _, _, rfl, ?_, ⟨_, rfl⟩, hW, hsame.mono (by decide) (by decide)⟩
  · show SF p e below s₁ (mkF m 0 #[iv 1] []) _
    refine XS.iloadN X0.here hx rfl (hb hby d1_0) rfl ?_
    show SF p e below s₁ (mkF m 1 #[iv 1] [(.int 1)]) _
    refine XS.ifYes X0.here hx rfl (pc0 := 1) (pc' := 8) rfl (hb hby d1_1) rfl ((if0 _ _).trans (feq (by decide : ¬ ((1 : Int32) = (0 : Int32)))).2) (by decide) (by decide) ?_
    show SF p e below s₁ (mkF m 8 #[iv 1] []) _
    refine XS.iloadN X0.here hx rfl (hb hby d1_8) rfl ?_
    show SF p e below s₁ (mkF m 9 #[iv 1] [(.int 1)]) _
    refine XS.iconst X0.here hx rfl (hb hby d1_9) ?_
    show SF p e below s₁ (mkF m 10 #[iv 1] [(.int 1), (.int 1)]) _
    refine XS.icmpNo X0.here hx rfl (hb hby d1_10) rfl (teq (by decide : (1 : Int32) = (1 : Int32))).2 ?_
    show SF p e below s₁ (mkF m 13 #[iv 1] []) _
    refine st1 _ ?_
    show SF p e below T1 (mkF m 16 #[iv 1] [(.ref w5)]) _
    exact own_retR X1 hx Bd.returns rfl rfl (hb hby d1_16) hr
  · show Q1_6 Z w5 h0 n0 _ T1.heap _
    rw [e1]
    exact ⟨rfl, N0, rfl⟩
theorem d4_4 : decode method_5_code 4 = .ok (.iload_n 0, 1) := by decide +kernel
theorem d4_5 : decode method_5_code 5 = .ok (.iconst 3, 1) := by decide +kernel
theorem d4_6 : decode method_5_code 6 = .ok (.if_icmp .eq 9, 3) := by decide +kernel
theorem d4_9 : decode method_5_code 9 = .ok (.iload_n 0, 1) := by decide +kernel
theorem d4_10 : decode method_5_code 10 = .ok (.bipush 6, 2) := by decide +kernel
theorem d4_12 : decode method_5_code 12 = .ok (.if_icmp .ne 7, 3) := by decide +kernel
theorem d4_19 : decode method_5_code 19 = .ok (.iload_n 0, 1) := by decide +kernel
theorem d4_20 : decode method_5_code 20 = .ok (.iconst 2, 1) := by decide +kernel
theorem d4_21 : decode method_5_code 21 = .ok (.if_icmp .ne 7, 3) := by decide +kernel
theorem d4_28 : decode method_5_code 28 = .ok (.getstatic 58, 3) := by decide +kernel
theorem d4_31 : decode method_5_code 31 = .ok (.areturn, 1) := by decide +kernel
-- PropagationParticipationPinLaw.withNoneOpen 
def Q4_7 (Z : State) (w6 : Addr) (h0 : Heap) (n0 : Nat) (v : Option Value) (h : Heap) (L : List Loc) : Prop := v = some (.ref w6) ∧ Fr n0 L ∧ h = h0
set_option maxRecDepth 65536 in
set_option maxHeartbeats 40000000 in
theorem rm4_7 (l : Launch) (Z : State) (a0 : Array Value) (hw : HW Z a0) (ws : List Jvm.Cond) (w6 : Addr) (h0 : Heap) (n0 : Nat) (Z0 : n0 ≤ h0.size) (S10 : Sta Z Z.heap "com/example/grenze/grenze/Participation" "WITHOUT" "Lcom/example/grenze/grenze/Participation;" (.ref w6)) (P2 : Old Z n0 h0) :
    MF l Z (⟨"com/example/grenze/grenze/PropagationParticipationPinLaw", "withNoneOpen", "(I)Lcom/example/grenze/grenze/Participation;"⟩ : MethodName) (Jvm.Cond.code (⟨"com/example/grenze/grenze/PropagationParticipationPinLaw", "withNoneOpen", "(I)Lcom/example/grenze/grenze/Participation;"⟩ : MethodName) method_5_code 1 (some (.object "com/example/grenze/grenze/Participation"))) ws ({ frames := 0, cells := 0, slots := 0, locals := 0 } : Room) #[(.int 1)] h0 (Q4_7 Z w6 h0 n0) := by
  refine MetFree.of_bodySF (plainFor_of_name pn_0) hisR ?_
  intro p e s m args below meth c s₁ Bd hml0 hP hK
  obtain ⟨rfl, hZ, hh⟩ := hP
  have hx := Bd.exec
  have hby := Bd.bytes
  have hml : c.maxLocals = 1 := hml0
  have hown : s.vm.findClass "com/example/grenze/grenze/PropagationParticipationPinLaw" = some m.cls := findClass_of_methodNamed Bd.named
  have hnm := (name_of_methodNamed Bd.named Bd.method).1
  have X0 : Stand p l e ({ frames := 0, cells := 0, slots := 0, locals := 0 } : Room) s m #[(.int 1)] below meth c s₁ [] 0 0 := Stand.of_body Bd
  have e0 : s₁.heap = h0 := by rw [← hh, Bd.state]; rfl
  have N0 := Fr.nil n0
  have pre0 : ∀ t, SF p e below s₁ (mkF m 0 #[iv 1] []) t → SF p e below s₁ (entryFrame m #[(.int 1)] 1) t := fun t k => castTop (ef_1 m (1 : Int32)) k
  obtain ⟨T1, X1, e1, st1⟩ := getS2 X0 hx hZ hown (host := "") (Or.inl (tw hw 30 rfl)) Via.refl e0 (S10.ext P2.2) (g := (mkF m 28 #[iv 1] [])) rfl (hb hby d4_28)
  obtain ⟨fs, hr, hrun, hended, hW, hsame⟩ := X1.leave (v := some (.ref w6)) (fun h => by rw [Bd.returns] at h; cases h)
  refine ⟨_, _, pre0 _ ?_, hrun, hended, _, _, rfl, ?_, ⟨_, rfl⟩, hW, hsame.mono (by decide) (by decide)⟩
  · show SF p e below s₁ (mkF m 0 #[iv 1] []) _
    refine XS.iloadN X0.here hx rfl (hb hby d4_0) rfl ?_
    show SF p e below s₁ (mkF m 1 #[iv 1] [(.int 1)]) _
    refine XS.ifNo X0.here hx rfl (hb hby d4_1) rfl ((if0 _ _).trans (feq (by decide : ¬ ((1 : Int32) = (0 : Int32)))).1) ?_
    show SF p e below s₁ (mkF m 4 #[iv 1] []) _
    refine XS.iloadN X0.here hx rfl (hb hby d4_4) rfl ?_
    show SF p e below s₁ (mkF m 5 #[iv 1] [(.int 1)]) _
    refine XS.iconst X0.here hx rfl (hb hby d4_5) ?_
    show SF p e below s₁ (mkF m 6 #[iv 1] [(.int 3), (.int 1)]) _
    refine XS.icmpNo X0.here hx rfl (hb hby d4_6) rfl (feq (by decide : ¬ ((1 : Int32) = (3 : Int32)))).1 ?_
    show SF p e below s₁ (mkF m 9 #[iv 1] []) _
    refine XS.iloadN X0.here hx rfl (hb hby d4_9) rfl ?_
    show SF p e below s₁ (mkF m 10 #[iv 1] [(.int 1)]) _
    refine XS.bipush X0.here hx rfl (hb hby d4_10) ?_
    show SF p e below s₁ (mkF m 12 #[iv 1] [(.int 6), (.int 1)]) _
    refine XS.icmpYes X0.here hx rfl (pc0 := 12) (pc' := 19) rfl (hb hby d4_12) rfl (feq (by decide : ¬ ((1 : Int32) = (6 : Int32)))).2 (by decide) (by decide) ?_
    show SF p e below s₁ (mkF m 19 #[iv 1] []) _
    refine XS.iloadN X0.here hx rfl (hb hby d4_19) rfl ?_
    show SF p e below s₁ (mkF m 20 #[iv 1] [(.int 1)]) _
    refine XS.iconst X0.here hx rfl (hb hby d4_20) ?_
    show SF p e below s₁ (mkF m 21 #[iv 1] [(.int 2), (.int 1)]) _
    refine XS.icmpYes X0.here hx rfl (pc0 := 21) (pc' := 28) rfl (hb hby d4_21) rfl (feq (by decide : ¬ ((1 : Int32) = (2 : Int32)))).2 (by decide) (by decide) ?_
    show SF p e below s₁ (mkF m 28 #[iv 1] []) _
    refine st1 _ ?_
    show SF p e below T1 (mkF m 31 #[iv 1] [(.ref w6)]) _
    exact own_retR X1 hx Bd.returns rfl rfl (hb hby d4_31) hr
  · show Q4_7 Z w6 h0 n0 _ T1.heap _
    rw [e1]
    exact ⟨rfl, N0, rfl⟩
-- Propagation.participation 
def Q3_8 (Z : State) (w5 : Addr) (w6 : Addr) (h0 : Heap) (n0 : Nat) (v : Option Value) (h : Heap) (L : List Loc) : Prop := v = some (.ref w6) ∧ Fr n0 L ∧ h = h0
set_option maxRecDepth 65536 in
set_option maxHeartbeats 40000000 in
theorem rm3_8 (l : Launch) (Z : State) (a0 : Array Value) (hw : HW Z a0) (ws : List Jvm.Cond) (w5 : Addr) (w6 : Addr) (h0 : Heap) (n0 : Nat) (Z0 : n0 ≤ h0.size) (F_w5_withoutTransaction : Fld Z Z.heap w5 "com/example/grenze/grenze/Propagation" "withoutTransaction" "Lcom/example/grenze/grenze/Participation;" (.ref w6)) (P2 : Old Z n0 h0) :
    MF l Z (⟨"com/example/grenze/grenze/Propagation", "participation", "(Z)Lcom/example/grenze/grenze/Participation;"⟩ : MethodName) (Jvm.Cond.code (⟨"com/example/grenze/grenze/Propagation", "participation", "(Z)Lcom/example/grenze/grenze/Participation;"⟩ : MethodName) prog_9_method_5_code 2 (some (.object "com/example/grenze/grenze/Participation"))) ws ({ frames := 0, cells := 0, slots := 0, locals := 0 } : Room) #[(.ref w5), (.int 0)] h0 (Q3_8 Z w5 w6 h0 n0) := by
  refine MetFree.of_bodySF (plainFor_of_name pn_1) hisR ?_
  intro p e s m args below meth c s₁ Bd hml0 hP hK
  obtain ⟨rfl, hZ, hh⟩ := hP
  have hx := Bd.exec
  have hby := Bd.bytes
  have hml : c.maxLocals = 2 := hml0
  have hown : s.vm.findClass "com/example/grenze/grenze/Propagation" = some m.cls := findClass_of_methodNamed Bd.named
  have hnm := (name_of_methodNamed Bd.named Bd.method).1
  have X0 : Stand p l e ({ frames := 0, cells := 0, slots := 0, locals := 0 } : Room) s m #[(.ref w5), (.int 0)] below meth c s₁ [] 0 0 := Stand.of_body Bd
  have e0 : s₁.heap = h0 := by rw [← hh, Bd.state]; rfl
  have N0 := Fr.nil n0
  have pre0 : ∀ t, SF p e below s₁ (mkF m 0 #[rv w5, iv 0] []) t → SF p e below s₁ (entryFrame m #[(.ref w5), (.int 0)] 2) t := fun t k => castTop (ef_2 m w5 (0 : Int32)) k
  obtain ⟨T1, X1, e1, st1⟩ := getF X0 hx hZ hown (host := "") (Or.inl (tw hw 32 rfl)) Via.refl e0 (F_w5_withoutTransaction.ext P2.2) (g := (mkF m 12 #[rv w5, iv 0] [(.ref w5)])) rfl rfl (hb hby d3_12)
  obtain ⟨fs, hr, hrun, hended, hW, hsame⟩ := X1.leave (v := some (.ref w6)) (fun h => by rw [Bd.returns] at h; cases h)
  refine ⟨_, _, pre0 _ ?_, hrun, hended, _, _, rfl, ?_, ⟨_, rfl⟩, hW, hsame.mono (by decide) (by decide)⟩
  · show SF p e below s₁ (mkF m 0 #[rv w5, iv 0] []) _
    refine XS.iloadN X0.here hx rfl (hb hby d3_0) rfl ?_
    show SF p e below s₁ (mkF m 1 #[rv w5, iv 0] [(.int 0)]) _
    refine XS.ifYes X0.here hx rfl (pc0 := 1) (pc' := 11) rfl (hb hby d3_1) rfl ((if0 _ _).trans (teq (by decide : (0 : Int32) = (0 : Int32))).1) (by decide) (by decide) ?_
    show SF p e below s₁ (mkF m 11 #[rv w5, iv 0] []) _
    refine XS.aloadN X0.here hx rfl (hb hby d3_11) rfl rfl ?_
    show SF p e below s₁ (mkF m 12 #[rv w5, iv 0] [(.ref w5)]) _
    refine st1 _ ?_
    show SF p e below T1 (mkF m 15 #[rv w5, iv 0] [(.ref w6)]) _
    exact own_retR X1 hx Bd.returns rfl rfl (hb hby d3_15) hr
  · show Q3_8 Z w5 w6 h0 n0 _ T1.heap _
    rw [e1]
    exact ⟨rfl, N0, rfl⟩
-- PropagationParticipationPinLaw.withOpen 
def Q2_9 (Z : State) (w2 : Addr) (h0 : Heap) (n0 : Nat) (v : Option Value) (h : Heap) (L : List Loc) : Prop := v = some (.ref w2) ∧ Fr n0 L ∧ h = h0
set_option maxRecDepth 65536 in
set_option maxHeartbeats 40000000 in
theorem rm2_9 (l : Launch) (Z : State) (a0 : Array Value) (hw : HW Z a0) (ws : List Jvm.Cond) (w2 : Addr) (h0 : Heap) (n0 : Nat) (Z0 : n0 ≤ h0.size) (S2 : Sta Z Z.heap "com/example/grenze/grenze/Participation" "JOIN" "Lcom/example/grenze/grenze/Participation;" (.ref w2)) (P2 : Old Z n0 h0) :
    MF l Z (⟨"com/example/grenze/grenze/PropagationParticipationPinLaw", "withOpen", "(I)Lcom/example/grenze/grenze/Participation;"⟩ : MethodName) (Jvm.Cond.code (⟨"com/example/grenze/grenze/PropagationParticipationPinLaw", "withOpen", "(I)Lcom/example/grenze/grenze/Participation;"⟩ : MethodName) method_4_code 1 (some (.object "com/example/grenze/grenze/Participation"))) ws ({ frames := 0, cells := 0, slots := 0, locals := 0 } : Room) #[(.int 1)] h0 (Q2_9 Z w2 h0 n0) := by
  refine MetFree.of_bodySF (plainFor_of_name pn_0) hisR ?_
  intro p e s m args below meth c s₁ Bd hml0 hP hK
  obtain ⟨rfl, hZ, hh⟩ := hP
  have hx := Bd.exec
  have hby := Bd.bytes
  have hml : c.maxLocals = 1 := hml0
  have hown : s.vm.findClass "com/example/grenze/grenze/PropagationParticipationPinLaw" = some m.cls := findClass_of_methodNamed Bd.named
  have hnm := (name_of_methodNamed Bd.named Bd.method).1
  have X0 : Stand p l e ({ frames := 0, cells := 0, slots := 0, locals := 0 } : Room) s m #[(.int 1)] below meth c s₁ [] 0 0 := Stand.of_body Bd
  have e0 : s₁.heap = h0 := by rw [← hh, Bd.state]; rfl
  have N0 := Fr.nil n0
  have pre0 : ∀ t, SF p e below s₁ (mkF m 0 #[iv 1] []) t → SF p e below s₁ (entryFrame m #[(.int 1)] 1) t := fun t k => castTop (ef_3 m (1 : Int32)) k
  obtain ⟨T1, X1, e1, st1⟩ := getS2 X0 hx hZ hown (host := "") (Or.inl (tw hw 11 rfl)) Via.refl e0 (S2.ext P2.2) (g := (mkF m 5 #[iv 1] [])) rfl (hb hby d2_5)
  obtain ⟨fs, hr, hrun, hended, hW, hsame⟩ := X1.leave (v := some (.ref w2)) (fun h => by rw [Bd.returns] at h; cases h)
  refine ⟨_, _, pre0 _ ?_, hrun, hended, _, _, rfl, ?_, ⟨_, rfl⟩, hW, hsame.mono (by decide) (by decide)⟩
  · show SF p e below s₁ (mkF m 0 #[iv 1] []) _
    refine XS.iloadN X0.here hx rfl (hb hby d2_0) rfl ?_
    show SF p e below s₁ (mkF m 1 #[iv 1] [(.int 1)]) _
    refine XS.iconst X0.here hx rfl (hb hby d2_1) ?_
    show SF p e below s₁ (mkF m 2 #[iv 1] [(.int 2), (.int 1)]) _
    refine XS.icmpNo X0.here hx rfl (hb hby d2_2) rfl (flt (by decide : ¬ ((2 : Int32) < (1 : Int32)))).2.2.1 ?_
    show SF p e below s₁ (mkF m 5 #[iv 1] []) _
    refine st1 _ ?_
    show SF p e below T1 (mkF m 8 #[iv 1] [(.ref w2)]) _
    exact own_retR X1 hx Bd.returns rfl rfl (hb hby d2_8) hr
  · show Q2_9 Z w2 h0 n0 _ T1.heap _
    rw [e1]
    exact ⟨rfl, N0, rfl⟩
-- Propagation.participation 
def Q3_10 (Z : State) (w5 : Addr) (w2 : Addr) (h0 : Heap) (n0 : Nat) (v : Option Value) (h : Heap) (L : List Loc) : Prop := v = some (.ref w2) ∧ Fr n0 L ∧ h = h0
set_option maxRecDepth 65536 in
set_option maxHeartbeats 40000000 in
theorem rm3_10 (l : Launch) (Z : State) (a0 : Array Value) (hw : HW Z a0) (ws : List Jvm.Cond) (w5 : Addr) (w2 : Addr) (h0 : Heap) (n0 : Nat) (Z0 : n0 ≤ h0.size) (F_w5_withTransaction : Fld Z Z.heap w5 "com/example/grenze/grenze/Propagation" "withTransaction" "Lcom/example/grenze/grenze/Participation;" (.ref w2)) (P2 : Old Z n0 h0) :
    MF l Z (⟨"com/example/grenze/grenze/Propagation", "participation", "(Z)Lcom/example/grenze/grenze/Participation;"⟩ : MethodName) (Jvm.Cond.code (⟨"com/example/grenze/grenze/Propagation", "participation", "(Z)Lcom/example/grenze/grenze/Participation;"⟩ : MethodName) prog_9_method_5_code 2 (some (.object "com/example/grenze/grenze/Participation"))) ws ({ frames := 0, cells := 0, slots := 0, locals := 0 } : Room) #[(.ref w5), (.int 1)] h0 (Q3_10 Z w5 w2 h0 n0) := by
  refine MetFree.of_bodySF (plainFor_of_name pn_1) hisR ?_
  intro p e s m args below meth c s₁ Bd hml0 hP hK
  obtain ⟨rfl, hZ, hh⟩ := hP
  have hx := Bd.exec
  have hby := Bd.bytes
  have hml : c.maxLocals = 2 := hml0
  have hown : s.vm.findClass "com/example/grenze/grenze/Propagation" = some m.cls := findClass_of_methodNamed Bd.named
  have hnm := (name_of_methodNamed Bd.named Bd.method).1
  have X0 : Stand p l e ({ frames := 0, cells := 0, slots := 0, locals := 0 } : Room) s m #[(.ref w5), (.int 1)] below meth c s₁ [] 0 0 := Stand.of_body Bd
  have e0 : s₁.heap = h0 := by rw [← hh, Bd.state]; rfl
  have N0 := Fr.nil n0
  have pre0 : ∀ t, SF p e below s₁ (mkF m 0 #[rv w5, iv 1] []) t → SF p e below s₁ (entryFrame m #[(.ref w5), (.int 1)] 2) t := fun t k => castTop (ef_2 m w5 (1 : Int32)) k
  obtain ⟨T1, X1, e1, st1⟩ := getF X0 hx hZ hown (host := "") (Or.inl (tw hw 19 rfl)) Via.refl e0 (F_w5_withTransaction.ext P2.2) (g := (mkF m 5 #[rv w5, iv 1] [(.ref w5)])) rfl rfl (hb hby d3_5)
  obtain ⟨fs, hr, hrun, hended, hW, hsame⟩ := X1.leave (v := some (.ref w2)) (fun h => by rw [Bd.returns] at h; cases h)
  refine ⟨_, _, pre0 _ ?_, hrun, hended, _, _, rfl, ?_, ⟨_, rfl⟩, hW, hsame.mono (by decide) (by decide)⟩
  · show SF p e below s₁ (mkF m 0 #[rv w5, iv 1] []) _
    refine XS.iloadN X0.here hx rfl (hb hby d3_0) rfl ?_
    show SF p e below s₁ (mkF m 1 #[rv w5, iv 1] [(.int 1)]) _
    refine XS.ifNo X0.here hx rfl (hb hby d3_1) rfl ((if0 _ _).trans (feq (by decide : ¬ ((1 : Int32) = (0 : Int32)))).1) ?_
    show SF p e below s₁ (mkF m 4 #[rv w5, iv 1] []) _
    refine XS.aloadN X0.here hx rfl (hb hby d3_4) rfl rfl ?_
    show SF p e below s₁ (mkF m 5 #[rv w5, iv 1] [(.ref w5)]) _
    refine st1 _ ?_
    show SF p e below T1 (mkF m 8 #[rv w5, iv 1] [(.ref w2)]) _
    refine XS.goto X1.here hx rfl (pc0 := 8) (pc' := 15) rfl (hb hby d3_8) (by decide) (by decide) ?_
    show SF p e below T1 (mkF m 15 #[rv w5, iv 1] [(.ref w2)]) _
    exact own_retR X1 hx Bd.returns rfl rfl (hb hby d3_15) hr
  · show Q3_10 Z w5 w2 h0 n0 _ T1.heap _
    rw [e1]
    exact ⟨rfl, N0, rfl⟩
theorem d1_17 : decode method_3_code 17 = .ok (.iload_n 0, 1) := by decide +kernel
theorem d1_18 : decode method_3_code 18 = .ok (.iconst 2, 1) := by decide +kernel
theorem d1_19 : decode method_3_code 19 = .ok (.if_icmp .ne 7, 3) := by decide +kernel
theorem d1_22 : decode method_3_code 22 = .ok (.getstatic 34, 3) := by decide +kernel
theorem d1_25 : decode method_3_code 25 = .ok (.areturn, 1) := by decide +kernel
-- PropagationParticipationPinLaw.pick 
def Q1_11 (Z : State) (w11 : Addr) (h0 : Heap) (n0 : Nat) (v : Option Value) (h : Heap) (L : List Loc) : Prop := v = some (.ref w11) ∧ Fr n0 L ∧ h = h0
set_option maxRecDepth 65536 in
set_option maxHeartbeats 40000000 in
theorem rm1_11 (l : Launch) (Z : State) (a0 : Array Value) (hw : HW Z a0) (ws : List Jvm.Cond) (w11 : Addr) (h0 : Heap) (n0 : Nat) (Z0 : n0 ≤ h0.size) (S20 : Sta Z Z.heap "com/example/grenze/grenze/Propagation" "MANDATORY" "Lcom/example/grenze/grenze/Propagation;" (.ref w11)) (P2 : Old Z n0 h0) :
    MF l Z (⟨"com/example/grenze/grenze/PropagationParticipationPinLaw", "pick", "(I)Lcom/example/grenze/grenze/Propagation;"⟩ : MethodName) (Jvm.Cond.code (⟨"com/example/grenze/grenze/PropagationParticipationPinLaw", "pick", "(I)Lcom/example/grenze/grenze/Propagation;"⟩ : MethodName) method_3_code 1 (some (.object "com/example/grenze/grenze/Propagation"))) ws ({ frames := 0, cells := 0, slots := 0, locals := 0 } : Room) #[(.int 2)] h0 (Q1_11 Z w11 h0 n0) := by
  refine MetFree.of_bodySF (plainFor_of_name pn_0) hisR ?_
  intro p e s m args below meth c s₁ Bd hml0 hP hK
  obtain ⟨rfl, hZ, hh⟩ := hP
  have hx := Bd.exec
  have hby := Bd.bytes
  have hml : c.maxLocals = 1 := hml0
  have hown : s.vm.findClass "com/example/grenze/grenze/PropagationParticipationPinLaw" = some m.cls := findClass_of_methodNamed Bd.named
  have hnm := (name_of_methodNamed Bd.named Bd.method).1
  have X0 : Stand p l e ({ frames := 0, cells := 0, slots := 0, locals := 0 } : Room) s m #[(.int 2)] below meth c s₁ [] 0 0 := Stand.of_body Bd
  have e0 : s₁.heap = h0 := by rw [← hh, Bd.state]; rfl
  have N0 := Fr.nil n0
  have pre0 : ∀ t, SF p e below s₁ (mkF m 0 #[iv 2] []) t → SF p e below s₁ (entryFrame m #[(.int 2)] 1) t := fun t k => castTop (ef_0 m (2 : Int32)) k
  obtain ⟨T1, X1, e1, st1⟩ := getS2 X0 hx hZ hown (host := "") (Or.inl (tw hw 42 rfl)) Via.refl e0 (S20.ext P2.2) (g := (mkF m 22 #[iv 2] [])) rfl (hb hby d1_22)
  obtain ⟨fs, hr, hrun, hended, hW, hsame⟩ := X1.leave (v := some (.ref w11)) (fun h => by rw [Bd.returns] at h; cases h)
  refine ⟨_, _, pre0 _ ?_, hrun, hended, _, _, rfl, ?_, ⟨_, rfl⟩, hW, hsame.mono (by decide) (by decide)⟩
  · show SF p e below s₁ (mkF m 0 #[iv 2] []) _
    refine XS.iloadN X0.here hx rfl (hb hby d1_0) rfl ?_
    show SF p e below s₁ (mkF m 1 #[iv 2] [(.int 2)]) _
    refine XS.ifYes X0.here hx rfl (pc0 := 1) (pc' := 8) rfl (hb hby d1_1) rfl ((if0 _ _).trans (feq (by decide : ¬ ((2 : Int32) = (0 : Int32)))).2) (by decide) (by decide) ?_
    show SF p e below s₁ (mkF m 8 #[iv 2] []) _
    refine XS.iloadN X0.here hx rfl (hb hby d1_8) rfl ?_
    show SF p e below s₁ (mkF m 9 #[iv 2] [(.int 2)]) _
    refine XS.iconst X0.here hx rfl (hb hby d1_9) ?_
    show SF p e below s₁ (mkF m 10 #[iv 2] [(.int 1), (.int 2)]) _
    refine XS.icmpYes X0.here hx rfl (pc0 := 10) (pc' := 17) rfl (hb hby d1_10) rfl (feq (by decide : ¬ ((2 : Int32) = (1 : Int32)))).2 (by decide) (by decide) ?_
    show SF p e below s₁ (mkF m 17 #[iv 2] []) _
    refine XS.iloadN X0.here hx rfl (hb hby d1_17) rfl ?_
    show SF p e below s₁ (mkF m 18 #[iv 2] [(.int 2)]) _
    refine XS.iconst X0.here hx rfl (hb hby d1_18) ?_
    show SF p e below s₁ (mkF m 19 #[iv 2] [(.int 2), (.int 2)]) _
    refine XS.icmpNo X0.here hx rfl (hb hby d1_19) rfl (teq (by decide : (2 : Int32) = (2 : Int32))).2 ?_
    show SF p e below s₁ (mkF m 22 #[iv 2] []) _
    refine st1 _ ?_
    show SF p e below T1 (mkF m 25 #[iv 2] [(.ref w11)]) _
    exact own_retR X1 hx Bd.returns rfl rfl (hb hby d1_25) hr
  · show Q1_11 Z w11 h0 n0 _ T1.heap _
    rw [e1]
    exact ⟨rfl, N0, rfl⟩
theorem d4_24 : decode method_5_code 24 = .ok (.getstatic 61, 3) := by decide +kernel
theorem d4_27 : decode method_5_code 27 = .ok (.areturn, 1) := by decide +kernel
-- PropagationParticipationPinLaw.withNoneOpen 
def Q4_12 (Z : State) (w10 : Addr) (h0 : Heap) (n0 : Nat) (v : Option Value) (h : Heap) (L : List Loc) : Prop := v = some (.ref w10) ∧ Fr n0 L ∧ h = h0
set_option maxRecDepth 65536 in
set_option maxHeartbeats 40000000 in
theorem rm4_12 (l : Launch) (Z : State) (a0 : Array Value) (hw : HW Z a0) (ws : List Jvm.Cond) (w10 : Addr) (h0 : Heap) (n0 : Nat) (Z0 : n0 ≤ h0.size) (S18 : Sta Z Z.heap "com/example/grenze/grenze/Participation" "REFUSE" "Lcom/example/grenze/grenze/Participation;" (.ref w10)) (P2 : Old Z n0 h0) :
    MF l Z (⟨"com/example/grenze/grenze/PropagationParticipationPinLaw", "withNoneOpen", "(I)Lcom/example/grenze/grenze/Participation;"⟩ : MethodName) (Jvm.Cond.code (⟨"com/example/grenze/grenze/PropagationParticipationPinLaw", "withNoneOpen", "(I)Lcom/example/grenze/grenze/Participation;"⟩ : MethodName) method_5_code 1 (some (.object "com/example/grenze/grenze/Participation"))) ws ({ frames := 0, cells := 0, slots := 0, locals := 0 } : Room) #[(.int 2)] h0 (Q4_12 Z w10 h0 n0) := by
  refine MetFree.of_bodySF (plainFor_of_name pn_0) hisR ?_
  intro p e s m args below meth c s₁ Bd hml0 hP hK
  obtain ⟨rfl, hZ, hh⟩ := hP
  have hx := Bd.exec
  have hby := Bd.bytes
  have hml : c.maxLocals = 1 := hml0
  have hown : s.vm.findClass "com/example/grenze/grenze/PropagationParticipationPinLaw" = some m.cls := findClass_of_methodNamed Bd.named
  have hnm := (name_of_methodNamed Bd.named Bd.method).1
  have X0 : Stand p l e ({ frames := 0, cells := 0, slots := 0, locals := 0 } : Room) s m #[(.int 2)] below meth c s₁ [] 0 0 := Stand.of_body Bd
  have e0 : s₁.heap = h0 := by rw [← hh, Bd.state]; rfl
  have N0 := Fr.nil n0
  have pre0 : ∀ t, SF p e below s₁ (mkF m 0 #[iv 2] []) t → SF p e below s₁ (entryFrame m #[(.int 2)] 1) t := fun t k => castTop (ef_1 m (2 : Int32)) k
  obtain ⟨T1, X1, e1, st1⟩ := getS2 X0 hx hZ hown (host := "") (Or.inl (tw hw 40 rfl)) Via.refl e0 (S18.ext P2.2) (g := (mkF m 24 #[iv 2] [])) rfl (hb hby d4_24)
  obtain ⟨fs, hr, hrun, hended, hW, hsame⟩ := X1.leave (v := some (.ref w10)) (fun h => by rw [Bd.returns] at h; cases h)
  refine ⟨_, _, pre0 _ ?_, hrun, hended, _, _, rfl, ?_, ⟨_, rfl⟩, hW, hsame.mono (by decide) (by decide)⟩
  · show SF p e below s₁ (mkF m 0 #[iv 2] []) _
    refine XS.iloadN X0.here hx rfl (hb hby d4_0) rfl ?_
    show SF p e below s₁ (mkF m 1 #[iv 2] [(.int 2)]) _
    refine XS.ifNo X0.here hx rfl (hb hby d4_1) rfl ((if0 _ _).trans (feq (by decide : ¬ ((2 : Int32) = (0 : Int32)))).1) ?_
    show SF p e below s₁ (mkF m 4 #[iv 2] []) _
    refine XS.iloadN X0.here hx rfl (hb hby d4_4) rfl ?_
    show SF p e below s₁ (mkF m 5 #[iv 2] [(.int 2)]) _
    refine XS.iconst X0.here hx rfl (hb hby d4_5) ?_
    show SF p e below s₁ (mkF m 6 #[iv 2] [(.int 3), (.int 2)]) _
    refine XS.icmpNo X0.here hx rfl (hb hby d4_6) rfl (feq (by decide : ¬ ((2 : Int32) = (3 : Int32)))).1 ?_
    show SF p e below s₁ (mkF m 9 #[iv 2] []) _
    refine XS.iloadN X0.here hx rfl (hb hby d4_9) rfl ?_
    show SF p e below s₁ (mkF m 10 #[iv 2] [(.int 2)]) _
    refine XS.bipush X0.here hx rfl (hb hby d4_10) ?_
    show SF p e below s₁ (mkF m 12 #[iv 2] [(.int 6), (.int 2)]) _
    refine XS.icmpYes X0.here hx rfl (pc0 := 12) (pc' := 19) rfl (hb hby d4_12) rfl (feq (by decide : ¬ ((2 : Int32) = (6 : Int32)))).2 (by decide) (by decide) ?_
    show SF p e below s₁ (mkF m 19 #[iv 2] []) _
    refine XS.iloadN X0.here hx rfl (hb hby d4_19) rfl ?_
    show SF p e below s₁ (mkF m 20 #[iv 2] [(.int 2)]) _
    refine XS.iconst X0.here hx rfl (hb hby d4_20) ?_
    show SF p e below s₁ (mkF m 21 #[iv 2] [(.int 2), (.int 2)]) _
    refine XS.icmpNo X0.here hx rfl (hb hby d4_21) rfl (teq (by decide : (2 : Int32) = (2 : Int32))).2 ?_
    show SF p e below s₁ (mkF m 24 #[iv 2] []) _
    refine st1 _ ?_
    show SF p e below T1 (mkF m 27 #[iv 2] [(.ref w10)]) _
    exact own_retR X1 hx Bd.returns rfl rfl (hb hby d4_27) hr
  · show Q4_12 Z w10 h0 n0 _ T1.heap _
    rw [e1]
    exact ⟨rfl, N0, rfl⟩
-- Propagation.participation 
def Q3_13 (Z : State) (w11 : Addr) (w10 : Addr) (h0 : Heap) (n0 : Nat) (v : Option Value) (h : Heap) (L : List Loc) : Prop := v = some (.ref w10) ∧ Fr n0 L ∧ h = h0
set_option maxRecDepth 65536 in
set_option maxHeartbeats 40000000 in
theorem rm3_13 (l : Launch) (Z : State) (a0 : Array Value) (hw : HW Z a0) (ws : List Jvm.Cond) (w11 : Addr) (w10 : Addr) (h0 : Heap) (n0 : Nat) (Z0 : n0 ≤ h0.size) (F_w11_withoutTransaction : Fld Z Z.heap w11 "com/example/grenze/grenze/Propagation" "withoutTransaction" "Lcom/example/grenze/grenze/Participation;" (.ref w10)) (P2 : Old Z n0 h0) :
    MF l Z (⟨"com/example/grenze/grenze/Propagation", "participation", "(Z)Lcom/example/grenze/grenze/Participation;"⟩ : MethodName) (Jvm.Cond.code (⟨"com/example/grenze/grenze/Propagation", "participation", "(Z)Lcom/example/grenze/grenze/Participation;"⟩ : MethodName) prog_9_method_5_code 2 (some (.object "com/example/grenze/grenze/Participation"))) ws ({ frames := 0, cells := 0, slots := 0, locals := 0 } : Room) #[(.ref w11), (.int 0)] h0 (Q3_13 Z w11 w10 h0 n0) := by
  refine MetFree.of_bodySF (plainFor_of_name pn_1) hisR ?_
  intro p e s m args below meth c s₁ Bd hml0 hP hK
  obtain ⟨rfl, hZ, hh⟩ := hP
  have hx := Bd.exec
  have hby := Bd.bytes
  have hml : c.maxLocals = 2 := hml0
  have hown : s.vm.findClass "com/example/grenze/grenze/Propagation" = some m.cls := findClass_of_methodNamed Bd.named
  have hnm := (name_of_methodNamed Bd.named Bd.method).1
  have X0 : Stand p l e ({ frames := 0, cells := 0, slots := 0, locals := 0 } : Room) s m #[(.ref w11), (.int 0)] below meth c s₁ [] 0 0 := Stand.of_body Bd
  have e0 : s₁.heap = h0 := by rw [← hh, Bd.state]; rfl
  have N0 := Fr.nil n0
  have pre0 : ∀ t, SF p e below s₁ (mkF m 0 #[rv w11, iv 0] []) t → SF p e below s₁ (entryFrame m #[(.ref w11), (.int 0)] 2) t := fun t k => castTop (ef_2 m w11 (0 : Int32)) k
  obtain ⟨T1, X1, e1, st1⟩ := getF X0 hx hZ hown (host := "") (Or.inl (tw hw 32 rfl)) Via.refl e0 (F_w11_withoutTransaction.ext P2.2) (g := (mkF m 12 #[rv w11, iv 0] [(.ref w11)])) rfl rfl (hb hby d3_12)
  obtain ⟨fs, hr, hrun, hended, hW, hsame⟩ := X1.leave (v := some (.ref w10)) (fun h => by rw [Bd.returns] at h; cases h)
  refine ⟨_, _, pre0 _ ?_, hrun, hended, _, _, rfl, ?_, ⟨_, rfl⟩, hW, hsame.mono (by decide) (by decide)⟩
  · show SF p e below s₁ (mkF m 0 #[rv w11, iv 0] []) _
    refine XS.iloadN X0.here hx rfl (hb hby d3_0) rfl ?_
    show SF p e below s₁ (mkF m 1 #[rv w11, iv 0] [(.int 0)]) _
    refine XS.ifYes X0.here hx rfl (pc0 := 1) (pc' := 11) rfl (hb hby d3_1) rfl ((if0 _ _).trans (teq (by decide : (0 : Int32) = (0 : Int32))).1) (by decide) (by decide) ?_
    show SF p e below s₁ (mkF m 11 #[rv w11, iv 0] []) _
    refine XS.aloadN X0.here hx rfl (hb hby d3_11) rfl rfl ?_
    show SF p e below s₁ (mkF m 12 #[rv w11, iv 0] [(.ref w11)]) _
    refine st1 _ ?_
    show SF p e below T1 (mkF m 15 #[rv w11, iv 0] [(.ref w10)]) _
    exact own_retR X1 hx Bd.returns rfl rfl (hb hby d3_15) hr
  · show Q3_13 Z w11 w10 h0 n0 _ T1.heap _
    rw [e1]
    exact ⟨rfl, N0, rfl⟩
-- PropagationParticipationPinLaw.withOpen 
def Q2_14 (Z : State) (w2 : Addr) (h0 : Heap) (n0 : Nat) (v : Option Value) (h : Heap) (L : List Loc) : Prop := v = some (.ref w2) ∧ Fr n0 L ∧ h = h0
set_option maxRecDepth 65536 in
set_option maxHeartbeats 40000000 in
theorem rm2_14 (l : Launch) (Z : State) (a0 : Array Value) (hw : HW Z a0) (ws : List Jvm.Cond) (w2 : Addr) (h0 : Heap) (n0 : Nat) (Z0 : n0 ≤ h0.size) (S2 : Sta Z Z.heap "com/example/grenze/grenze/Participation" "JOIN" "Lcom/example/grenze/grenze/Participation;" (.ref w2)) (P2 : Old Z n0 h0) :
    MF l Z (⟨"com/example/grenze/grenze/PropagationParticipationPinLaw", "withOpen", "(I)Lcom/example/grenze/grenze/Participation;"⟩ : MethodName) (Jvm.Cond.code (⟨"com/example/grenze/grenze/PropagationParticipationPinLaw", "withOpen", "(I)Lcom/example/grenze/grenze/Participation;"⟩ : MethodName) method_4_code 1 (some (.object "com/example/grenze/grenze/Participation"))) ws ({ frames := 0, cells := 0, slots := 0, locals := 0 } : Room) #[(.int 2)] h0 (Q2_14 Z w2 h0 n0) := by
  refine MetFree.of_bodySF (plainFor_of_name pn_0) hisR ?_
  intro p e s m args below meth c s₁ Bd hml0 hP hK
  obtain ⟨rfl, hZ, hh⟩ := hP
  have hx := Bd.exec
  have hby := Bd.bytes
  have hml : c.maxLocals = 1 := hml0
  have hown : s.vm.findClass "com/example/grenze/grenze/PropagationParticipationPinLaw" = some m.cls := findClass_of_methodNamed Bd.named
  have hnm := (name_of_methodNamed Bd.named Bd.method).1
  have X0 : Stand p l e ({ frames := 0, cells := 0, slots := 0, locals := 0 } : Room) s m #[(.int 2)] below meth c s₁ [] 0 0 := Stand.of_body Bd
  have e0 : s₁.heap = h0 := by rw [← hh, Bd.state]; rfl
  have N0 := Fr.nil n0
  have pre0 : ∀ t, SF p e below s₁ (mkF m 0 #[iv 2] []) t → SF p e below s₁ (entryFrame m #[(.int 2)] 1) t := fun t k => castTop (ef_3 m (2 : Int32)) k
  obtain ⟨T1, X1, e1, st1⟩ := getS2 X0 hx hZ hown (host := "") (Or.inl (tw hw 11 rfl)) Via.refl e0 (S2.ext P2.2) (g := (mkF m 5 #[iv 2] [])) rfl (hb hby d2_5)
  obtain ⟨fs, hr, hrun, hended, hW, hsame⟩ := X1.leave (v := some (.ref w2)) (fun h => by rw [Bd.returns] at h; cases h)
  refine ⟨_, _, pre0 _ ?_, hrun, hended, _, _, rfl, ?_, ⟨_, rfl⟩, hW, hsame.mono (by decide) (by decide)⟩
  · show SF p e below s₁ (mkF m 0 #[iv 2] []) _
    refine XS.iloadN X0.here hx rfl (hb hby d2_0) rfl ?_
    show SF p e below s₁ (mkF m 1 #[iv 2] [(.int 2)]) _
    refine XS.iconst X0.here hx rfl (hb hby d2_1) ?_
    show SF p e below s₁ (mkF m 2 #[iv 2] [(.int 2), (.int 2)]) _
    refine XS.icmpNo X0.here hx rfl (hb hby d2_2) rfl (flt (by decide : ¬ ((2 : Int32) < (2 : Int32)))).2.2.1 ?_
    show SF p e below s₁ (mkF m 5 #[iv 2] []) _
    refine st1 _ ?_
    show SF p e below T1 (mkF m 8 #[iv 2] [(.ref w2)]) _
    exact own_retR X1 hx Bd.returns rfl rfl (hb hby d2_8) hr
  · show Q2_14 Z w2 h0 n0 _ T1.heap _
    rw [e1]
    exact ⟨rfl, N0, rfl⟩
-- Propagation.participation 
def Q3_15 (Z : State) (w11 : Addr) (w2 : Addr) (h0 : Heap) (n0 : Nat) (v : Option Value) (h : Heap) (L : List Loc) : Prop := v = some (.ref w2) ∧ Fr n0 L ∧ h = h0
set_option maxRecDepth 65536 in
set_option maxHeartbeats 40000000 in
theorem rm3_15 (l : Launch) (Z : State) (a0 : Array Value) (hw : HW Z a0) (ws : List Jvm.Cond) (w11 : Addr) (w2 : Addr) (h0 : Heap) (n0 : Nat) (Z0 : n0 ≤ h0.size) (F_w11_withTransaction : Fld Z Z.heap w11 "com/example/grenze/grenze/Propagation" "withTransaction" "Lcom/example/grenze/grenze/Participation;" (.ref w2)) (P2 : Old Z n0 h0) :
    MF l Z (⟨"com/example/grenze/grenze/Propagation", "participation", "(Z)Lcom/example/grenze/grenze/Participation;"⟩ : MethodName) (Jvm.Cond.code (⟨"com/example/grenze/grenze/Propagation", "participation", "(Z)Lcom/example/grenze/grenze/Participation;"⟩ : MethodName) prog_9_method_5_code 2 (some (.object "com/example/grenze/grenze/Participation"))) ws ({ frames := 0, cells := 0, slots := 0, locals := 0 } : Room) #[(.ref w11), (.int 1)] h0 (Q3_15 Z w11 w2 h0 n0) := by
  refine MetFree.of_bodySF (plainFor_of_name pn_1) hisR ?_
  intro p e s m args below meth c s₁ Bd hml0 hP hK
  obtain ⟨rfl, hZ, hh⟩ := hP
  have hx := Bd.exec
  have hby := Bd.bytes
  have hml : c.maxLocals = 2 := hml0
  have hown : s.vm.findClass "com/example/grenze/grenze/Propagation" = some m.cls := findClass_of_methodNamed Bd.named
  have hnm := (name_of_methodNamed Bd.named Bd.method).1
  have X0 : Stand p l e ({ frames := 0, cells := 0, slots := 0, locals := 0 } : Room) s m #[(.ref w11), (.int 1)] below meth c s₁ [] 0 0 := Stand.of_body Bd
  have e0 : s₁.heap = h0 := by rw [← hh, Bd.state]; rfl
  have N0 := Fr.nil n0
  have pre0 : ∀ t, SF p e below s₁ (mkF m 0 #[rv w11, iv 1] []) t → SF p e below s₁ (entryFrame m #[(.ref w11), (.int 1)] 2) t := fun t k => castTop (ef_2 m w11 (1 : Int32)) k
  obtain ⟨T1, X1, e1, st1⟩ := getF X0 hx hZ hown (host := "") (Or.inl (tw hw 19 rfl)) Via.refl e0 (F_w11_withTransaction.ext P2.2) (g := (mkF m 5 #[rv w11, iv 1] [(.ref w11)])) rfl rfl (hb hby d3_5)
  obtain ⟨fs, hr, hrun, hended, hW, hsame⟩ := X1.leave (v := some (.ref w2)) (fun h => by rw [Bd.returns] at h; cases h)
  refine ⟨_, _, pre0 _ ?_, hrun, hended, _, _, rfl, ?_, ⟨_, rfl⟩, hW, hsame.mono (by decide) (by decide)⟩
  · show SF p e below s₁ (mkF m 0 #[rv w11, iv 1] []) _
    refine XS.iloadN X0.here hx rfl (hb hby d3_0) rfl ?_
    show SF p e below s₁ (mkF m 1 #[rv w11, iv 1] [(.int 1)]) _
    refine XS.ifNo X0.here hx rfl (hb hby d3_1) rfl ((if0 _ _).trans (feq (by decide : ¬ ((1 : Int32) = (0 : Int32)))).1) ?_
    show SF p e below s₁ (mkF m 4 #[rv w11, iv 1] []) _
    refine XS.aloadN X0.here hx rfl (hb hby d3_4) rfl rfl ?_
    show SF p e below s₁ (mkF m 5 #[rv w11, iv 1] [(.ref w11)]) _
    refine st1 _ ?_
    show SF p e below T1 (mkF m 8 #[rv w11, iv 1] [(.ref w2)]) _
    refine XS.goto X1.here hx rfl (pc0 := 8) (pc' := 15) rfl (hb hby d3_8) (by decide) (by decide) ?_
    show SF p e below T1 (mkF m 15 #[rv w11, iv 1] [(.ref w2)]) _
    exact own_retR X1 hx Bd.returns rfl rfl (hb hby d3_15) hr
  · show Q3_15 Z w11 w2 h0 n0 _ T1.heap _
    rw [e1]
    exact ⟨rfl, N0, rfl⟩
theorem d1_26 : decode method_3_code 26 = .ok (.iload_n 0, 1) := by decide +kernel
theorem d1_27 : decode method_3_code 27 = .ok (.iconst 3, 1) := by decide +kernel
theorem d1_28 : decode method_3_code 28 = .ok (.if_icmp .ne 7, 3) := by decide +kernel
theorem d1_31 : decode method_3_code 31 = .ok (.getstatic 37, 3) := by decide +kernel
theorem d1_34 : decode method_3_code 34 = .ok (.areturn, 1) := by decide +kernel
-- PropagationParticipationPinLaw.pick 
def Q1_16 (Z : State) (w3 : Addr) (h0 : Heap) (n0 : Nat) (v : Option Value) (h : Heap) (L : List Loc) : Prop := v = some (.ref w3) ∧ Fr n0 L ∧ h = h0
set_option maxRecDepth 65536 in
set_option maxHeartbeats 40000000 in
theorem rm1_16 (l : Launch) (Z : State) (a0 : Array Value) (hw : HW Z a0) (ws : List Jvm.Cond) (w3 : Addr) (h0 : Heap) (n0 : Nat) (Z0 : n0 ≤ h0.size) (S4 : Sta Z Z.heap "com/example/grenze/grenze/Propagation" "REQUIRES_NEW" "Lcom/example/grenze/grenze/Propagation;" (.ref w3)) (P2 : Old Z n0 h0) :
    MF l Z (⟨"com/example/grenze/grenze/PropagationParticipationPinLaw", "pick", "(I)Lcom/example/grenze/grenze/Propagation;"⟩ : MethodName) (Jvm.Cond.code (⟨"com/example/grenze/grenze/PropagationParticipationPinLaw", "pick", "(I)Lcom/example/grenze/grenze/Propagation;"⟩ : MethodName) method_3_code 1 (some (.object "com/example/grenze/grenze/Propagation"))) ws ({ frames := 0, cells := 0, slots := 0, locals := 0 } : Room) #[(.int 3)] h0 (Q1_16 Z w3 h0 n0) := by
  refine MetFree.of_bodySF (plainFor_of_name pn_0) hisR ?_
  intro p e s m args below meth c s₁ Bd hml0 hP hK
  obtain ⟨rfl, hZ, hh⟩ := hP
  have hx := Bd.exec
  have hby := Bd.bytes
  have hml : c.maxLocals = 1 := hml0
  have hown : s.vm.findClass "com/example/grenze/grenze/PropagationParticipationPinLaw" = some m.cls := findClass_of_methodNamed Bd.named
  have hnm := (name_of_methodNamed Bd.named Bd.method).1
  have X0 : Stand p l e ({ frames := 0, cells := 0, slots := 0, locals := 0 } : Room) s m #[(.int 3)] below meth c s₁ [] 0 0 := Stand.of_body Bd
  have e0 : s₁.heap = h0 := by rw [← hh, Bd.state]; rfl
  have N0 := Fr.nil n0
  have pre0 : ∀ t, SF p e below s₁ (mkF m 0 #[iv 3] []) t → SF p e below s₁ (entryFrame m #[(.int 3)] 1) t := fun t k => castTop (ef_0 m (3 : Int32)) k
  obtain ⟨T1, X1, e1, st1⟩ := getS2 X0 hx hZ hown (host := "") (Or.inl (tw hw 21 rfl)) Via.refl e0 (S4.ext P2.2) (g := (mkF m 31 #[iv 3] [])) rfl (hb hby d1_31)
  obtain ⟨fs, hr, hrun, hended, hW, hsame⟩ := X1.leave (v := some (.ref w3)) (fun h => by rw [Bd.returns] at h; cases h)
  refine ⟨_, _, pre0 _ ?_, hrun, hended, _, _, rfl, ?_, ⟨_, rfl⟩, hW, hsame.mono (by decide) (by decide)⟩
  · show SF p e below s₁ (mkF m 0 #[iv 3] []) _
    refine XS.iloadN X0.here hx rfl (hb hby d1_0) rfl ?_
    show SF p e below s₁ (mkF m 1 #[iv 3] [(.int 3)]) _
    refine XS.ifYes X0.here hx rfl (pc0 := 1) (pc' := 8) rfl (hb hby d1_1) rfl ((if0 _ _).trans (feq (by decide : ¬ ((3 : Int32) = (0 : Int32)))).2) (by decide) (by decide) ?_
    show SF p e below s₁ (mkF m 8 #[iv 3] []) _
    refine XS.iloadN X0.here hx rfl (hb hby d1_8) rfl ?_
    show SF p e below s₁ (mkF m 9 #[iv 3] [(.int 3)]) _
    refine XS.iconst X0.here hx rfl (hb hby d1_9) ?_
    show SF p e below s₁ (mkF m 10 #[iv 3] [(.int 1), (.int 3)]) _
    refine XS.icmpYes X0.here hx rfl (pc0 := 10) (pc' := 17) rfl (hb hby d1_10) rfl (feq (by decide : ¬ ((3 : Int32) = (1 : Int32)))).2 (by decide) (by decide) ?_
    show SF p e below s₁ (mkF m 17 #[iv 3] []) _
    refine XS.iloadN X0.here hx rfl (hb hby d1_17) rfl ?_
    show SF p e below s₁ (mkF m 18 #[iv 3] [(.int 3)]) _
    refine XS.iconst X0.here hx rfl (hb hby d1_18) ?_
    show SF p e below s₁ (mkF m 19 #[iv 3] [(.int 2), (.int 3)]) _
    refine XS.icmpYes X0.here hx rfl (pc0 := 19) (pc' := 26) rfl (hb hby d1_19) rfl (feq (by decide : ¬ ((3 : Int32) = (2 : Int32)))).2 (by decide) (by decide) ?_
    show SF p e below s₁ (mkF m 26 #[iv 3] []) _
    refine XS.iloadN X0.here hx rfl (hb hby d1_26) rfl ?_
    show SF p e below s₁ (mkF m 27 #[iv 3] [(.int 3)]) _
    refine XS.iconst X0.here hx rfl (hb hby d1_27) ?_
    show SF p e below s₁ (mkF m 28 #[iv 3] [(.int 3), (.int 3)]) _
    refine XS.icmpNo X0.here hx rfl (hb hby d1_28) rfl (teq (by decide : (3 : Int32) = (3 : Int32))).2 ?_
    show SF p e below s₁ (mkF m 31 #[iv 3] []) _
    refine st1 _ ?_
    show SF p e below T1 (mkF m 34 #[iv 3] [(.ref w3)]) _
    exact own_retR X1 hx Bd.returns rfl rfl (hb hby d1_34) hr
  · show Q1_16 Z w3 h0 n0 _ T1.heap _
    rw [e1]
    exact ⟨rfl, N0, rfl⟩
-- PropagationParticipationPinLaw.withNoneOpen 
def Q4_17 (Z : State) (w4 : Addr) (h0 : Heap) (n0 : Nat) (v : Option Value) (h : Heap) (L : List Loc) : Prop := v = some (.ref w4) ∧ Fr n0 L ∧ h = h0
set_option maxRecDepth 65536 in
set_option maxHeartbeats 40000000 in
theorem rm4_17 (l : Launch) (Z : State) (a0 : Array Value) (hw : HW Z a0) (ws : List Jvm.Cond) (w4 : Addr) (h0 : Heap) (n0 : Nat) (Z0 : n0 ≤ h0.size) (S6 : Sta Z Z.heap "com/example/grenze/grenze/Participation" "BEGIN" "Lcom/example/grenze/grenze/Participation;" (.ref w4)) (P2 : Old Z n0 h0) :
    MF l Z (⟨"com/example/grenze/grenze/PropagationParticipationPinLaw", "withNoneOpen", "(I)Lcom/example/grenze/grenze/Participation;"⟩ : MethodName) (Jvm.Cond.code (⟨"com/example/grenze/grenze/PropagationParticipationPinLaw", "withNoneOpen", "(I)Lcom/example/grenze/grenze/Participation;"⟩ : MethodName) method_5_code 1 (some (.object "com/example/grenze/grenze/Participation"))) ws ({ frames := 0, cells := 0, slots := 0, locals := 0 } : Room) #[(.int 3)] h0 (Q4_17 Z w4 h0 n0) := by
  refine MetFree.of_bodySF (plainFor_of_name pn_0) hisR ?_
  intro p e s m args below meth c s₁ Bd hml0 hP hK
  obtain ⟨rfl, hZ, hh⟩ := hP
  have hx := Bd.exec
  have hby := Bd.bytes
  have hml : c.maxLocals = 1 := hml0
  have hown : s.vm.findClass "com/example/grenze/grenze/PropagationParticipationPinLaw" = some m.cls := findClass_of_methodNamed Bd.named
  have hnm := (name_of_methodNamed Bd.named Bd.method).1
  have X0 : Stand p l e ({ frames := 0, cells := 0, slots := 0, locals := 0 } : Room) s m #[(.int 3)] below meth c s₁ [] 0 0 := Stand.of_body Bd
  have e0 : s₁.heap = h0 := by rw [← hh, Bd.state]; rfl
  have N0 := Fr.nil n0
  have pre0 : ∀ t, SF p e below s₁ (mkF m 0 #[iv 3] []) t → SF p e below s₁ (entryFrame m #[(.int 3)] 1) t := fun t k => castTop (ef_1 m (3 : Int32)) k
  obtain ⟨T1, X1, e1, st1⟩ := getS2 X0 hx hZ hown (host := "") (Or.inl (tw hw 23 rfl)) Via.refl e0 (S6.ext P2.2) (g := (mkF m 15 #[iv 3] [])) rfl (hb hby d4_15)
  obtain ⟨fs, hr, hrun, hended, hW, hsame⟩ := X1.leave (v := some (.ref w4)) (fun h => by rw [Bd.returns] at h; cases h)
  refine ⟨_, _, pre0 _ ?_, hrun, hended, _, _, rfl, ?_, ⟨_, rfl⟩, hW, hsame.mono (by decide) (by decide)⟩
  · show SF p e below s₁ (mkF m 0 #[iv 3] []) _
    refine XS.iloadN X0.here hx rfl (hb hby d4_0) rfl ?_
    show SF p e below s₁ (mkF m 1 #[iv 3] [(.int 3)]) _
    refine XS.ifNo X0.here hx rfl (hb hby d4_1) rfl ((if0 _ _).trans (feq (by decide : ¬ ((3 : Int32) = (0 : Int32)))).1) ?_
    show SF p e below s₁ (mkF m 4 #[iv 3] []) _
    refine XS.iloadN X0.here hx rfl (hb hby d4_4) rfl ?_
    show SF p e below s₁ (mkF m 5 #[iv 3] [(.int 3)]) _
    refine XS.iconst X0.here hx rfl (hb hby d4_5) ?_
    show SF p e below s₁ (mkF m 6 #[iv 3] [(.int 3), (.int 3)]) _
    refine XS.icmpYes X0.here hx rfl (pc0 := 6) (pc' := 15) rfl (hb hby d4_6) rfl (teq (by decide : (3 : Int32) = (3 : Int32))).1 (by decide) (by decide) ?_
    show SF p e below s₁ (mkF m 15 #[iv 3] []) _
    refine st1 _ ?_
    show SF p e below T1 (mkF m 18 #[iv 3] [(.ref w4)]) _
    exact own_retR X1 hx Bd.returns rfl rfl (hb hby d4_18) hr
  · show Q4_17 Z w4 h0 n0 _ T1.heap _
    rw [e1]
    exact ⟨rfl, N0, rfl⟩
-- Propagation.participation 
def Q3_18 (Z : State) (w3 : Addr) (w4 : Addr) (h0 : Heap) (n0 : Nat) (v : Option Value) (h : Heap) (L : List Loc) : Prop := v = some (.ref w4) ∧ Fr n0 L ∧ h = h0
set_option maxRecDepth 65536 in
set_option maxHeartbeats 40000000 in
theorem rm3_18 (l : Launch) (Z : State) (a0 : Array Value) (hw : HW Z a0) (ws : List Jvm.Cond) (w3 : Addr) (w4 : Addr) (h0 : Heap) (n0 : Nat) (Z0 : n0 ≤ h0.size) (F_w3_withoutTransaction : Fld Z Z.heap w3 "com/example/grenze/grenze/Propagation" "withoutTransaction" "Lcom/example/grenze/grenze/Participation;" (.ref w4)) (P2 : Old Z n0 h0) :
    MF l Z (⟨"com/example/grenze/grenze/Propagation", "participation", "(Z)Lcom/example/grenze/grenze/Participation;"⟩ : MethodName) (Jvm.Cond.code (⟨"com/example/grenze/grenze/Propagation", "participation", "(Z)Lcom/example/grenze/grenze/Participation;"⟩ : MethodName) prog_9_method_5_code 2 (some (.object "com/example/grenze/grenze/Participation"))) ws ({ frames := 0, cells := 0, slots := 0, locals := 0 } : Room) #[(.ref w3), (.int 0)] h0 (Q3_18 Z w3 w4 h0 n0) := by
  refine MetFree.of_bodySF (plainFor_of_name pn_1) hisR ?_
  intro p e s m args below meth c s₁ Bd hml0 hP hK
  obtain ⟨rfl, hZ, hh⟩ := hP
  have hx := Bd.exec
  have hby := Bd.bytes
  have hml : c.maxLocals = 2 := hml0
  have hown : s.vm.findClass "com/example/grenze/grenze/Propagation" = some m.cls := findClass_of_methodNamed Bd.named
  have hnm := (name_of_methodNamed Bd.named Bd.method).1
  have X0 : Stand p l e ({ frames := 0, cells := 0, slots := 0, locals := 0 } : Room) s m #[(.ref w3), (.int 0)] below meth c s₁ [] 0 0 := Stand.of_body Bd
  have e0 : s₁.heap = h0 := by rw [← hh, Bd.state]; rfl
  have N0 := Fr.nil n0
  have pre0 : ∀ t, SF p e below s₁ (mkF m 0 #[rv w3, iv 0] []) t → SF p e below s₁ (entryFrame m #[(.ref w3), (.int 0)] 2) t := fun t k => castTop (ef_2 m w3 (0 : Int32)) k
  obtain ⟨T1, X1, e1, st1⟩ := getF X0 hx hZ hown (host := "") (Or.inl (tw hw 32 rfl)) Via.refl e0 (F_w3_withoutTransaction.ext P2.2) (g := (mkF m 12 #[rv w3, iv 0] [(.ref w3)])) rfl rfl (hb hby d3_12)
  obtain ⟨fs, hr, hrun, hended, hW, hsame⟩ := X1.leave (v := some (.ref w4)) (fun h => by rw [Bd.returns] at h; cases h)
  refine ⟨_, _, pre0 _ ?_, hrun, hended, _, _, rfl, ?_, ⟨_, rfl⟩, hW, hsame.mono (by decide) (by decide)⟩
  · show SF p e below s₁ (mkF m 0 #[rv w3, iv 0] []) _
    refine XS.iloadN X0.here hx rfl (hb hby d3_0) rfl ?_
    show SF p e below s₁ (mkF m 1 #[rv w3, iv 0] [(.int 0)]) _
    refine XS.ifYes X0.here hx rfl (pc0 := 1) (pc' := 11) rfl (hb hby d3_1) rfl ((if0 _ _).trans (teq (by decide : (0 : Int32) = (0 : Int32))).1) (by decide) (by decide) ?_
    show SF p e below s₁ (mkF m 11 #[rv w3, iv 0] []) _
    refine XS.aloadN X0.here hx rfl (hb hby d3_11) rfl rfl ?_
    show SF p e below s₁ (mkF m 12 #[rv w3, iv 0] [(.ref w3)]) _
    refine st1 _ ?_
    show SF p e below T1 (mkF m 15 #[rv w3, iv 0] [(.ref w4)]) _
    exact own_retR X1 hx Bd.returns rfl rfl (hb hby d3_15) hr
  · show Q3_18 Z w3 w4 h0 n0 _ T1.heap _
    rw [e1]
    exact ⟨rfl, N0, rfl⟩
theorem d2_9 : decode method_4_code 9 = .ok (.iload_n 0, 1) := by decide +kernel
theorem d2_10 : decode method_4_code 10 = .ok (.iconst 3, 1) := by decide +kernel
theorem d2_11 : decode method_4_code 11 = .ok (.if_icmp .ne 7, 3) := by decide +kernel
theorem d2_14 : decode method_4_code 14 = .ok (.getstatic 55, 3) := by decide +kernel
theorem d2_17 : decode method_4_code 17 = .ok (.areturn, 1) := by decide +kernel
-- PropagationParticipationPinLaw.withOpen 
def Q2_19 (Z : State) (w4 : Addr) (h0 : Heap) (n0 : Nat) (v : Option Value) (h : Heap) (L : List Loc) : Prop := v = some (.ref w4) ∧ Fr n0 L ∧ h = h0
set_option maxRecDepth 65536 in
set_option maxHeartbeats 40000000 in
theorem rm2_19 (l : Launch) (Z : State) (a0 : Array Value) (hw : HW Z a0) (ws : List Jvm.Cond) (w4 : Addr) (h0 : Heap) (n0 : Nat) (Z0 : n0 ≤ h0.size) (S6 : Sta Z Z.heap "com/example/grenze/grenze/Participation" "BEGIN" "Lcom/example/grenze/grenze/Participation;" (.ref w4)) (P2 : Old Z n0 h0) :
    MF l Z (⟨"com/example/grenze/grenze/PropagationParticipationPinLaw", "withOpen", "(I)Lcom/example/grenze/grenze/Participation;"⟩ : MethodName) (Jvm.Cond.code (⟨"com/example/grenze/grenze/PropagationParticipationPinLaw", "withOpen", "(I)Lcom/example/grenze/grenze/Participation;"⟩ : MethodName) method_4_code 1 (some (.object "com/example/grenze/grenze/Participation"))) ws ({ frames := 0, cells := 0, slots := 0, locals := 0 } : Room) #[(.int 3)] h0 (Q2_19 Z w4 h0 n0) := by
  refine MetFree.of_bodySF (plainFor_of_name pn_0) hisR ?_
  intro p e s m args below meth c s₁ Bd hml0 hP hK
  obtain ⟨rfl, hZ, hh⟩ := hP
  have hx := Bd.exec
  have hby := Bd.bytes
  have hml : c.maxLocals = 1 := hml0
  have hown : s.vm.findClass "com/example/grenze/grenze/PropagationParticipationPinLaw" = some m.cls := findClass_of_methodNamed Bd.named
  have hnm := (name_of_methodNamed Bd.named Bd.method).1
  have X0 : Stand p l e ({ frames := 0, cells := 0, slots := 0, locals := 0 } : Room) s m #[(.int 3)] below meth c s₁ [] 0 0 := Stand.of_body Bd
  have e0 : s₁.heap = h0 := by rw [← hh, Bd.state]; rfl
  have N0 := Fr.nil n0
  have pre0 : ∀ t, SF p e below s₁ (mkF m 0 #[iv 3] []) t → SF p e below s₁ (entryFrame m #[(.int 3)] 1) t := fun t k => castTop (ef_3 m (3 : Int32)) k
  obtain ⟨T1, X1, e1, st1⟩ := getS2 X0 hx hZ hown (host := "") (Or.inl (tw hw 23 rfl)) Via.refl e0 (S6.ext P2.2) (g := (mkF m 14 #[iv 3] [])) rfl (hb hby d2_14)
  obtain ⟨fs, hr, hrun, hended, hW, hsame⟩ := X1.leave (v := some (.ref w4)) (fun h => by rw [Bd.returns] at h; cases h)
  refine ⟨_, _, pre0 _ ?_, hrun, hended, _, _, rfl, ?_, ⟨_, rfl⟩, hW, hsame.mono (by decide) (by decide)⟩
  · show SF p e below s₁ (mkF m 0 #[iv 3] []) _
    refine XS.iloadN X0.here hx rfl (hb hby d2_0) rfl ?_
    show SF p e below s₁ (mkF m 1 #[iv 3] [(.int 3)]) _
    refine XS.iconst X0.here hx rfl (hb hby d2_1) ?_
    show SF p e below s₁ (mkF m 2 #[iv 3] [(.int 2), (.int 3)]) _
    refine XS.icmpYes X0.here hx rfl (pc0 := 2) (pc' := 9) rfl (hb hby d2_2) rfl (tlt (by decide : (2 : Int32) < (3 : Int32))).2.2.1 (by decide) (by decide) ?_
    show SF p e below s₁ (mkF m 9 #[iv 3] []) _
    refine XS.iloadN X0.here hx rfl (hb hby d2_9) rfl ?_
    show SF p e below s₁ (mkF m 10 #[iv 3] [(.int 3)]) _
    refine XS.iconst X0.here hx rfl (hb hby d2_10) ?_
    show SF p e below s₁ (mkF m 11 #[iv 3] [(.int 3), (.int 3)]) _
    refine XS.icmpNo X0.here hx rfl (hb hby d2_11) rfl (teq (by decide : (3 : Int32) = (3 : Int32))).2 ?_
    show SF p e below s₁ (mkF m 14 #[iv 3] []) _
    refine st1 _ ?_
    show SF p e below T1 (mkF m 17 #[iv 3] [(.ref w4)]) _
    exact own_retR X1 hx Bd.returns rfl rfl (hb hby d2_17) hr
  · show Q2_19 Z w4 h0 n0 _ T1.heap _
    rw [e1]
    exact ⟨rfl, N0, rfl⟩
-- Propagation.participation 
def Q3_20 (Z : State) (w3 : Addr) (w4 : Addr) (h0 : Heap) (n0 : Nat) (v : Option Value) (h : Heap) (L : List Loc) : Prop := v = some (.ref w4) ∧ Fr n0 L ∧ h = h0
set_option maxRecDepth 65536 in
set_option maxHeartbeats 40000000 in
theorem rm3_20 (l : Launch) (Z : State) (a0 : Array Value) (hw : HW Z a0) (ws : List Jvm.Cond) (w3 : Addr) (w4 : Addr) (h0 : Heap) (n0 : Nat) (Z0 : n0 ≤ h0.size) (F_w3_withTransaction : Fld Z Z.heap w3 "com/example/grenze/grenze/Propagation" "withTransaction" "Lcom/example/grenze/grenze/Participation;" (.ref w4)) (P2 : Old Z n0 h0) :
    MF l Z (⟨"com/example/grenze/grenze/Propagation", "participation", "(Z)Lcom/example/grenze/grenze/Participation;"⟩ : MethodName) (Jvm.Cond.code (⟨"com/example/grenze/grenze/Propagation", "participation", "(Z)Lcom/example/grenze/grenze/Participation;"⟩ : MethodName) prog_9_method_5_code 2 (some (.object "com/example/grenze/grenze/Participation"))) ws ({ frames := 0, cells := 0, slots := 0, locals := 0 } : Room) #[(.ref w3), (.int 1)] h0 (Q3_20 Z w3 w4 h0 n0) := by
  refine MetFree.of_bodySF (plainFor_of_name pn_1) hisR ?_
  intro p e s m args below meth c s₁ Bd hml0 hP hK
  obtain ⟨rfl, hZ, hh⟩ := hP
  have hx := Bd.exec
  have hby := Bd.bytes
  have hml : c.maxLocals = 2 := hml0
  have hown : s.vm.findClass "com/example/grenze/grenze/Propagation" = some m.cls := findClass_of_methodNamed Bd.named
  have hnm := (name_of_methodNamed Bd.named Bd.method).1
  have X0 : Stand p l e ({ frames := 0, cells := 0, slots := 0, locals := 0 } : Room) s m #[(.ref w3), (.int 1)] below meth c s₁ [] 0 0 := Stand.of_body Bd
  have e0 : s₁.heap = h0 := by rw [← hh, Bd.state]; rfl
  have N0 := Fr.nil n0
  have pre0 : ∀ t, SF p e below s₁ (mkF m 0 #[rv w3, iv 1] []) t → SF p e below s₁ (entryFrame m #[(.ref w3), (.int 1)] 2) t := fun t k => castTop (ef_2 m w3 (1 : Int32)) k
  obtain ⟨T1, X1, e1, st1⟩ := getF X0 hx hZ hown (host := "") (Or.inl (tw hw 19 rfl)) Via.refl e0 (F_w3_withTransaction.ext P2.2) (g := (mkF m 5 #[rv w3, iv 1] [(.ref w3)])) rfl rfl (hb hby d3_5)
  obtain ⟨fs, hr, hrun, hended, hW, hsame⟩ := X1.leave (v := some (.ref w4)) (fun h => by rw [Bd.returns] at h; cases h)
  refine ⟨_, _, pre0 _ ?_, hrun, hended, _, _, rfl, ?_, ⟨_, rfl⟩, hW, hsame.mono (by decide) (by decide)⟩
  · show SF p e below s₁ (mkF m 0 #[rv w3, iv 1] []) _
    refine XS.iloadN X0.here hx rfl (hb hby d3_0) rfl ?_
    show SF p e below s₁ (mkF m 1 #[rv w3, iv 1] [(.int 1)]) _
    refine XS.ifNo X0.here hx rfl (hb hby d3_1) rfl ((if0 _ _).trans (feq (by decide : ¬ ((1 : Int32) = (0 : Int32)))).1) ?_
    show SF p e below s₁ (mkF m 4 #[rv w3, iv 1] []) _
    refine XS.aloadN X0.here hx rfl (hb hby d3_4) rfl rfl ?_
    show SF p e below s₁ (mkF m 5 #[rv w3, iv 1] [(.ref w3)]) _
    refine st1 _ ?_
    show SF p e below T1 (mkF m 8 #[rv w3, iv 1] [(.ref w4)]) _
    refine XS.goto X1.here hx rfl (pc0 := 8) (pc' := 15) rfl (hb hby d3_8) (by decide) (by decide) ?_
    show SF p e below T1 (mkF m 15 #[rv w3, iv 1] [(.ref w4)]) _
    exact own_retR X1 hx Bd.returns rfl rfl (hb hby d3_15) hr
  · show Q3_20 Z w3 w4 h0 n0 _ T1.heap _
    rw [e1]
    exact ⟨rfl, N0, rfl⟩
theorem d1_35 : decode method_3_code 35 = .ok (.iload_n 0, 1) := by decide +kernel
theorem d1_36 : decode method_3_code 36 = .ok (.iconst 4, 1) := by decide +kernel
theorem d1_37 : decode method_3_code 37 = .ok (.if_icmp .ne 7, 3) := by decide +kernel
theorem d1_40 : decode method_3_code 40 = .ok (.getstatic 40, 3) := by decide +kernel
theorem d1_43 : decode method_3_code 43 = .ok (.areturn, 1) := by decide +kernel
-- PropagationParticipationPinLaw.pick 
def Q1_21 (Z : State) (w7 : Addr) (h0 : Heap) (n0 : Nat) (v : Option Value) (h : Heap) (L : List Loc) : Prop := v = some (.ref w7) ∧ Fr n0 L ∧ h = h0
set_option maxRecDepth 65536 in
set_option maxHeartbeats 40000000 in
theorem rm1_21 (l : Launch) (Z : State) (a0 : Array Value) (hw : HW Z a0) (ws : List Jvm.Cond) (w7 : Addr) (h0 : Heap) (n0 : Nat) (Z0 : n0 ≤ h0.size) (S12 : Sta Z Z.heap "com/example/grenze/grenze/Propagation" "NOT_SUPPORTED" "Lcom/example/grenze/grenze/Propagation;" (.ref w7)) (P2 : Old Z n0 h0) :
    MF l Z (⟨"com/example/grenze/grenze/PropagationParticipationPinLaw", "pick", "(I)Lcom/example/grenze/grenze/Propagation;"⟩ : MethodName) (Jvm.Cond.code (⟨"com/example/grenze/grenze/PropagationParticipationPinLaw", "pick", "(I)Lcom/example/grenze/grenze/Propagation;"⟩ : MethodName) method_3_code 1 (some (.object "com/example/grenze/grenze/Propagation"))) ws ({ frames := 0, cells := 0, slots := 0, locals := 0 } : Room) #[(.int 4)] h0 (Q1_21 Z w7 h0 n0) := by
  refine MetFree.of_bodySF (plainFor_of_name pn_0) hisR ?_
  intro p e s m args below meth c s₁ Bd hml0 hP hK
  obtain ⟨rfl, hZ, hh⟩ := hP
  have hx := Bd.exec
  have hby := Bd.bytes
  have hml : c.maxLocals = 1 := hml0
  have hown : s.vm.findClass "com/example/grenze/grenze/PropagationParticipationPinLaw" = some m.cls := findClass_of_methodNamed Bd.named
  have hnm := (name_of_methodNamed Bd.named Bd.method).1
  have X0 : Stand p l e ({ frames := 0, cells := 0, slots := 0, locals := 0 } : Room) s m #[(.int 4)] below meth c s₁ [] 0 0 := Stand.of_body Bd
  have e0 : s₁.heap = h0 := by rw [← hh, Bd.state]; rfl
  have N0 := Fr.nil n0
  have pre0 : ∀ t, SF p e below s₁ (mkF m 0 #[iv 4] []) t → SF p e below s₁ (entryFrame m #[(.int 4)] 1) t := fun t k => castTop (ef_0 m (4 : Int32)) k
  obtain ⟨T1, X1, e1, st1⟩ := getS2 X0 hx hZ hown (host := "") (Or.inl (tw hw 34 rfl)) Via.refl e0 (S12.ext P2.2) (g := (mkF m 40 #[iv 4] [])) rfl (hb hby d1_40)
  obtain ⟨fs, hr, hrun, hended, hW, hsame⟩ := X1.leave (v := some (.ref w7)) (fun h => by rw [Bd.returns] at h; cases h)
  refine ⟨_, _, pre0 _ ?_, hrun, hended, _, _, rfl, ?_, ⟨_, rfl⟩, hW, hsame.mono (by decide) (by decide)⟩
  · show SF p e below s₁ (mkF m 0 #[iv 4] []) _
    refine XS.iloadN X0.here hx rfl (hb hby d1_0) rfl ?_
    show SF p e below s₁ (mkF m 1 #[iv 4] [(.int 4)]) _
    refine XS.ifYes X0.here hx rfl (pc0 := 1) (pc' := 8) rfl (hb hby d1_1) rfl ((if0 _ _).trans (feq (by decide : ¬ ((4 : Int32) = (0 : Int32)))).2) (by decide) (by decide) ?_
    show SF p e below s₁ (mkF m 8 #[iv 4] []) _
    refine XS.iloadN X0.here hx rfl (hb hby d1_8) rfl ?_
    show SF p e below s₁ (mkF m 9 #[iv 4] [(.int 4)]) _
    refine XS.iconst X0.here hx rfl (hb hby d1_9) ?_
    show SF p e below s₁ (mkF m 10 #[iv 4] [(.int 1), (.int 4)]) _
    refine XS.icmpYes X0.here hx rfl (pc0 := 10) (pc' := 17) rfl (hb hby d1_10) rfl (feq (by decide : ¬ ((4 : Int32) = (1 : Int32)))).2 (by decide) (by decide) ?_
    show SF p e below s₁ (mkF m 17 #[iv 4] []) _
    refine XS.iloadN X0.here hx rfl (hb hby d1_17) rfl ?_
    show SF p e below s₁ (mkF m 18 #[iv 4] [(.int 4)]) _
    refine XS.iconst X0.here hx rfl (hb hby d1_18) ?_
    show SF p e below s₁ (mkF m 19 #[iv 4] [(.int 2), (.int 4)]) _
    refine XS.icmpYes X0.here hx rfl (pc0 := 19) (pc' := 26) rfl (hb hby d1_19) rfl (feq (by decide : ¬ ((4 : Int32) = (2 : Int32)))).2 (by decide) (by decide) ?_
    show SF p e below s₁ (mkF m 26 #[iv 4] []) _
    refine XS.iloadN X0.here hx rfl (hb hby d1_26) rfl ?_
    show SF p e below s₁ (mkF m 27 #[iv 4] [(.int 4)]) _
    refine XS.iconst X0.here hx rfl (hb hby d1_27) ?_
    show SF p e below s₁ (mkF m 28 #[iv 4] [(.int 3), (.int 4)]) _
    refine XS.icmpYes X0.here hx rfl (pc0 := 28) (pc' := 35) rfl (hb hby d1_28) rfl (feq (by decide : ¬ ((4 : Int32) = (3 : Int32)))).2 (by decide) (by decide) ?_
    show SF p e below s₁ (mkF m 35 #[iv 4] []) _
    refine XS.iloadN X0.here hx rfl (hb hby d1_35) rfl ?_
    show SF p e below s₁ (mkF m 36 #[iv 4] [(.int 4)]) _
    refine XS.iconst X0.here hx rfl (hb hby d1_36) ?_
    show SF p e below s₁ (mkF m 37 #[iv 4] [(.int 4), (.int 4)]) _
    refine XS.icmpNo X0.here hx rfl (hb hby d1_37) rfl (teq (by decide : (4 : Int32) = (4 : Int32))).2 ?_
    show SF p e below s₁ (mkF m 40 #[iv 4] []) _
    refine st1 _ ?_
    show SF p e below T1 (mkF m 43 #[iv 4] [(.ref w7)]) _
    exact own_retR X1 hx Bd.returns rfl rfl (hb hby d1_43) hr
  · show Q1_21 Z w7 h0 n0 _ T1.heap _
    rw [e1]
    exact ⟨rfl, N0, rfl⟩
-- PropagationParticipationPinLaw.withNoneOpen 
def Q4_22 (Z : State) (w6 : Addr) (h0 : Heap) (n0 : Nat) (v : Option Value) (h : Heap) (L : List Loc) : Prop := v = some (.ref w6) ∧ Fr n0 L ∧ h = h0
set_option maxRecDepth 65536 in
set_option maxHeartbeats 40000000 in
theorem rm4_22 (l : Launch) (Z : State) (a0 : Array Value) (hw : HW Z a0) (ws : List Jvm.Cond) (w6 : Addr) (h0 : Heap) (n0 : Nat) (Z0 : n0 ≤ h0.size) (S10 : Sta Z Z.heap "com/example/grenze/grenze/Participation" "WITHOUT" "Lcom/example/grenze/grenze/Participation;" (.ref w6)) (P2 : Old Z n0 h0) :
    MF l Z (⟨"com/example/grenze/grenze/PropagationParticipationPinLaw", "withNoneOpen", "(I)Lcom/example/grenze/grenze/Participation;"⟩ : MethodName) (Jvm.Cond.code (⟨"com/example/grenze/grenze/PropagationParticipationPinLaw", "withNoneOpen", "(I)Lcom/example/grenze/grenze/Participation;"⟩ : MethodName) method_5_code 1 (some (.object "com/example/grenze/grenze/Participation"))) ws ({ frames := 0, cells := 0, slots := 0, locals := 0 } : Room) #[(.int 4)] h0 (Q4_22 Z w6 h0 n0) := by
  refine MetFree.of_bodySF (plainFor_of_name pn_0) hisR ?_
  intro p e s m args below meth c s₁ Bd hml0 hP hK
  obtain ⟨rfl, hZ, hh⟩ := hP
  have hx := Bd.exec
  have hby := Bd.bytes
  have hml : c.maxLocals = 1 := hml0
  have hown : s.vm.findClass "com/example/grenze/grenze/PropagationParticipationPinLaw" = some m.cls := findClass_of_methodNamed Bd.named
  have hnm := (name_of_methodNamed Bd.named Bd.method).1
  have X0 : Stand p l e ({ frames := 0, cells := 0, slots := 0, locals := 0 } : Room) s m #[(.int 4)] below meth c s₁ [] 0 0 := Stand.of_body Bd
  have e0 : s₁.heap = h0 := by rw [← hh, Bd.state]; rfl
  have N0 := Fr.nil n0
  have pre0 : ∀ t, SF p e below s₁ (mkF m 0 #[iv 4] []) t → SF p e below s₁ (entryFrame m #[(.int 4)] 1) t := fun t k => castTop (ef_1 m (4 : Int32)) k
  obtain ⟨T1, X1, e1, st1⟩ := getS2 X0 hx hZ hown (host := "") (Or.inl (tw hw 30 rfl)) Via.refl e0 (S10.ext P2.2) (g := (mkF m 28 #[iv 4] [])) rfl (hb hby d4_28)
  obtain ⟨fs, hr, hrun, hended, hW, hsame⟩ := X1.leave (v := some (.ref w6)) (fun h => by rw [Bd.returns] at h; cases h)
  refine ⟨_, _, pre0 _ ?_, hrun, hended, _, _, rfl, ?_, ⟨_, rfl⟩, hW, hsame.mono (by decide) (by decide)⟩
  · show SF p e below s₁ (mkF m 0 #[iv 4] []) _
    refine XS.iloadN X0.here hx rfl (hb hby d4_0) rfl ?_
    show SF p e below s₁ (mkF m 1 #[iv 4] [(.int 4)]) _
    refine XS.ifNo X0.here hx rfl (hb hby d4_1) rfl ((if0 _ _).trans (feq (by decide : ¬ ((4 : Int32) = (0 : Int32)))).1) ?_
    show SF p e below s₁ (mkF m 4 #[iv 4] []) _
    refine XS.iloadN X0.here hx rfl (hb hby d4_4) rfl ?_
    show SF p e below s₁ (mkF m 5 #[iv 4] [(.int 4)]) _
    refine XS.iconst X0.here hx rfl (hb hby d4_5) ?_
    show SF p e below s₁ (mkF m 6 #[iv 4] [(.int 3), (.int 4)]) _
    refine XS.icmpNo X0.here hx rfl (hb hby d4_6) rfl (feq (by decide : ¬ ((4 : Int32) = (3 : Int32)))).1 ?_
    show SF p e below s₁ (mkF m 9 #[iv 4] []) _
    refine XS.iloadN X0.here hx rfl (hb hby d4_9) rfl ?_
    show SF p e below s₁ (mkF m 10 #[iv 4] [(.int 4)]) _
    refine XS.bipush X0.here hx rfl (hb hby d4_10) ?_
    show SF p e below s₁ (mkF m 12 #[iv 4] [(.int 6), (.int 4)]) _
    refine XS.icmpYes X0.here hx rfl (pc0 := 12) (pc' := 19) rfl (hb hby d4_12) rfl (feq (by decide : ¬ ((4 : Int32) = (6 : Int32)))).2 (by decide) (by decide) ?_
    show SF p e below s₁ (mkF m 19 #[iv 4] []) _
    refine XS.iloadN X0.here hx rfl (hb hby d4_19) rfl ?_
    show SF p e below s₁ (mkF m 20 #[iv 4] [(.int 4)]) _
    refine XS.iconst X0.here hx rfl (hb hby d4_20) ?_
    show SF p e below s₁ (mkF m 21 #[iv 4] [(.int 2), (.int 4)]) _
    refine XS.icmpYes X0.here hx rfl (pc0 := 21) (pc' := 28) rfl (hb hby d4_21) rfl (feq (by decide : ¬ ((4 : Int32) = (2 : Int32)))).2 (by decide) (by decide) ?_
    show SF p e below s₁ (mkF m 28 #[iv 4] []) _
    refine st1 _ ?_
    show SF p e below T1 (mkF m 31 #[iv 4] [(.ref w6)]) _
    exact own_retR X1 hx Bd.returns rfl rfl (hb hby d4_31) hr
  · show Q4_22 Z w6 h0 n0 _ T1.heap _
    rw [e1]
    exact ⟨rfl, N0, rfl⟩
-- Propagation.participation 
def Q3_23 (Z : State) (w7 : Addr) (w6 : Addr) (h0 : Heap) (n0 : Nat) (v : Option Value) (h : Heap) (L : List Loc) : Prop := v = some (.ref w6) ∧ Fr n0 L ∧ h = h0
set_option maxRecDepth 65536 in
set_option maxHeartbeats 40000000 in
theorem rm3_23 (l : Launch) (Z : State) (a0 : Array Value) (hw : HW Z a0) (ws : List Jvm.Cond) (w7 : Addr) (w6 : Addr) (h0 : Heap) (n0 : Nat) (Z0 : n0 ≤ h0.size) (F_w7_withoutTransaction : Fld Z Z.heap w7 "com/example/grenze/grenze/Propagation" "withoutTransaction" "Lcom/example/grenze/grenze/Participation;" (.ref w6)) (P2 : Old Z n0 h0) :
    MF l Z (⟨"com/example/grenze/grenze/Propagation", "participation", "(Z)Lcom/example/grenze/grenze/Participation;"⟩ : MethodName) (Jvm.Cond.code (⟨"com/example/grenze/grenze/Propagation", "participation", "(Z)Lcom/example/grenze/grenze/Participation;"⟩ : MethodName) prog_9_method_5_code 2 (some (.object "com/example/grenze/grenze/Participation"))) ws ({ frames := 0, cells := 0, slots := 0, locals := 0 } : Room) #[(.ref w7), (.int 0)] h0 (Q3_23 Z w7 w6 h0 n0) := by
  refine MetFree.of_bodySF (plainFor_of_name pn_1) hisR ?_
  intro p e s m args below meth c s₁ Bd hml0 hP hK
  obtain ⟨rfl, hZ, hh⟩ := hP
  have hx := Bd.exec
  have hby := Bd.bytes
  have hml : c.maxLocals = 2 := hml0
  have hown : s.vm.findClass "com/example/grenze/grenze/Propagation" = some m.cls := findClass_of_methodNamed Bd.named
  have hnm := (name_of_methodNamed Bd.named Bd.method).1
  have X0 : Stand p l e ({ frames := 0, cells := 0, slots := 0, locals := 0 } : Room) s m #[(.ref w7), (.int 0)] below meth c s₁ [] 0 0 := Stand.of_body Bd
  have e0 : s₁.heap = h0 := by rw [← hh, Bd.state]; rfl
  have N0 := Fr.nil n0
  have pre0 : ∀ t, SF p e below s₁ (mkF m 0 #[rv w7, iv 0] []) t → SF p e below s₁ (entryFrame m #[(.ref w7), (.int 0)] 2) t := fun t k => castTop (ef_2 m w7 (0 : Int32)) k
  obtain ⟨T1, X1, e1, st1⟩ := getF X0 hx hZ hown (host := "") (Or.inl (tw hw 32 rfl)) Via.refl e0 (F_w7_withoutTransaction.ext P2.2) (g := (mkF m 12 #[rv w7, iv 0] [(.ref w7)])) rfl rfl (hb hby d3_12)
  obtain ⟨fs, hr, hrun, hended, hW, hsame⟩ := X1.leave (v := some (.ref w6)) (fun h => by rw [Bd.returns] at h; cases h)
  refine ⟨_, _, pre0 _ ?_, hrun, hended, _, _, rfl, ?_, ⟨_, rfl⟩, hW, hsame.mono (by decide) (by decide)⟩
  · show SF p e below s₁ (mkF m 0 #[rv w7, iv 0] []) _
    refine XS.iloadN X0.here hx rfl (hb hby d3_0) rfl ?_
    show SF p e below s₁ (mkF m 1 #[rv w7, iv 0] [(.int 0)]) _
    refine XS.ifYes X0.here hx rfl (pc0 := 1) (pc' := 11) rfl (hb hby d3_1) rfl ((if0 _ _).trans (teq (by decide : (0 : Int32) = (0 : Int32))).1) (by decide) (by decide) ?_
    show SF p e below s₁ (mkF m 11 #[rv w7, iv 0] []) _
    refine XS.aloadN X0.here hx rfl (hb hby d3_11) rfl rfl ?_
    show SF p e below s₁ (mkF m 12 #[rv w7, iv 0] [(.ref w7)]) _
    refine st1 _ ?_
    show SF p e below T1 (mkF m 15 #[rv w7, iv 0] [(.ref w6)]) _
    exact own_retR X1 hx Bd.returns rfl rfl (hb hby d3_15) hr
  · show Q3_23 Z w7 w6 h0 n0 _ T1.heap _
    rw [e1]
    exact ⟨rfl, N0, rfl⟩
theorem d2_18 : decode method_4_code 18 = .ok (.iload_n 0, 1) := by decide +kernel
theorem d2_19 : decode method_4_code 19 = .ok (.iconst 4, 1) := by decide +kernel
theorem d2_20 : decode method_4_code 20 = .ok (.if_icmp .ne 7, 3) := by decide +kernel
theorem d2_23 : decode method_4_code 23 = .ok (.getstatic 58, 3) := by decide +kernel
theorem d2_26 : decode method_4_code 26 = .ok (.areturn, 1) := by decide +kernel
-- PropagationParticipationPinLaw.withOpen 
def Q2_24 (Z : State) (w6 : Addr) (h0 : Heap) (n0 : Nat) (v : Option Value) (h : Heap) (L : List Loc) : Prop := v = some (.ref w6) ∧ Fr n0 L ∧ h = h0
set_option maxRecDepth 65536 in
set_option maxHeartbeats 40000000 in
theorem rm2_24 (l : Launch) (Z : State) (a0 : Array Value) (hw : HW Z a0) (ws : List Jvm.Cond) (w6 : Addr) (h0 : Heap) (n0 : Nat) (Z0 : n0 ≤ h0.size) (S10 : Sta Z Z.heap "com/example/grenze/grenze/Participation" "WITHOUT" "Lcom/example/grenze/grenze/Participation;" (.ref w6)) (P2 : Old Z n0 h0) :
    MF l Z (⟨"com/example/grenze/grenze/PropagationParticipationPinLaw", "withOpen", "(I)Lcom/example/grenze/grenze/Participation;"⟩ : MethodName) (Jvm.Cond.code (⟨"com/example/grenze/grenze/PropagationParticipationPinLaw", "withOpen", "(I)Lcom/example/grenze/grenze/Participation;"⟩ : MethodName) method_4_code 1 (some (.object "com/example/grenze/grenze/Participation"))) ws ({ frames := 0, cells := 0, slots := 0, locals := 0 } : Room) #[(.int 4)] h0 (Q2_24 Z w6 h0 n0) := by
  refine MetFree.of_bodySF (plainFor_of_name pn_0) hisR ?_
  intro p e s m args below meth c s₁ Bd hml0 hP hK
  obtain ⟨rfl, hZ, hh⟩ := hP
  have hx := Bd.exec
  have hby := Bd.bytes
  have hml : c.maxLocals = 1 := hml0
  have hown : s.vm.findClass "com/example/grenze/grenze/PropagationParticipationPinLaw" = some m.cls := findClass_of_methodNamed Bd.named
  have hnm := (name_of_methodNamed Bd.named Bd.method).1
  have X0 : Stand p l e ({ frames := 0, cells := 0, slots := 0, locals := 0 } : Room) s m #[(.int 4)] below meth c s₁ [] 0 0 := Stand.of_body Bd
  have e0 : s₁.heap = h0 := by rw [← hh, Bd.state]; rfl
  have N0 := Fr.nil n0
  have pre0 : ∀ t, SF p e below s₁ (mkF m 0 #[iv 4] []) t → SF p e below s₁ (entryFrame m #[(.int 4)] 1) t := fun t k => castTop (ef_3 m (4 : Int32)) k
  obtain ⟨T1, X1, e1, st1⟩ := getS2 X0 hx hZ hown (host := "") (Or.inl (tw hw 30 rfl)) Via.refl e0 (S10.ext P2.2) (g := (mkF m 23 #[iv 4] [])) rfl (hb hby d2_23)
  obtain ⟨fs, hr, hrun, hended, hW, hsame⟩ := X1.leave (v := some (.ref w6)) (fun h => by rw [Bd.returns] at h; cases h)
  refine ⟨_, _, pre0 _ ?_, hrun, hended, _, _, rfl, ?_, ⟨_, rfl⟩, hW, hsame.mono (by decide) (by decide)⟩
  · show SF p e below s₁ (mkF m 0 #[iv 4] []) _
    refine XS.iloadN X0.here hx rfl (hb hby d2_0) rfl ?_
    show SF p e below s₁ (mkF m 1 #[iv 4] [(.int 4)]) _
    refine XS.iconst X0.here hx rfl (hb hby d2_1) ?_
    show SF p e below s₁ (mkF m 2 #[iv 4] [(.int 2), (.int 4)]) _
    refine XS.icmpYes X0.here hx rfl (pc0 := 2) (pc' := 9) rfl (hb hby d2_2) rfl (tlt (by decide : (2 : Int32) < (4 : Int32))).2.2.1 (by decide) (by decide) ?_
    show SF p e below s₁ (mkF m 9 #[iv 4] []) _
    refine XS.iloadN X0.here hx rfl (hb hby d2_9) rfl ?_
    show SF p e below s₁ (mkF m 10 #[iv 4] [(.int 4)]) _
    refine XS.iconst X0.here hx rfl (hb hby d2_10) ?_
    show SF p e below s₁ (mkF m 11 #[iv 4] [(.int 3), (.int 4)]) _
    refine XS.icmpYes X0.here hx rfl (pc0 := 11) (pc' := 18) rfl (hb hby d2_11) rfl (feq (by decide : ¬ ((4 : Int32) = (3 : Int32)))).2 (by decide) (by decide) ?_
    show SF p e below s₁ (mkF m 18 #[iv 4] []) _
    refine XS.iloadN X0.here hx rfl (hb hby d2_18) rfl ?_
    show SF p e below s₁ (mkF m 19 #[iv 4] [(.int 4)]) _
    refine XS.iconst X0.here hx rfl (hb hby d2_19) ?_
    show SF p e below s₁ (mkF m 20 #[iv 4] [(.int 4), (.int 4)]) _
    refine XS.icmpNo X0.here hx rfl (hb hby d2_20) rfl (teq (by decide : (4 : Int32) = (4 : Int32))).2 ?_
    show SF p e below s₁ (mkF m 23 #[iv 4] []) _
    refine st1 _ ?_
    show SF p e below T1 (mkF m 26 #[iv 4] [(.ref w6)]) _
    exact own_retR X1 hx Bd.returns rfl rfl (hb hby d2_26) hr
  · show Q2_24 Z w6 h0 n0 _ T1.heap _
    rw [e1]
    exact ⟨rfl, N0, rfl⟩
-- Propagation.participation 
def Q3_25 (Z : State) (w7 : Addr) (w6 : Addr) (h0 : Heap) (n0 : Nat) (v : Option Value) (h : Heap) (L : List Loc) : Prop := v = some (.ref w6) ∧ Fr n0 L ∧ h = h0
set_option maxRecDepth 65536 in
set_option maxHeartbeats 40000000 in
theorem rm3_25 (l : Launch) (Z : State) (a0 : Array Value) (hw : HW Z a0) (ws : List Jvm.Cond) (w7 : Addr) (w6 : Addr) (h0 : Heap) (n0 : Nat) (Z0 : n0 ≤ h0.size) (F_w7_withTransaction : Fld Z Z.heap w7 "com/example/grenze/grenze/Propagation" "withTransaction" "Lcom/example/grenze/grenze/Participation;" (.ref w6)) (P2 : Old Z n0 h0) :
    MF l Z (⟨"com/example/grenze/grenze/Propagation", "participation", "(Z)Lcom/example/grenze/grenze/Participation;"⟩ : MethodName) (Jvm.Cond.code (⟨"com/example/grenze/grenze/Propagation", "participation", "(Z)Lcom/example/grenze/grenze/Participation;"⟩ : MethodName) prog_9_method_5_code 2 (some (.object "com/example/grenze/grenze/Participation"))) ws ({ frames := 0, cells := 0, slots := 0, locals := 0 } : Room) #[(.ref w7), (.int 1)] h0 (Q3_25 Z w7 w6 h0 n0) := by
  refine MetFree.of_bodySF (plainFor_of_name pn_1) hisR ?_
  intro p e s m args below meth c s₁ Bd hml0 hP hK
  obtain ⟨rfl, hZ, hh⟩ := hP
  have hx := Bd.exec
  have hby := Bd.bytes
  have hml : c.maxLocals = 2 := hml0
  have hown : s.vm.findClass "com/example/grenze/grenze/Propagation" = some m.cls := findClass_of_methodNamed Bd.named
  have hnm := (name_of_methodNamed Bd.named Bd.method).1
  have X0 : Stand p l e ({ frames := 0, cells := 0, slots := 0, locals := 0 } : Room) s m #[(.ref w7), (.int 1)] below meth c s₁ [] 0 0 := Stand.of_body Bd
  have e0 : s₁.heap = h0 := by rw [← hh, Bd.state]; rfl
  have N0 := Fr.nil n0
  have pre0 : ∀ t, SF p e below s₁ (mkF m 0 #[rv w7, iv 1] []) t → SF p e below s₁ (entryFrame m #[(.ref w7), (.int 1)] 2) t := fun t k => castTop (ef_2 m w7 (1 : Int32)) k
  obtain ⟨T1, X1, e1, st1⟩ := getF X0 hx hZ hown (host := "") (Or.inl (tw hw 19 rfl)) Via.refl e0 (F_w7_withTransaction.ext P2.2) (g := (mkF m 5 #[rv w7, iv 1] [(.ref w7)])) rfl rfl (hb hby d3_5)
  obtain ⟨fs, hr, hrun, hended, hW, hsame⟩ := X1.leave (v := some (.ref w6)) (fun h => by rw [Bd.returns] at h; cases h)
  refine ⟨_, _, pre0 _ ?_, hrun, hended, _, _, rfl, ?_, ⟨_, rfl⟩, hW, hsame.mono (by decide) (by decide)⟩
  · show SF p e below s₁ (mkF m 0 #[rv w7, iv 1] []) _
    refine XS.iloadN X0.here hx rfl (hb hby d3_0) rfl ?_
    show SF p e below s₁ (mkF m 1 #[rv w7, iv 1] [(.int 1)]) _
    refine XS.ifNo X0.here hx rfl (hb hby d3_1) rfl ((if0 _ _).trans (feq (by decide : ¬ ((1 : Int32) = (0 : Int32)))).1) ?_
    show SF p e below s₁ (mkF m 4 #[rv w7, iv 1] []) _
    refine XS.aloadN X0.here hx rfl (hb hby d3_4) rfl rfl ?_
    show SF p e below s₁ (mkF m 5 #[rv w7, iv 1] [(.ref w7)]) _
    refine st1 _ ?_
    show SF p e below T1 (mkF m 8 #[rv w7, iv 1] [(.ref w6)]) _
    refine XS.goto X1.here hx rfl (pc0 := 8) (pc' := 15) rfl (hb hby d3_8) (by decide) (by decide) ?_
    show SF p e below T1 (mkF m 15 #[rv w7, iv 1] [(.ref w6)]) _
    exact own_retR X1 hx Bd.returns rfl rfl (hb hby d3_15) hr
  · show Q3_25 Z w7 w6 h0 n0 _ T1.heap _
    rw [e1]
    exact ⟨rfl, N0, rfl⟩
theorem d1_44 : decode method_3_code 44 = .ok (.iload_n 0, 1) := by decide +kernel
theorem d1_45 : decode method_3_code 45 = .ok (.iconst 5, 1) := by decide +kernel
theorem d1_46 : decode method_3_code 46 = .ok (.if_icmp .ne 7, 3) := by decide +kernel
theorem d1_49 : decode method_3_code 49 = .ok (.getstatic 43, 3) := by decide +kernel
theorem d1_52 : decode method_3_code 52 = .ok (.areturn, 1) := by decide +kernel
-- PropagationParticipationPinLaw.pick 
def Q1_26 (Z : State) (w9 : Addr) (h0 : Heap) (n0 : Nat) (v : Option Value) (h : Heap) (L : List Loc) : Prop := v = some (.ref w9) ∧ Fr n0 L ∧ h = h0
set_option maxRecDepth 65536 in
set_option maxHeartbeats 40000000 in
theorem rm1_26 (l : Launch) (Z : State) (a0 : Array Value) (hw : HW Z a0) (ws : List Jvm.Cond) (w9 : Addr) (h0 : Heap) (n0 : Nat) (Z0 : n0 ≤ h0.size) (S16 : Sta Z Z.heap "com/example/grenze/grenze/Propagation" "NEVER" "Lcom/example/grenze/grenze/Propagation;" (.ref w9)) (P2 : Old Z n0 h0) :
    MF l Z (⟨"com/example/grenze/grenze/PropagationParticipationPinLaw", "pick", "(I)Lcom/example/grenze/grenze/Propagation;"⟩ : MethodName) (Jvm.Cond.code (⟨"com/example/grenze/grenze/PropagationParticipationPinLaw", "pick", "(I)Lcom/example/grenze/grenze/Propagation;"⟩ : MethodName) method_3_code 1 (some (.object "com/example/grenze/grenze/Propagation"))) ws ({ frames := 0, cells := 0, slots := 0, locals := 0 } : Room) #[(.int 5)] h0 (Q1_26 Z w9 h0 n0) := by
  refine MetFree.of_bodySF (plainFor_of_name pn_0) hisR ?_
  intro p e s m args below meth c s₁ Bd hml0 hP hK
  obtain ⟨rfl, hZ, hh⟩ := hP
  have hx := Bd.exec
  have hby := Bd.bytes
  have hml : c.maxLocals = 1 := hml0
  have hown : s.vm.findClass "com/example/grenze/grenze/PropagationParticipationPinLaw" = some m.cls := findClass_of_methodNamed Bd.named
  have hnm := (name_of_methodNamed Bd.named Bd.method).1
  have X0 : Stand p l e ({ frames := 0, cells := 0, slots := 0, locals := 0 } : Room) s m #[(.int 5)] below meth c s₁ [] 0 0 := Stand.of_body Bd
  have e0 : s₁.heap = h0 := by rw [← hh, Bd.state]; rfl
  have N0 := Fr.nil n0
  have pre0 : ∀ t, SF p e below s₁ (mkF m 0 #[iv 5] []) t → SF p e below s₁ (entryFrame m #[(.int 5)] 1) t := fun t k => castTop (ef_0 m (5 : Int32)) k
  obtain ⟨T1, X1, e1, st1⟩ := getS2 X0 hx hZ hown (host := "") (Or.inl (tw hw 38 rfl)) Via.refl e0 (S16.ext P2.2) (g := (mkF m 49 #[iv 5] [])) rfl (hb hby d1_49)
  obtain ⟨fs, hr, hrun, hended, hW, hsame⟩ := X1.leave (v := some (.ref w9)) (fun h => by rw [Bd.returns] at h; cases h)
  refine ⟨_, _, pre0 _ ?_, hrun, hended, _, _, rfl, ?_, ⟨_, rfl⟩, hW, hsame.mono (by decide) (by decide)⟩
  · show SF p e below s₁ (mkF m 0 #[iv 5] []) _
    refine XS.iloadN X0.here hx rfl (hb hby d1_0) rfl ?_
    show SF p e below s₁ (mkF m 1 #[iv 5] [(.int 5)]) _
    refine XS.ifYes X0.here hx rfl (pc0 := 1) (pc' := 8) rfl (hb hby d1_1) rfl ((if0 _ _).trans (feq (by decide : ¬ ((5 : Int32) = (0 : Int32)))).2) (by decide) (by decide) ?_
    show SF p e below s₁ (mkF m 8 #[iv 5] []) _
    refine XS.iloadN X0.here hx rfl (hb hby d1_8) rfl ?_
    show SF p e below s₁ (mkF m 9 #[iv 5] [(.int 5)]) _
    refine XS.iconst X0.here hx rfl (hb hby d1_9) ?_
    show SF p e below s₁ (mkF m 10 #[iv 5] [(.int 1), (.int 5)]) _
    refine XS.icmpYes X0.here hx rfl (pc0 := 10) (pc' := 17) rfl (hb hby d1_10) rfl (feq (by decide : ¬ ((5 : Int32) = (1 : Int32)))).2 (by decide) (by decide) ?_
    show SF p e below s₁ (mkF m 17 #[iv 5] []) _
    refine XS.iloadN X0.here hx rfl (hb hby d1_17) rfl ?_
    show SF p e below s₁ (mkF m 18 #[iv 5] [(.int 5)]) _
    refine XS.iconst X0.here hx rfl (hb hby d1_18) ?_
    show SF p e below s₁ (mkF m 19 #[iv 5] [(.int 2), (.int 5)]) _
    refine XS.icmpYes X0.here hx rfl (pc0 := 19) (pc' := 26) rfl (hb hby d1_19) rfl (feq (by decide : ¬ ((5 : Int32) = (2 : Int32)))).2 (by decide) (by decide) ?_
    show SF p e below s₁ (mkF m 26 #[iv 5] []) _
    refine XS.iloadN X0.here hx rfl (hb hby d1_26) rfl ?_
    show SF p e below s₁ (mkF m 27 #[iv 5] [(.int 5)]) _
    refine XS.iconst X0.here hx rfl (hb hby d1_27) ?_
    show SF p e below s₁ (mkF m 28 #[iv 5] [(.int 3), (.int 5)]) _
    refine XS.icmpYes X0.here hx rfl (pc0 := 28) (pc' := 35) rfl (hb hby d1_28) rfl (feq (by decide : ¬ ((5 : Int32) = (3 : Int32)))).2 (by decide) (by decide) ?_
    show SF p e below s₁ (mkF m 35 #[iv 5] []) _
    refine XS.iloadN X0.here hx rfl (hb hby d1_35) rfl ?_
    show SF p e below s₁ (mkF m 36 #[iv 5] [(.int 5)]) _
    refine XS.iconst X0.here hx rfl (hb hby d1_36) ?_
    show SF p e below s₁ (mkF m 37 #[iv 5] [(.int 4), (.int 5)]) _
    refine XS.icmpYes X0.here hx rfl (pc0 := 37) (pc' := 44) rfl (hb hby d1_37) rfl (feq (by decide : ¬ ((5 : Int32) = (4 : Int32)))).2 (by decide) (by decide) ?_
    show SF p e below s₁ (mkF m 44 #[iv 5] []) _
    refine XS.iloadN X0.here hx rfl (hb hby d1_44) rfl ?_
    show SF p e below s₁ (mkF m 45 #[iv 5] [(.int 5)]) _
    refine XS.iconst X0.here hx rfl (hb hby d1_45) ?_
    show SF p e below s₁ (mkF m 46 #[iv 5] [(.int 5), (.int 5)]) _
    refine XS.icmpNo X0.here hx rfl (hb hby d1_46) rfl (teq (by decide : (5 : Int32) = (5 : Int32))).2 ?_
    show SF p e below s₁ (mkF m 49 #[iv 5] []) _
    refine st1 _ ?_
    show SF p e below T1 (mkF m 52 #[iv 5] [(.ref w9)]) _
    exact own_retR X1 hx Bd.returns rfl rfl (hb hby d1_52) hr
  · show Q1_26 Z w9 h0 n0 _ T1.heap _
    rw [e1]
    exact ⟨rfl, N0, rfl⟩
-- PropagationParticipationPinLaw.withNoneOpen 
def Q4_27 (Z : State) (w6 : Addr) (h0 : Heap) (n0 : Nat) (v : Option Value) (h : Heap) (L : List Loc) : Prop := v = some (.ref w6) ∧ Fr n0 L ∧ h = h0
set_option maxRecDepth 65536 in
set_option maxHeartbeats 40000000 in
theorem rm4_27 (l : Launch) (Z : State) (a0 : Array Value) (hw : HW Z a0) (ws : List Jvm.Cond) (w6 : Addr) (h0 : Heap) (n0 : Nat) (Z0 : n0 ≤ h0.size) (S10 : Sta Z Z.heap "com/example/grenze/grenze/Participation" "WITHOUT" "Lcom/example/grenze/grenze/Participation;" (.ref w6)) (P2 : Old Z n0 h0) :
    MF l Z (⟨"com/example/grenze/grenze/PropagationParticipationPinLaw", "withNoneOpen", "(I)Lcom/example/grenze/grenze/Participation;"⟩ : MethodName) (Jvm.Cond.code (⟨"com/example/grenze/grenze/PropagationParticipationPinLaw", "withNoneOpen", "(I)Lcom/example/grenze/grenze/Participation;"⟩ : MethodName) method_5_code 1 (some (.object "com/example/grenze/grenze/Participation"))) ws ({ frames := 0, cells := 0, slots := 0, locals := 0 } : Room) #[(.int 5)] h0 (Q4_27 Z w6 h0 n0) := by
  refine MetFree.of_bodySF (plainFor_of_name pn_0) hisR ?_
  intro p e s m args below meth c s₁ Bd hml0 hP hK
  obtain ⟨rfl, hZ, hh⟩ := hP
  have hx := Bd.exec
  have hby := Bd.bytes
  have hml : c.maxLocals = 1 := hml0
  have hown : s.vm.findClass "com/example/grenze/grenze/PropagationParticipationPinLaw" = some m.cls := findClass_of_methodNamed Bd.named
  have hnm := (name_of_methodNamed Bd.named Bd.method).1
  have X0 : Stand p l e ({ frames := 0, cells := 0, slots := 0, locals := 0 } : Room) s m #[(.int 5)] below meth c s₁ [] 0 0 := Stand.of_body Bd
  have e0 : s₁.heap = h0 := by rw [← hh, Bd.state]; rfl
  have N0 := Fr.nil n0
  have pre0 : ∀ t, SF p e below s₁ (mkF m 0 #[iv 5] []) t → SF p e below s₁ (entryFrame m #[(.int 5)] 1) t := fun t k => castTop (ef_1 m (5 : Int32)) k
  obtain ⟨T1, X1, e1, st1⟩ := getS2 X0 hx hZ hown (host := "") (Or.inl (tw hw 30 rfl)) Via.refl e0 (S10.ext P2.2) (g := (mkF m 28 #[iv 5] [])) rfl (hb hby d4_28)
  obtain ⟨fs, hr, hrun, hended, hW, hsame⟩ := X1.leave (v := some (.ref w6)) (fun h => by rw [Bd.returns] at h; cases h)
  refine ⟨_, _, pre0 _ ?_, hrun, hended, _, _, rfl, ?_, ⟨_, rfl⟩, hW, hsame.mono (by decide) (by decide)⟩
  · show SF p e below s₁ (mkF m 0 #[iv 5] []) _
    refine XS.iloadN X0.here hx rfl (hb hby d4_0) rfl ?_
    show SF p e below s₁ (mkF m 1 #[iv 5] [(.int 5)]) _
    refine XS.ifNo X0.here hx rfl (hb hby d4_1) rfl ((if0 _ _).trans (feq (by decide : ¬ ((5 : Int32) = (0 : Int32)))).1) ?_
    show SF p e below s₁ (mkF m 4 #[iv 5] []) _
    refine XS.iloadN X0.here hx rfl (hb hby d4_4) rfl ?_
    show SF p e below s₁ (mkF m 5 #[iv 5] [(.int 5)]) _
    refine XS.iconst X0.here hx rfl (hb hby d4_5) ?_
    show SF p e below s₁ (mkF m 6 #[iv 5] [(.int 3), (.int 5)]) _
    refine XS.icmpNo X0.here hx rfl (hb hby d4_6) rfl (feq (by decide : ¬ ((5 : Int32) = (3 : Int32)))).1 ?_
    show SF p e below s₁ (mkF m 9 #[iv 5] []) _
    refine XS.iloadN X0.here hx rfl (hb hby d4_9) rfl ?_
    show SF p e below s₁ (mkF m 10 #[iv 5] [(.int 5)]) _
    refine XS.bipush X0.here hx rfl (hb hby d4_10) ?_
    show SF p e below s₁ (mkF m 12 #[iv 5] [(.int 6), (.int 5)]) _
    refine XS.icmpYes X0.here hx rfl (pc0 := 12) (pc' := 19) rfl (hb hby d4_12) rfl (feq (by decide : ¬ ((5 : Int32) = (6 : Int32)))).2 (by decide) (by decide) ?_
    show SF p e below s₁ (mkF m 19 #[iv 5] []) _
    refine XS.iloadN X0.here hx rfl (hb hby d4_19) rfl ?_
    show SF p e below s₁ (mkF m 20 #[iv 5] [(.int 5)]) _
    refine XS.iconst X0.here hx rfl (hb hby d4_20) ?_
    show SF p e below s₁ (mkF m 21 #[iv 5] [(.int 2), (.int 5)]) _
    refine XS.icmpYes X0.here hx rfl (pc0 := 21) (pc' := 28) rfl (hb hby d4_21) rfl (feq (by decide : ¬ ((5 : Int32) = (2 : Int32)))).2 (by decide) (by decide) ?_
    show SF p e below s₁ (mkF m 28 #[iv 5] []) _
    refine st1 _ ?_
    show SF p e below T1 (mkF m 31 #[iv 5] [(.ref w6)]) _
    exact own_retR X1 hx Bd.returns rfl rfl (hb hby d4_31) hr
  · show Q4_27 Z w6 h0 n0 _ T1.heap _
    rw [e1]
    exact ⟨rfl, N0, rfl⟩
-- Propagation.participation 
def Q3_28 (Z : State) (w9 : Addr) (w6 : Addr) (h0 : Heap) (n0 : Nat) (v : Option Value) (h : Heap) (L : List Loc) : Prop := v = some (.ref w6) ∧ Fr n0 L ∧ h = h0
set_option maxRecDepth 65536 in
set_option maxHeartbeats 40000000 in
theorem rm3_28 (l : Launch) (Z : State) (a0 : Array Value) (hw : HW Z a0) (ws : List Jvm.Cond) (w9 : Addr) (w6 : Addr) (h0 : Heap) (n0 : Nat) (Z0 : n0 ≤ h0.size) (F_w9_withoutTransaction : Fld Z Z.heap w9 "com/example/grenze/grenze/Propagation" "withoutTransaction" "Lcom/example/grenze/grenze/Participation;" (.ref w6)) (P2 : Old Z n0 h0) :
    MF l Z (⟨"com/example/grenze/grenze/Propagation", "participation", "(Z)Lcom/example/grenze/grenze/Participation;"⟩ : MethodName) (Jvm.Cond.code (⟨"com/example/grenze/grenze/Propagation", "participation", "(Z)Lcom/example/grenze/grenze/Participation;"⟩ : MethodName) prog_9_method_5_code 2 (some (.object "com/example/grenze/grenze/Participation"))) ws ({ frames := 0, cells := 0, slots := 0, locals := 0 } : Room) #[(.ref w9), (.int 0)] h0 (Q3_28 Z w9 w6 h0 n0) := by
  refine MetFree.of_bodySF (plainFor_of_name pn_1) hisR ?_
  intro p e s m args below meth c s₁ Bd hml0 hP hK
  obtain ⟨rfl, hZ, hh⟩ := hP
  have hx := Bd.exec
  have hby := Bd.bytes
  have hml : c.maxLocals = 2 := hml0
  have hown : s.vm.findClass "com/example/grenze/grenze/Propagation" = some m.cls := findClass_of_methodNamed Bd.named
  have hnm := (name_of_methodNamed Bd.named Bd.method).1
  have X0 : Stand p l e ({ frames := 0, cells := 0, slots := 0, locals := 0 } : Room) s m #[(.ref w9), (.int 0)] below meth c s₁ [] 0 0 := Stand.of_body Bd
  have e0 : s₁.heap = h0 := by rw [← hh, Bd.state]; rfl
  have N0 := Fr.nil n0
  have pre0 : ∀ t, SF p e below s₁ (mkF m 0 #[rv w9, iv 0] []) t → SF p e below s₁ (entryFrame m #[(.ref w9), (.int 0)] 2) t := fun t k => castTop (ef_2 m w9 (0 : Int32)) k
  obtain ⟨T1, X1, e1, st1⟩ := getF X0 hx hZ hown (host := "") (Or.inl (tw hw 32 rfl)) Via.refl e0 (F_w9_withoutTransaction.ext P2.2) (g := (mkF m 12 #[rv w9, iv 0] [(.ref w9)])) rfl rfl (hb hby d3_12)
  obtain ⟨fs, hr, hrun, hended, hW, hsame⟩ := X1.leave (v := some (.ref w6)) (fun h => by rw [Bd.returns] at h; cases h)
  refine ⟨_, _, pre0 _ ?_, hrun, hended, _, _, rfl, ?_, ⟨_, rfl⟩, hW, hsame.mono (by decide) (by decide)⟩
  · show SF p e below s₁ (mkF m 0 #[rv w9, iv 0] []) _
    refine XS.iloadN X0.here hx rfl (hb hby d3_0) rfl ?_
    show SF p e below s₁ (mkF m 1 #[rv w9, iv 0] [(.int 0)]) _
    refine XS.ifYes X0.here hx rfl (pc0 := 1) (pc' := 11) rfl (hb hby d3_1) rfl ((if0 _ _).trans (teq (by decide : (0 : Int32) = (0 : Int32))).1) (by decide) (by decide) ?_
    show SF p e below s₁ (mkF m 11 #[rv w9, iv 0] []) _
    refine XS.aloadN X0.here hx rfl (hb hby d3_11) rfl rfl ?_
    show SF p e below s₁ (mkF m 12 #[rv w9, iv 0] [(.ref w9)]) _
    refine st1 _ ?_
    show SF p e below T1 (mkF m 15 #[rv w9, iv 0] [(.ref w6)]) _
    exact own_retR X1 hx Bd.returns rfl rfl (hb hby d3_15) hr
  · show Q3_28 Z w9 w6 h0 n0 _ T1.heap _
    rw [e1]
    exact ⟨rfl, N0, rfl⟩
theorem d2_27 : decode method_4_code 27 = .ok (.iload_n 0, 1) := by decide +kernel
theorem d2_28 : decode method_4_code 28 = .ok (.iconst 5, 1) := by decide +kernel
theorem d2_29 : decode method_4_code 29 = .ok (.if_icmp .ne 7, 3) := by decide +kernel
theorem d2_32 : decode method_4_code 32 = .ok (.getstatic 61, 3) := by decide +kernel
theorem d2_35 : decode method_4_code 35 = .ok (.areturn, 1) := by decide +kernel
-- PropagationParticipationPinLaw.withOpen 
def Q2_29 (Z : State) (w10 : Addr) (h0 : Heap) (n0 : Nat) (v : Option Value) (h : Heap) (L : List Loc) : Prop := v = some (.ref w10) ∧ Fr n0 L ∧ h = h0
set_option maxRecDepth 65536 in
set_option maxHeartbeats 40000000 in
theorem rm2_29 (l : Launch) (Z : State) (a0 : Array Value) (hw : HW Z a0) (ws : List Jvm.Cond) (w10 : Addr) (h0 : Heap) (n0 : Nat) (Z0 : n0 ≤ h0.size) (S18 : Sta Z Z.heap "com/example/grenze/grenze/Participation" "REFUSE" "Lcom/example/grenze/grenze/Participation;" (.ref w10)) (P2 : Old Z n0 h0) :
    MF l Z (⟨"com/example/grenze/grenze/PropagationParticipationPinLaw", "withOpen", "(I)Lcom/example/grenze/grenze/Participation;"⟩ : MethodName) (Jvm.Cond.code (⟨"com/example/grenze/grenze/PropagationParticipationPinLaw", "withOpen", "(I)Lcom/example/grenze/grenze/Participation;"⟩ : MethodName) method_4_code 1 (some (.object "com/example/grenze/grenze/Participation"))) ws ({ frames := 0, cells := 0, slots := 0, locals := 0 } : Room) #[(.int 5)] h0 (Q2_29 Z w10 h0 n0) := by
  refine MetFree.of_bodySF (plainFor_of_name pn_0) hisR ?_
  intro p e s m args below meth c s₁ Bd hml0 hP hK
  obtain ⟨rfl, hZ, hh⟩ := hP
  have hx := Bd.exec
  have hby := Bd.bytes
  have hml : c.maxLocals = 1 := hml0
  have hown : s.vm.findClass "com/example/grenze/grenze/PropagationParticipationPinLaw" = some m.cls := findClass_of_methodNamed Bd.named
  have hnm := (name_of_methodNamed Bd.named Bd.method).1
  have X0 : Stand p l e ({ frames := 0, cells := 0, slots := 0, locals := 0 } : Room) s m #[(.int 5)] below meth c s₁ [] 0 0 := Stand.of_body Bd
  have e0 : s₁.heap = h0 := by rw [← hh, Bd.state]; rfl
  have N0 := Fr.nil n0
  have pre0 : ∀ t, SF p e below s₁ (mkF m 0 #[iv 5] []) t → SF p e below s₁ (entryFrame m #[(.int 5)] 1) t := fun t k => castTop (ef_3 m (5 : Int32)) k
  obtain ⟨T1, X1, e1, st1⟩ := getS2 X0 hx hZ hown (host := "") (Or.inl (tw hw 40 rfl)) Via.refl e0 (S18.ext P2.2) (g := (mkF m 32 #[iv 5] [])) rfl (hb hby d2_32)
  obtain ⟨fs, hr, hrun, hended, hW, hsame⟩ := X1.leave (v := some (.ref w10)) (fun h => by rw [Bd.returns] at h; cases h)
  refine ⟨_, _, pre0 _ ?_, hrun, hended, _, _, rfl, ?_, ⟨_, rfl⟩, hW, hsame.mono (by decide) (by decide)⟩
  · show SF p e below s₁ (mkF m 0 #[iv 5] []) _
    refine XS.iloadN X0.here hx rfl (hb hby d2_0) rfl ?_
    show SF p e below s₁ (mkF m 1 #[iv 5] [(.int 5)]) _
    refine XS.iconst X0.here hx rfl (hb hby d2_1) ?_
    show SF p e below s₁ (mkF m 2 #[iv 5] [(.int 2), (.int 5)]) _
    refine XS.icmpYes X0.here hx rfl (pc0 := 2) (pc' := 9) rfl (hb hby d2_2) rfl (tlt (by decide : (2 : Int32) < (5 : Int32))).2.2.1 (by decide) (by decide) ?_
    show SF p e below s₁ (mkF m 9 #[iv 5] []) _
    refine XS.iloadN X0.here hx rfl (hb hby d2_9) rfl ?_
    show SF p e below s₁ (mkF m 10 #[iv 5] [(.int 5)]) _
    refine XS.iconst X0.here hx rfl (hb hby d2_10) ?_
    show SF p e below s₁ (mkF m 11 #[iv 5] [(.int 3), (.int 5)]) _
    refine XS.icmpYes X0.here hx rfl (pc0 := 11) (pc' := 18) rfl (hb hby d2_11) rfl (feq (by decide : ¬ ((5 : Int32) = (3 : Int32)))).2 (by decide) (by decide) ?_
    show SF p e below s₁ (mkF m 18 #[iv 5] []) _
    refine XS.iloadN X0.here hx rfl (hb hby d2_18) rfl ?_
    show SF p e below s₁ (mkF m 19 #[iv 5] [(.int 5)]) _
    refine XS.iconst X0.here hx rfl (hb hby d2_19) ?_
    show SF p e below s₁ (mkF m 20 #[iv 5] [(.int 4), (.int 5)]) _
    refine XS.icmpYes X0.here hx rfl (pc0 := 20) (pc' := 27) rfl (hb hby d2_20) rfl (feq (by decide : ¬ ((5 : Int32) = (4 : Int32)))).2 (by decide) (by decide) ?_
    show SF p e below s₁ (mkF m 27 #[iv 5] []) _
    refine XS.iloadN X0.here hx rfl (hb hby d2_27) rfl ?_
    show SF p e below s₁ (mkF m 28 #[iv 5] [(.int 5)]) _
    refine XS.iconst X0.here hx rfl (hb hby d2_28) ?_
    show SF p e below s₁ (mkF m 29 #[iv 5] [(.int 5), (.int 5)]) _
    refine XS.icmpNo X0.here hx rfl (hb hby d2_29) rfl (teq (by decide : (5 : Int32) = (5 : Int32))).2 ?_
    show SF p e below s₁ (mkF m 32 #[iv 5] []) _
    refine st1 _ ?_
    show SF p e below T1 (mkF m 35 #[iv 5] [(.ref w10)]) _
    exact own_retR X1 hx Bd.returns rfl rfl (hb hby d2_35) hr
  · show Q2_29 Z w10 h0 n0 _ T1.heap _
    rw [e1]
    exact ⟨rfl, N0, rfl⟩
-- Propagation.participation 
def Q3_30 (Z : State) (w9 : Addr) (w10 : Addr) (h0 : Heap) (n0 : Nat) (v : Option Value) (h : Heap) (L : List Loc) : Prop := v = some (.ref w10) ∧ Fr n0 L ∧ h = h0
set_option maxRecDepth 65536 in
set_option maxHeartbeats 40000000 in
theorem rm3_30 (l : Launch) (Z : State) (a0 : Array Value) (hw : HW Z a0) (ws : List Jvm.Cond) (w9 : Addr) (w10 : Addr) (h0 : Heap) (n0 : Nat) (Z0 : n0 ≤ h0.size) (F_w9_withTransaction : Fld Z Z.heap w9 "com/example/grenze/grenze/Propagation" "withTransaction" "Lcom/example/grenze/grenze/Participation;" (.ref w10)) (P2 : Old Z n0 h0) :
    MF l Z (⟨"com/example/grenze/grenze/Propagation", "participation", "(Z)Lcom/example/grenze/grenze/Participation;"⟩ : MethodName) (Jvm.Cond.code (⟨"com/example/grenze/grenze/Propagation", "participation", "(Z)Lcom/example/grenze/grenze/Participation;"⟩ : MethodName) prog_9_method_5_code 2 (some (.object "com/example/grenze/grenze/Participation"))) ws ({ frames := 0, cells := 0, slots := 0, locals := 0 } : Room) #[(.ref w9), (.int 1)] h0 (Q3_30 Z w9 w10 h0 n0) := by
  refine MetFree.of_bodySF (plainFor_of_name pn_1) hisR ?_
  intro p e s m args below meth c s₁ Bd hml0 hP hK
  obtain ⟨rfl, hZ, hh⟩ := hP
  have hx := Bd.exec
  have hby := Bd.bytes
  have hml : c.maxLocals = 2 := hml0
  have hown : s.vm.findClass "com/example/grenze/grenze/Propagation" = some m.cls := findClass_of_methodNamed Bd.named
  have hnm := (name_of_methodNamed Bd.named Bd.method).1
  have X0 : Stand p l e ({ frames := 0, cells := 0, slots := 0, locals := 0 } : Room) s m #[(.ref w9), (.int 1)] below meth c s₁ [] 0 0 := Stand.of_body Bd
  have e0 : s₁.heap = h0 := by rw [← hh, Bd.state]; rfl
  have N0 := Fr.nil n0
  have pre0 : ∀ t, SF p e below s₁ (mkF m 0 #[rv w9, iv 1] []) t → SF p e below s₁ (entryFrame m #[(.ref w9), (.int 1)] 2) t := fun t k => castTop (ef_2 m w9 (1 : Int32)) k
  obtain ⟨T1, X1, e1, st1⟩ := getF X0 hx hZ hown (host := "") (Or.inl (tw hw 19 rfl)) Via.refl e0 (F_w9_withTransaction.ext P2.2) (g := (mkF m 5 #[rv w9, iv 1] [(.ref w9)])) rfl rfl (hb hby d3_5)
  obtain ⟨fs, hr, hrun, hended, hW, hsame⟩ := X1.leave (v := some (.ref w10)) (fun h => by rw [Bd.returns] at h; cases h)
  refine ⟨_, _, pre0 _ ?_, hrun, hended, _, _, rfl, ?_, ⟨_, rfl⟩, hW, hsame.mono (by decide) (by decide)⟩
  · show SF p e below s₁ (mkF m 0 #[rv w9, iv 1] []) _
    refine XS.iloadN X0.here hx rfl (hb hby d3_0) rfl ?_
    show SF p e below s₁ (mkF m 1 #[rv w9, iv 1] [(.int 1)]) _
    refine XS.ifNo X0.here hx rfl (hb hby d3_1) rfl ((if0 _ _).trans (feq (by decide : ¬ ((1 : Int32) = (0 : Int32)))).1) ?_
    show SF p e below s₁ (mkF m 4 #[rv w9, iv 1] []) _
    refine XS.aloadN X0.here hx rfl (hb hby d3_4) rfl rfl ?_
    show SF p e below s₁ (mkF m 5 #[rv w9, iv 1] [(.ref w9)]) _
    refine st1 _ ?_
    show SF p e below T1 (mkF m 8 #[rv w9, iv 1] [(.ref w10)]) _
    refine XS.goto X1.here hx rfl (pc0 := 8) (pc' := 15) rfl (hb hby d3_8) (by decide) (by decide) ?_
    show SF p e below T1 (mkF m 15 #[rv w9, iv 1] [(.ref w10)]) _
    exact own_retR X1 hx Bd.returns rfl rfl (hb hby d3_15) hr
  · show Q3_30 Z w9 w10 h0 n0 _ T1.heap _
    rw [e1]
    exact ⟨rfl, N0, rfl⟩
theorem d1_53 : decode method_3_code 53 = .ok (.getstatic 46, 3) := by decide +kernel
theorem d1_56 : decode method_3_code 56 = .ok (.areturn, 1) := by decide +kernel
-- PropagationParticipationPinLaw.pick 
def Q1_31 (Z : State) (w8 : Addr) (h0 : Heap) (n0 : Nat) (v : Option Value) (h : Heap) (L : List Loc) : Prop := v = some (.ref w8) ∧ Fr n0 L ∧ h = h0
set_option maxRecDepth 65536 in
set_option maxHeartbeats 40000000 in
theorem rm1_31 (l : Launch) (Z : State) (a0 : Array Value) (hw : HW Z a0) (ws : List Jvm.Cond) (w8 : Addr) (h0 : Heap) (n0 : Nat) (Z0 : n0 ≤ h0.size) (S14 : Sta Z Z.heap "com/example/grenze/grenze/Propagation" "NESTED" "Lcom/example/grenze/grenze/Propagation;" (.ref w8)) (P2 : Old Z n0 h0) :
    MF l Z (⟨"com/example/grenze/grenze/PropagationParticipationPinLaw", "pick", "(I)Lcom/example/grenze/grenze/Propagation;"⟩ : MethodName) (Jvm.Cond.code (⟨"com/example/grenze/grenze/PropagationParticipationPinLaw", "pick", "(I)Lcom/example/grenze/grenze/Propagation;"⟩ : MethodName) method_3_code 1 (some (.object "com/example/grenze/grenze/Propagation"))) ws ({ frames := 0, cells := 0, slots := 0, locals := 0 } : Room) #[(.int 6)] h0 (Q1_31 Z w8 h0 n0) := by
  refine MetFree.of_bodySF (plainFor_of_name pn_0) hisR ?_
  intro p e s m args below meth c s₁ Bd hml0 hP hK
  obtain ⟨rfl, hZ, hh⟩ := hP
  have hx := Bd.exec
  have hby := Bd.bytes
  have hml : c.maxLocals = 1 := hml0
  have hown : s.vm.findClass "com/example/grenze/grenze/PropagationParticipationPinLaw" = some m.cls := findClass_of_methodNamed Bd.named
  have hnm := (name_of_methodNamed Bd.named Bd.method).1
  have X0 : Stand p l e ({ frames := 0, cells := 0, slots := 0, locals := 0 } : Room) s m #[(.int 6)] below meth c s₁ [] 0 0 := Stand.of_body Bd
  have e0 : s₁.heap = h0 := by rw [← hh, Bd.state]; rfl
  have N0 := Fr.nil n0
  have pre0 : ∀ t, SF p e below s₁ (mkF m 0 #[iv 6] []) t → SF p e below s₁ (entryFrame m #[(.int 6)] 1) t := fun t k => castTop (ef_0 m (6 : Int32)) k
  obtain ⟨T1, X1, e1, st1⟩ := getS2 X0 hx hZ hown (host := "") (Or.inl (tw hw 36 rfl)) Via.refl e0 (S14.ext P2.2) (g := (mkF m 53 #[iv 6] [])) rfl (hb hby d1_53)
  obtain ⟨fs, hr, hrun, hended, hW, hsame⟩ := X1.leave (v := some (.ref w8)) (fun h => by rw [Bd.returns] at h; cases h)
  refine ⟨_, _, pre0 _ ?_, hrun, hended, _, _, rfl, ?_, ⟨_, rfl⟩, hW, hsame.mono (by decide) (by decide)⟩
  · show SF p e below s₁ (mkF m 0 #[iv 6] []) _
    refine XS.iloadN X0.here hx rfl (hb hby d1_0) rfl ?_
    show SF p e below s₁ (mkF m 1 #[iv 6] [(.int 6)]) _
    refine XS.ifYes X0.here hx rfl (pc0 := 1) (pc' := 8) rfl (hb hby d1_1) rfl ((if0 _ _).trans (feq (by decide : ¬ ((6 : Int32) = (0 : Int32)))).2) (by decide) (by decide) ?_
    show SF p e below s₁ (mkF m 8 #[iv 6] []) _
    refine XS.iloadN X0.here hx rfl (hb hby d1_8) rfl ?_
    show SF p e below s₁ (mkF m 9 #[iv 6] [(.int 6)]) _
    refine XS.iconst X0.here hx rfl (hb hby d1_9) ?_
    show SF p e below s₁ (mkF m 10 #[iv 6] [(.int 1), (.int 6)]) _
    refine XS.icmpYes X0.here hx rfl (pc0 := 10) (pc' := 17) rfl (hb hby d1_10) rfl (feq (by decide : ¬ ((6 : Int32) = (1 : Int32)))).2 (by decide) (by decide) ?_
    show SF p e below s₁ (mkF m 17 #[iv 6] []) _
    refine XS.iloadN X0.here hx rfl (hb hby d1_17) rfl ?_
    show SF p e below s₁ (mkF m 18 #[iv 6] [(.int 6)]) _
    refine XS.iconst X0.here hx rfl (hb hby d1_18) ?_
    show SF p e below s₁ (mkF m 19 #[iv 6] [(.int 2), (.int 6)]) _
    refine XS.icmpYes X0.here hx rfl (pc0 := 19) (pc' := 26) rfl (hb hby d1_19) rfl (feq (by decide : ¬ ((6 : Int32) = (2 : Int32)))).2 (by decide) (by decide) ?_
    show SF p e below s₁ (mkF m 26 #[iv 6] []) _
    refine XS.iloadN X0.here hx rfl (hb hby d1_26) rfl ?_
    show SF p e below s₁ (mkF m 27 #[iv 6] [(.int 6)]) _
    refine XS.iconst X0.here hx rfl (hb hby d1_27) ?_
    show SF p e below s₁ (mkF m 28 #[iv 6] [(.int 3), (.int 6)]) _
    refine XS.icmpYes X0.here hx rfl (pc0 := 28) (pc' := 35) rfl (hb hby d1_28) rfl (feq (by decide : ¬ ((6 : Int32) = (3 : Int32)))).2 (by decide) (by decide) ?_
    show SF p e below s₁ (mkF m 35 #[iv 6] []) _
    refine XS.iloadN X0.here hx rfl (hb hby d1_35) rfl ?_
    show SF p e below s₁ (mkF m 36 #[iv 6] [(.int 6)]) _
    refine XS.iconst X0.here hx rfl (hb hby d1_36) ?_
    show SF p e below s₁ (mkF m 37 #[iv 6] [(.int 4), (.int 6)]) _
    refine XS.icmpYes X0.here hx rfl (pc0 := 37) (pc' := 44) rfl (hb hby d1_37) rfl (feq (by decide : ¬ ((6 : Int32) = (4 : Int32)))).2 (by decide) (by decide) ?_
    show SF p e below s₁ (mkF m 44 #[iv 6] []) _
    refine XS.iloadN X0.here hx rfl (hb hby d1_44) rfl ?_
    show SF p e below s₁ (mkF m 45 #[iv 6] [(.int 6)]) _
    refine XS.iconst X0.here hx rfl (hb hby d1_45) ?_
    show SF p e below s₁ (mkF m 46 #[iv 6] [(.int 5), (.int 6)]) _
    refine XS.icmpYes X0.here hx rfl (pc0 := 46) (pc' := 53) rfl (hb hby d1_46) rfl (feq (by decide : ¬ ((6 : Int32) = (5 : Int32)))).2 (by decide) (by decide) ?_
    show SF p e below s₁ (mkF m 53 #[iv 6] []) _
    refine st1 _ ?_
    show SF p e below T1 (mkF m 56 #[iv 6] [(.ref w8)]) _
    exact own_retR X1 hx Bd.returns rfl rfl (hb hby d1_56) hr
  · show Q1_31 Z w8 h0 n0 _ T1.heap _
    rw [e1]
    exact ⟨rfl, N0, rfl⟩
-- PropagationParticipationPinLaw.withNoneOpen 
def Q4_32 (Z : State) (w4 : Addr) (h0 : Heap) (n0 : Nat) (v : Option Value) (h : Heap) (L : List Loc) : Prop := v = some (.ref w4) ∧ Fr n0 L ∧ h = h0
set_option maxRecDepth 65536 in
set_option maxHeartbeats 40000000 in
theorem rm4_32 (l : Launch) (Z : State) (a0 : Array Value) (hw : HW Z a0) (ws : List Jvm.Cond) (w4 : Addr) (h0 : Heap) (n0 : Nat) (Z0 : n0 ≤ h0.size) (S6 : Sta Z Z.heap "com/example/grenze/grenze/Participation" "BEGIN" "Lcom/example/grenze/grenze/Participation;" (.ref w4)) (P2 : Old Z n0 h0) :
    MF l Z (⟨"com/example/grenze/grenze/PropagationParticipationPinLaw", "withNoneOpen", "(I)Lcom/example/grenze/grenze/Participation;"⟩ : MethodName) (Jvm.Cond.code (⟨"com/example/grenze/grenze/PropagationParticipationPinLaw", "withNoneOpen", "(I)Lcom/example/grenze/grenze/Participation;"⟩ : MethodName) method_5_code 1 (some (.object "com/example/grenze/grenze/Participation"))) ws ({ frames := 0, cells := 0, slots := 0, locals := 0 } : Room) #[(.int 6)] h0 (Q4_32 Z w4 h0 n0) := by
  refine MetFree.of_bodySF (plainFor_of_name pn_0) hisR ?_
  intro p e s m args below meth c s₁ Bd hml0 hP hK
  obtain ⟨rfl, hZ, hh⟩ := hP
  have hx := Bd.exec
  have hby := Bd.bytes
  have hml : c.maxLocals = 1 := hml0
  have hown : s.vm.findClass "com/example/grenze/grenze/PropagationParticipationPinLaw" = some m.cls := findClass_of_methodNamed Bd.named
  have hnm := (name_of_methodNamed Bd.named Bd.method).1
  have X0 : Stand p l e ({ frames := 0, cells := 0, slots := 0, locals := 0 } : Room) s m #[(.int 6)] below meth c s₁ [] 0 0 := Stand.of_body Bd
  have e0 : s₁.heap = h0 := by rw [← hh, Bd.state]; rfl
  have N0 := Fr.nil n0
  have pre0 : ∀ t, SF p e below s₁ (mkF m 0 #[iv 6] []) t → SF p e below s₁ (entryFrame m #[(.int 6)] 1) t := fun t k => castTop (ef_1 m (6 : Int32)) k
  obtain ⟨T1, X1, e1, st1⟩ := getS2 X0 hx hZ hown (host := "") (Or.inl (tw hw 23 rfl)) Via.refl e0 (S6.ext P2.2) (g := (mkF m 15 #[iv 6] [])) rfl (hb hby d4_15)
  obtain ⟨fs, hr, hrun, hended, hW, hsame⟩ := X1.leave (v := some (.ref w4)) (fun h => by rw [Bd.returns] at h; cases h)
  refine ⟨_, _, pre0 _ ?_, hrun, hended, _, _, rfl, ?_, ⟨_, rfl⟩, hW, hsame.mono (by decide) (by decide)⟩
  · show SF p e below s₁ (mkF m 0 #[iv 6] []) _
    refine XS.iloadN X0.here hx rfl (hb hby d4_0) rfl ?_
    show SF p e below s₁ (mkF m 1 #[iv 6] [(.int 6)]) _
    refine XS.ifNo X0.here hx rfl (hb hby d4_1) rfl ((if0 _ _).trans (feq (by decide : ¬ ((6 : Int32) = (0 : Int32)))).1) ?_
    show SF p e below s₁ (mkF m 4 #[iv 6] []) _
    refine XS.iloadN X0.here hx rfl (hb hby d4_4) rfl ?_
    show SF p e below s₁ (mkF m 5 #[iv 6] [(.int 6)]) _
    refine XS.iconst X0.here hx rfl (hb hby d4_5) ?_
    show SF p e below s₁ (mkF m 6 #[iv 6] [(.int 3), (.int 6)]) _
    refine XS.icmpNo X0.here hx rfl (hb hby d4_6) rfl (feq (by decide : ¬ ((6 : Int32) = (3 : Int32)))).1 ?_
    show SF p e below s₁ (mkF m 9 #[iv 6] []) _
    refine XS.iloadN X0.here hx rfl (hb hby d4_9) rfl ?_
    show SF p e below s₁ (mkF m 10 #[iv 6] [(.int 6)]) _
    refine XS.bipush X0.here hx rfl (hb hby d4_10) ?_
    show SF p e below s₁ (mkF m 12 #[iv 6] [(.int 6), (.int 6)]) _
    refine XS.icmpNo X0.here hx rfl (hb hby d4_12) rfl (teq (by decide : (6 : Int32) = (6 : Int32))).2 ?_
    show SF p e below s₁ (mkF m 15 #[iv 6] []) _
    refine st1 _ ?_
    show SF p e below T1 (mkF m 18 #[iv 6] [(.ref w4)]) _
    exact own_retR X1 hx Bd.returns rfl rfl (hb hby d4_18) hr
  · show Q4_32 Z w4 h0 n0 _ T1.heap _
    rw [e1]
    exact ⟨rfl, N0, rfl⟩
-- Propagation.participation 
def Q3_33 (Z : State) (w8 : Addr) (w4 : Addr) (h0 : Heap) (n0 : Nat) (v : Option Value) (h : Heap) (L : List Loc) : Prop := v = some (.ref w4) ∧ Fr n0 L ∧ h = h0
set_option maxRecDepth 65536 in
set_option maxHeartbeats 40000000 in
theorem rm3_33 (l : Launch) (Z : State) (a0 : Array Value) (hw : HW Z a0) (ws : List Jvm.Cond) (w8 : Addr) (w4 : Addr) (h0 : Heap) (n0 : Nat) (Z0 : n0 ≤ h0.size) (F_w8_withoutTransaction : Fld Z Z.heap w8 "com/example/grenze/grenze/Propagation" "withoutTransaction" "Lcom/example/grenze/grenze/Participation;" (.ref w4)) (P2 : Old Z n0 h0) :
    MF l Z (⟨"com/example/grenze/grenze/Propagation", "participation", "(Z)Lcom/example/grenze/grenze/Participation;"⟩ : MethodName) (Jvm.Cond.code (⟨"com/example/grenze/grenze/Propagation", "participation", "(Z)Lcom/example/grenze/grenze/Participation;"⟩ : MethodName) prog_9_method_5_code 2 (some (.object "com/example/grenze/grenze/Participation"))) ws ({ frames := 0, cells := 0, slots := 0, locals := 0 } : Room) #[(.ref w8), (.int 0)] h0 (Q3_33 Z w8 w4 h0 n0) := by
  refine MetFree.of_bodySF (plainFor_of_name pn_1) hisR ?_
  intro p e s m args below meth c s₁ Bd hml0 hP hK
  obtain ⟨rfl, hZ, hh⟩ := hP
  have hx := Bd.exec
  have hby := Bd.bytes
  have hml : c.maxLocals = 2 := hml0
  have hown : s.vm.findClass "com/example/grenze/grenze/Propagation" = some m.cls := findClass_of_methodNamed Bd.named
  have hnm := (name_of_methodNamed Bd.named Bd.method).1
  have X0 : Stand p l e ({ frames := 0, cells := 0, slots := 0, locals := 0 } : Room) s m #[(.ref w8), (.int 0)] below meth c s₁ [] 0 0 := Stand.of_body Bd
  have e0 : s₁.heap = h0 := by rw [← hh, Bd.state]; rfl
  have N0 := Fr.nil n0
  have pre0 : ∀ t, SF p e below s₁ (mkF m 0 #[rv w8, iv 0] []) t → SF p e below s₁ (entryFrame m #[(.ref w8), (.int 0)] 2) t := fun t k => castTop (ef_2 m w8 (0 : Int32)) k
  obtain ⟨T1, X1, e1, st1⟩ := getF X0 hx hZ hown (host := "") (Or.inl (tw hw 32 rfl)) Via.refl e0 (F_w8_withoutTransaction.ext P2.2) (g := (mkF m 12 #[rv w8, iv 0] [(.ref w8)])) rfl rfl (hb hby d3_12)
  obtain ⟨fs, hr, hrun, hended, hW, hsame⟩ := X1.leave (v := some (.ref w4)) (fun h => by rw [Bd.returns] at h; cases h)
  refine ⟨_, _, pre0 _ ?_, hrun, hended, _, _, rfl, ?_, ⟨_, rfl⟩, hW, hsame.mono (by decide) (by decide)⟩
  · show SF p e below s₁ (mkF m 0 #[rv w8, iv 0] []) _
    refine XS.iloadN X0.here hx rfl (hb hby d3_0) rfl ?_
    show SF p e below s₁ (mkF m 1 #[rv w8, iv 0] [(.int 0)]) _
    refine XS.ifYes X0.here hx rfl (pc0 := 1) (pc' := 11) rfl (hb hby d3_1) rfl ((if0 _ _).trans (teq (by decide : (0 : Int32) = (0 : Int32))).1) (by decide) (by decide) ?_
    show SF p e below s₁ (mkF m 11 #[rv w8, iv 0] []) _
    refine XS.aloadN X0.here hx rfl (hb hby d3_11) rfl rfl ?_
    show SF p e below s₁ (mkF m 12 #[rv w8, iv 0] [(.ref w8)]) _
    refine st1 _ ?_
    show SF p e below T1 (mkF m 15 #[rv w8, iv 0] [(.ref w4)]) _
    exact own_retR X1 hx Bd.returns rfl rfl (hb hby d3_15) hr
  · show Q3_33 Z w8 w4 h0 n0 _ T1.heap _
    rw [e1]
    exact ⟨rfl, N0, rfl⟩
theorem d2_36 : decode method_4_code 36 = .ok (.getstatic 64, 3) := by decide +kernel
theorem d2_39 : decode method_4_code 39 = .ok (.areturn, 1) := by decide +kernel
-- PropagationParticipationPinLaw.withOpen 
def Q2_34 (Z : State) (w12 : Addr) (h0 : Heap) (n0 : Nat) (v : Option Value) (h : Heap) (L : List Loc) : Prop := v = some (.ref w12) ∧ Fr n0 L ∧ h = h0
set_option maxRecDepth 65536 in
set_option maxHeartbeats 40000000 in
theorem rm2_34 (l : Launch) (Z : State) (a0 : Array Value) (hw : HW Z a0) (ws : List Jvm.Cond) (w12 : Addr) (h0 : Heap) (n0 : Nat) (Z0 : n0 ≤ h0.size) (S22 : Sta Z Z.heap "com/example/grenze/grenze/Participation" "NEST" "Lcom/example/grenze/grenze/Participation;" (.ref w12)) (P2 : Old Z n0 h0) :
    MF l Z (⟨"com/example/grenze/grenze/PropagationParticipationPinLaw", "withOpen", "(I)Lcom/example/grenze/grenze/Participation;"⟩ : MethodName) (Jvm.Cond.code (⟨"com/example/grenze/grenze/PropagationParticipationPinLaw", "withOpen", "(I)Lcom/example/grenze/grenze/Participation;"⟩ : MethodName) method_4_code 1 (some (.object "com/example/grenze/grenze/Participation"))) ws ({ frames := 0, cells := 0, slots := 0, locals := 0 } : Room) #[(.int 6)] h0 (Q2_34 Z w12 h0 n0) := by
  refine MetFree.of_bodySF (plainFor_of_name pn_0) hisR ?_
  intro p e s m args below meth c s₁ Bd hml0 hP hK
  obtain ⟨rfl, hZ, hh⟩ := hP
  have hx := Bd.exec
  have hby := Bd.bytes
  have hml : c.maxLocals = 1 := hml0
  have hown : s.vm.findClass "com/example/grenze/grenze/PropagationParticipationPinLaw" = some m.cls := findClass_of_methodNamed Bd.named
  have hnm := (name_of_methodNamed Bd.named Bd.method).1
  have X0 : Stand p l e ({ frames := 0, cells := 0, slots := 0, locals := 0 } : Room) s m #[(.int 6)] below meth c s₁ [] 0 0 := Stand.of_body Bd
  have e0 : s₁.heap = h0 := by rw [← hh, Bd.state]; rfl
  have N0 := Fr.nil n0
  have pre0 : ∀ t, SF p e below s₁ (mkF m 0 #[iv 6] []) t → SF p e below s₁ (entryFrame m #[(.int 6)] 1) t := fun t k => castTop (ef_3 m (6 : Int32)) k
  obtain ⟨T1, X1, e1, st1⟩ := getS2 X0 hx hZ hown (host := "") (Or.inl (tw hw 44 rfl)) Via.refl e0 (S22.ext P2.2) (g := (mkF m 36 #[iv 6] [])) rfl (hb hby d2_36)
  obtain ⟨fs, hr, hrun, hended, hW, hsame⟩ := X1.leave (v := some (.ref w12)) (fun h => by rw [Bd.returns] at h; cases h)
  refine ⟨_, _, pre0 _ ?_, hrun, hended, _, _, rfl, ?_, ⟨_, rfl⟩, hW, hsame.mono (by decide) (by decide)⟩
  · show SF p e below s₁ (mkF m 0 #[iv 6] []) _
    refine XS.iloadN X0.here hx rfl (hb hby d2_0) rfl ?_
    show SF p e below s₁ (mkF m 1 #[iv 6] [(.int 6)]) _
    refine XS.iconst X0.here hx rfl (hb hby d2_1) ?_
    show SF p e below s₁ (mkF m 2 #[iv 6] [(.int 2), (.int 6)]) _
    refine XS.icmpYes X0.here hx rfl (pc0 := 2) (pc' := 9) rfl (hb hby d2_2) rfl (tlt (by decide : (2 : Int32) < (6 : Int32))).2.2.1 (by decide) (by decide) ?_
    show SF p e below s₁ (mkF m 9 #[iv 6] []) _
    refine XS.iloadN X0.here hx rfl (hb hby d2_9) rfl ?_
    show SF p e below s₁ (mkF m 10 #[iv 6] [(.int 6)]) _
    refine XS.iconst X0.here hx rfl (hb hby d2_10) ?_
    show SF p e below s₁ (mkF m 11 #[iv 6] [(.int 3), (.int 6)]) _
    refine XS.icmpYes X0.here hx rfl (pc0 := 11) (pc' := 18) rfl (hb hby d2_11) rfl (feq (by decide : ¬ ((6 : Int32) = (3 : Int32)))).2 (by decide) (by decide) ?_
    show SF p e below s₁ (mkF m 18 #[iv 6] []) _
    refine XS.iloadN X0.here hx rfl (hb hby d2_18) rfl ?_
    show SF p e below s₁ (mkF m 19 #[iv 6] [(.int 6)]) _
    refine XS.iconst X0.here hx rfl (hb hby d2_19) ?_
    show SF p e below s₁ (mkF m 20 #[iv 6] [(.int 4), (.int 6)]) _
    refine XS.icmpYes X0.here hx rfl (pc0 := 20) (pc' := 27) rfl (hb hby d2_20) rfl (feq (by decide : ¬ ((6 : Int32) = (4 : Int32)))).2 (by decide) (by decide) ?_
    show SF p e below s₁ (mkF m 27 #[iv 6] []) _
    refine XS.iloadN X0.here hx rfl (hb hby d2_27) rfl ?_
    show SF p e below s₁ (mkF m 28 #[iv 6] [(.int 6)]) _
    refine XS.iconst X0.here hx rfl (hb hby d2_28) ?_
    show SF p e below s₁ (mkF m 29 #[iv 6] [(.int 5), (.int 6)]) _
    refine XS.icmpYes X0.here hx rfl (pc0 := 29) (pc' := 36) rfl (hb hby d2_29) rfl (feq (by decide : ¬ ((6 : Int32) = (5 : Int32)))).2 (by decide) (by decide) ?_
    show SF p e below s₁ (mkF m 36 #[iv 6] []) _
    refine st1 _ ?_
    show SF p e below T1 (mkF m 39 #[iv 6] [(.ref w12)]) _
    exact own_retR X1 hx Bd.returns rfl rfl (hb hby d2_39) hr
  · show Q2_34 Z w12 h0 n0 _ T1.heap _
    rw [e1]
    exact ⟨rfl, N0, rfl⟩
-- Propagation.participation 
def Q3_35 (Z : State) (w8 : Addr) (w12 : Addr) (h0 : Heap) (n0 : Nat) (v : Option Value) (h : Heap) (L : List Loc) : Prop := v = some (.ref w12) ∧ Fr n0 L ∧ h = h0
set_option maxRecDepth 65536 in
set_option maxHeartbeats 40000000 in
theorem rm3_35 (l : Launch) (Z : State) (a0 : Array Value) (hw : HW Z a0) (ws : List Jvm.Cond) (w8 : Addr) (w12 : Addr) (h0 : Heap) (n0 : Nat) (Z0 : n0 ≤ h0.size) (F_w8_withTransaction : Fld Z Z.heap w8 "com/example/grenze/grenze/Propagation" "withTransaction" "Lcom/example/grenze/grenze/Participation;" (.ref w12)) (P2 : Old Z n0 h0) :
    MF l Z (⟨"com/example/grenze/grenze/Propagation", "participation", "(Z)Lcom/example/grenze/grenze/Participation;"⟩ : MethodName) (Jvm.Cond.code (⟨"com/example/grenze/grenze/Propagation", "participation", "(Z)Lcom/example/grenze/grenze/Participation;"⟩ : MethodName) prog_9_method_5_code 2 (some (.object "com/example/grenze/grenze/Participation"))) ws ({ frames := 0, cells := 0, slots := 0, locals := 0 } : Room) #[(.ref w8), (.int 1)] h0 (Q3_35 Z w8 w12 h0 n0) := by
  refine MetFree.of_bodySF (plainFor_of_name pn_1) hisR ?_
  intro p e s m args below meth c s₁ Bd hml0 hP hK
  obtain ⟨rfl, hZ, hh⟩ := hP
  have hx := Bd.exec
  have hby := Bd.bytes
  have hml : c.maxLocals = 2 := hml0
  have hown : s.vm.findClass "com/example/grenze/grenze/Propagation" = some m.cls := findClass_of_methodNamed Bd.named
  have hnm := (name_of_methodNamed Bd.named Bd.method).1
  have X0 : Stand p l e ({ frames := 0, cells := 0, slots := 0, locals := 0 } : Room) s m #[(.ref w8), (.int 1)] below meth c s₁ [] 0 0 := Stand.of_body Bd
  have e0 : s₁.heap = h0 := by rw [← hh, Bd.state]; rfl
  have N0 := Fr.nil n0
  have pre0 : ∀ t, SF p e below s₁ (mkF m 0 #[rv w8, iv 1] []) t → SF p e below s₁ (entryFrame m #[(.ref w8), (.int 1)] 2) t := fun t k => castTop (ef_2 m w8 (1 : Int32)) k
  obtain ⟨T1, X1, e1, st1⟩ := getF X0 hx hZ hown (host := "") (Or.inl (tw hw 19 rfl)) Via.refl e0 (F_w8_withTransaction.ext P2.2) (g := (mkF m 5 #[rv w8, iv 1] [(.ref w8)])) rfl rfl (hb hby d3_5)
  obtain ⟨fs, hr, hrun, hended, hW, hsame⟩ := X1.leave (v := some (.ref w12)) (fun h => by rw [Bd.returns] at h; cases h)
  refine ⟨_, _, pre0 _ ?_, hrun, hended, _, _, rfl, ?_, ⟨_, rfl⟩, hW, hsame.mono (by decide) (by decide)⟩
  · show SF p e below s₁ (mkF m 0 #[rv w8, iv 1] []) _
    refine XS.iloadN X0.here hx rfl (hb hby d3_0) rfl ?_
    show SF p e below s₁ (mkF m 1 #[rv w8, iv 1] [(.int 1)]) _
    refine XS.ifNo X0.here hx rfl (hb hby d3_1) rfl ((if0 _ _).trans (feq (by decide : ¬ ((1 : Int32) = (0 : Int32)))).1) ?_
    show SF p e below s₁ (mkF m 4 #[rv w8, iv 1] []) _
    refine XS.aloadN X0.here hx rfl (hb hby d3_4) rfl rfl ?_
    show SF p e below s₁ (mkF m 5 #[rv w8, iv 1] [(.ref w8)]) _
    refine st1 _ ?_
    show SF p e below T1 (mkF m 8 #[rv w8, iv 1] [(.ref w12)]) _
    refine XS.goto X1.here hx rfl (pc0 := 8) (pc' := 15) rfl (hb hby d3_8) (by decide) (by decide) ?_
    show SF p e below T1 (mkF m 15 #[rv w8, iv 1] [(.ref w12)]) _
    exact own_retR X1 hx Bd.returns rfl rfl (hb hby d3_15) hr
  · show Q3_35 Z w8 w12 h0 n0 _ T1.heap _
    rw [e1]
    exact ⟨rfl, N0, rfl⟩
theorem ef_4 (m : MethodId) (x0 : Int32) (x1 : Int32) : entryFrame m #[(.int x0), (.int x1)] maxLocals = mkF m 0 #[.val (.int x0), .val (.int x1), .unset, .unset, .unset, .unset] [] := by first | (simp [entryFrame, mkF, argsToLocals, Value.category, maxLocals]; done) | rfl
set_option maxRecDepth 65536 in
set_option maxHeartbeats 400000000 in
theorem rm0 (l : Launch) (Z : State) (a0 : Array Value) (hw : HW Z a0) (ws : List Jvm.Cond) (p0s : Int32) (p1s : Int32) (w1 : Addr) (w2 : Addr) (w3 : Addr) (w4 : Addr) (w5 : Addr) (w6 : Addr) (w7 : Addr) (w8 : Addr) (w9 : Addr) (w10 : Addr) (w11 : Addr) (w12 : Addr) (h0 : Heap) (n0 : Nat) (Z0 : n0 ≤ h0.size) (O0 : Old Z n0 h0) (S0 : Sta Z Z.heap "com/example/grenze/grenze/Propagation" "REQUIRED" "Lcom/example/grenze/grenze/Propagation;" (.ref w1)) (E_w1 : Exa Z Z.heap w1 "com/example/grenze/grenze/Propagation") (S2 : Sta Z Z.heap "com/example/grenze/grenze/Participation" "JOIN" "Lcom/example/grenze/grenze/Participation;" (.ref w2)) (E_w2 : Exa Z Z.heap w2 "com/example/grenze/grenze/Participation") (S4 : Sta Z Z.heap "com/example/grenze/grenze/Propagation" "REQUIRES_NEW" "Lcom/example/grenze/grenze/Propagation;" (.ref w3)) (E_w3 : Exa Z Z.heap w3 "com/example/grenze/grenze/Propagation") (S6 : Sta Z Z.heap "com/example/grenze/grenze/Participation" "BEGIN" "Lcom/example/grenze/grenze/Participation;" (.ref w4)) (E_w4 : Exa Z Z.heap w4 "com/example/grenze/grenze/Participation") (S8 : Sta Z Z.heap "com/example/grenze/grenze/Propagation" "SUPPORTS" "Lcom/example/grenze/grenze/Propagation;" (.ref w5)) (E_w5 : Exa Z Z.heap w5 "com/example/grenze/grenze/Propagation") (S10 : Sta Z Z.heap "com/example/grenze/grenze/Participation" "WITHOUT" "Lcom/example/grenze/grenze/Participation;" (.ref w6)) (E_w6 : Exa Z Z.heap w6 "com/example/grenze/grenze/Participation") (S12 : Sta Z Z.heap "com/example/grenze/grenze/Propagation" "NOT_SUPPORTED" "Lcom/example/grenze/grenze/Propagation;" (.ref w7)) (E_w7 : Exa Z Z.heap w7 "com/example/grenze/grenze/Propagation") (S14 : Sta Z Z.heap "com/example/grenze/grenze/Propagation" "NESTED" "Lcom/example/grenze/grenze/Propagation;" (.ref w8)) (E_w8 : Exa Z Z.heap w8 "com/example/grenze/grenze/Propagation") (S16 : Sta Z Z.heap "com/example/grenze/grenze/Propagation" "NEVER" "Lcom/example/grenze/grenze/Propagation;" (.ref w9)) (E_w9 : Exa Z Z.heap w9 "com/example/grenze/grenze/Propagation") (S18 : Sta Z Z.heap "com/example/grenze/grenze/Participation" "REFUSE" "Lcom/example/grenze/grenze/Participation;" (.ref w10)) (E_w10 : Exa Z Z.heap w10 "com/example/grenze/grenze/Participation") (S20 : Sta Z Z.heap "com/example/grenze/grenze/Propagation" "MANDATORY" "Lcom/example/grenze/grenze/Propagation;" (.ref w11)) (E_w11 : Exa Z Z.heap w11 "com/example/grenze/grenze/Propagation") (S22 : Sta Z Z.heap "com/example/grenze/grenze/Participation" "NEST" "Lcom/example/grenze/grenze/Participation;" (.ref w12)) (E_w12 : Exa Z Z.heap w12 "com/example/grenze/grenze/Participation") (F_w1_withTransaction : Fld Z Z.heap w1 "com/example/grenze/grenze/Propagation" "withTransaction" "Lcom/example/grenze/grenze/Participation;" (.ref w2)) (F_w3_withTransaction : Fld Z Z.heap w3 "com/example/grenze/grenze/Propagation" "withTransaction" "Lcom/example/grenze/grenze/Participation;" (.ref w4)) (F_w5_withoutTransaction : Fld Z Z.heap w5 "com/example/grenze/grenze/Propagation" "withoutTransaction" "Lcom/example/grenze/grenze/Participation;" (.ref w6)) (F_w7_withoutTransaction : Fld Z Z.heap w7 "com/example/grenze/grenze/Propagation" "withoutTransaction" "Lcom/example/grenze/grenze/Participation;" (.ref w6)) (F_w7_withTransaction : Fld Z Z.heap w7 "com/example/grenze/grenze/Propagation" "withTransaction" "Lcom/example/grenze/grenze/Participation;" (.ref w6)) (F_w8_withoutTransaction : Fld Z Z.heap w8 "com/example/grenze/grenze/Propagation" "withoutTransaction" "Lcom/example/grenze/grenze/Participation;" (.ref w4)) (F_w5_withTransaction : Fld Z Z.heap w5 "com/example/grenze/grenze/Propagation" "withTransaction" "Lcom/example/grenze/grenze/Participation;" (.ref w2)) (F_w9_withTransaction : Fld Z Z.heap w9 "com/example/grenze/grenze/Propagation" "withTransaction" "Lcom/example/grenze/grenze/Participation;" (.ref w10)) (F_w1_withoutTransaction : Fld Z Z.heap w1 "com/example/grenze/grenze/Propagation" "withoutTransaction" "Lcom/example/grenze/grenze/Participation;" (.ref w4)) (F_w9_withoutTransaction : Fld Z Z.heap w9 "com/example/grenze/grenze/Propagation" "withoutTransaction" "Lcom/example/grenze/grenze/Participation;" (.ref w6)) (F_w11_withoutTransaction : Fld Z Z.heap w11 "com/example/grenze/grenze/Propagation" "withoutTransaction" "Lcom/example/grenze/grenze/Participation;" (.ref w10)) (F_w3_withoutTransaction : Fld Z Z.heap w3 "com/example/grenze/grenze/Propagation" "withoutTransaction" "Lcom/example/grenze/grenze/Participation;" (.ref w4)) (F_w8_withTransaction : Fld Z Z.heap w8 "com/example/grenze/grenze/Propagation" "withTransaction" "Lcom/example/grenze/grenze/Participation;" (.ref w12)) (F_w11_withTransaction : Fld Z Z.heap w11 "com/example/grenze/grenze/Propagation" "withTransaction" "Lcom/example/grenze/grenze/Participation;" (.ref w2)) :
    MF l Z x (Jvm.Cond.code x code maxLocals ret) ws room_1 #[(.int p0s), (.int p1s)] h0 (fun v _ L => v = some (.int (1 : Int32)) ∧ Fr n0 L) := by
  refine MetFree.of_bodySF (plainFor_of_name pn_0) hisR ?_
  intro p e s m args below meth c s₁ Bd hml0 hP hK
  obtain ⟨rfl, hZ, hh⟩ := hP
  have hx := Bd.exec
  have hby := Bd.bytes
  have hml : c.maxLocals = 6 := hml0
  have hown : s.vm.findClass "com/example/grenze/grenze/PropagationParticipationPinLaw" = some m.cls := findClass_of_methodNamed Bd.named
  have hnm := (name_of_methodNamed Bd.named Bd.method).1
  have X0 : Stand p l e room_1 s m #[(.int p0s), (.int p1s)] below meth c s₁ [] 0 0 := Stand.of_body Bd
  have e0 : s₁.heap = h0 := by rw [← hh, Bd.state]; rfl
  have N0 := Fr.nil n0
  have pre0 : ∀ t, SF p e below s₁ (mkF m 0 #[iv p0s, iv p1s, .unset, .unset, .unset, .unset] []) t → SF p e below s₁ (entryFrame m #[(.int p0s), (.int p1s)] maxLocals) t := fun t k => castTop (ef_4 m p0s p1s) k
  have hre := Bd.returns
  have hlk : meth.locks = false := by first | assumption | exact BodyLoose.notSynchronized Bd | exact Body.notSynchronized Bd
  show Fin p e below s n0 _
  have pre1 : ∀ t, SF p e below s₁ (mkF m 7 #[iv p0s, iv p1s, .unset, .unset, .unset, .unset] [(.int ((p0s &&& (2147483647 : Int32)) % (7 : Int32)))]) t → SF p e below s₁ (mkF m 0 #[iv p0s, iv p1s, .unset, .unset, .unset, .unset] []) t := fun t k => by
    show SF p e below s₁ (mkF m 0 #[iv p0s, iv p1s, .unset, .unset, .unset, .unset] []) _
    refine XS.iloadN X0.here hx rfl (hb hby at_0) rfl ?_
    show SF p e below s₁ (mkF m 1 #[iv p0s, iv p1s, .unset, .unset, .unset, .unset] [(.int p0s)]) _
    refine X0.ldcInt hx hown (mvT hZ (tw hw 0 rfl)) (g := (mkF m 1 #[iv p0s, iv p1s, .unset, .unset, .unset, .unset] [(.int p0s)])) rfl (hb hby at_1) _ ?_
    show SF p e below s₁ (mkF m 3 #[iv p0s, iv p1s, .unset, .unset, .unset, .unset] [(.int 2147483647), (.int p0s)]) _
    refine XS.iand X0.here hx rfl (hb hby at_3) rfl ?_
    show SF p e below s₁ (mkF m 4 #[iv p0s, iv p1s, .unset, .unset, .unset, .unset] [(.int (p0s &&& (2147483647 : Int32)))]) _
    refine XS.bipush X0.here hx rfl (hb hby at_4) ?_
    show SF p e below s₁ (mkF m 6 #[iv p0s, iv p1s, .unset, .unset, .unset, .unset] [(.int 7), (.int (p0s &&& (2147483647 : Int32)))]) _
    refine iremM X0 hx rfl (hb hby at_6) rfl (by decide) ?_
    exact k
  rcases own_mod7 p0s with hc1 | hc1 | hc1 | hc1 | hc1 | hc1 | hc1
  · have pre2 : ∀ t, SF p e below s₁ (mkF m 11 #[iv p0s, iv p1s, iv 0, .unset, .unset, .unset] [(.int (p1s &&& (1 : Int32)))]) t → SF p e below s₁ (mkF m 7 #[iv p0s, iv p1s, .unset, .unset, .unset, .unset] [(.int ((p0s &&& (2147483647 : Int32)) % (7 : Int32)))]) t := fun t k => by
      show SF p e below s₁ (mkF m 7 #[iv p0s, iv p1s, .unset, .unset, .unset, .unset] [(.int ((p0s &&& (2147483647 : Int32)) % (7 : Int32)))]) _
      rw [hc1]
      show SF p e below s₁ (mkF m 7 #[iv p0s, iv p1s, .unset, .unset, .unset, .unset] [(.int 0)]) _
      refine XS.istoreN X0.here hx rfl (hb hby at_7) rfl (l' := #[iv p0s, iv p1s, iv 0, .unset, .unset, .unset]) rfl ?_
      show SF p e below s₁ (mkF m 8 #[iv p0s, iv p1s, iv 0, .unset, .unset, .unset] []) _
      refine XS.iloadN X0.here hx rfl (hb hby at_8) rfl ?_
      show SF p e below s₁ (mkF m 9 #[iv p0s, iv p1s, iv 0, .unset, .unset, .unset] [(.int p1s)]) _
      refine XS.iconst X0.here hx rfl (hb hby at_9) ?_
      show SF p e below s₁ (mkF m 10 #[iv p0s, iv p1s, iv 0, .unset, .unset, .unset] [(.int 1), (.int p1s)]) _
      refine XS.iand X0.here hx rfl (hb hby at_10) rfl ?_
      exact k
    by_cases hc2 : (p1s &&& (1 : Int32)) = (0 : Int32)
    · obtain ⟨_, _, ⟨T1, L1, k1x, n1⟩, -, X1, ⟨Lc1, hQ1, l1, y1, z1⟩, st1⟩ := Jvm.LawKit.callS X0 hx (y := (⟨"com/example/grenze/grenze/PropagationParticipationPinLaw", "pick", "(I)Lcom/example/grenze/grenze/Propagation;"⟩ : MethodName)) hown (mvT hZ (tw hw 1 rfl)) (mvT hZ (tw hw 2 rfl)) (mvT hZ (tw hw 3 rfl)) (mvT hZ (tw hw 4 rfl)) (by decide) (backOf (W := 0) (rm1_1 l Z a0 hw [] w1 h0 n0 Z0 S0 O0) hZ (tw hw 4 rfl) (tw hw 3 rfl) (by decide) (by decide)) (g := (mkF m 21 #[iv p0s, iv p1s, iv 0, iv 0, .unset, .unset] [(.int 0)])) rfl (by rw [hml]; rfl) (argsL := [(.int 0)]) (rest := []) (lenOf pd_0 rfl) rfl (by show 2 * 0 + _ ≤ _; exact Nat.le_of_eq rfl) (hb hby at_21) (fun _ _ => ⟨rfl, e0, (by decide : 0 + 0 ≤ _), (by decide : 0 + 0 ≤ _)⟩)
      dsimp only [Pt.U, Pt.locs, Pt.cells, Pt.slots] at X1 l1 y1 z1 st1 hQ1
      subst l1 y1 z1
      obtain ⟨rfl, N1q, e1⟩ := hQ1
      have N1 := Fr.app N0 N1q
      obtain ⟨_, _, ⟨T2, L2, k2x, n2⟩, -, X2, ⟨Lc2, hQ2, l2, y2, z2⟩, st2⟩ := Jvm.LawKit.callS X1 hx (y := (⟨"com/example/grenze/grenze/PropagationParticipationPinLaw", "withNoneOpen", "(I)Lcom/example/grenze/grenze/Participation;"⟩ : MethodName)) hown (mvT hZ (tw hw 27 rfl)) (mvT hZ (tw hw 28 rfl)) (mvT hZ (tw hw 3 rfl)) (mvT hZ (tw hw 29 rfl)) (by decide) (backOf (W := 0) (rm4_2 l Z a0 hw [] w4 h0 n0 Z0 S6 O0) hZ (tw hw 29 rfl) (tw hw 3 rfl) (by decide) (by decide)) (g := (mkF m 38 #[iv p0s, iv p1s, iv 0, iv 0, rv w1, .unset] [(.int 0)])) rfl (by rw [hml]; rfl) (argsL := [(.int 0)]) (rest := []) (lenOf pd_1 rfl) rfl (by show 2 * 0 + _ ≤ _; exact Nat.le_of_eq rfl) (hb hby at_38) (fun _ _ => ⟨rfl, e1, (by decide : 0 + 0 ≤ _), (by decide : 0 + 0 ≤ _)⟩)
      dsimp only [Pt.U, Pt.locs, Pt.cells, Pt.slots] at X2 l2 y2 z2 st2 hQ2
      subst l2 y2 z2
      obtain ⟨rfl, N2q, e2⟩ := hQ2
      have N2 := Fr.app N1 N2q
      obtain ⟨cq3, kq3, q3a, q3b, q3c⟩ := isOf hZ e2 (E_w1.ext O0.2)
      obtain ⟨_, _, ⟨T3, L3, k3x, n3⟩, -, X3, ⟨Lc3, hQ3, l3, y3, z3⟩, st3⟩ := X2.virtualBack hx (y := (⟨"com/example/grenze/grenze/Propagation", "participation", "(Z)Lcom/example/grenze/grenze/Participation;"⟩ : MethodName)) (z := (⟨"com/example/grenze/grenze/Propagation", "participation", "(Z)Lcom/example/grenze/grenze/Participation;"⟩ : MethodName)) hown (mvT hZ (tw hw 14 rfl)) (mvT hZ (tw hw 15 rfl)) (notFace_of_selects (args := #[]) (mvT hZ (tw hw 17 rfl))) (mvT hZ (tw hw 17 rfl)) (mvT hZ (tw hw 16 rfl)) (by decide) (backOf (W := 0) (rm3_3 l Z a0 hw [] w1 w4 h0 n0 Z0 F_w1_withoutTransaction O0) hZ (tw hw 18 rfl) (tw hw 6 rfl) (by decide) (by decide)) q3a q3c (g := (mkF m 46 #[iv p0s, iv p1s, iv 0, iv 0, rv w1, rv w4] [(.int 0), (.ref w1)])) rfl (by rw [hml]; rfl) (Steps.refl _) (argsL := [(.int 0)]) (rest := []) (lenOf pd_2 rfl) rfl (by show 2 * 0 + _ ≤ _; exact Nat.le_of_eq rfl) (hb hby at_46) (fun _ _ => ⟨rfl, e2, (by decide : 0 + 0 ≤ _), (by decide : 0 + 0 ≤ _)⟩)
      dsimp only [Pt.U, Pt.locs, Pt.cells, Pt.slots] at X3 l3 y3 z3 st3 hQ3
      subst l3 y3 z3
      obtain ⟨rfl, N3q, e3⟩ := hQ3
      have N3 := Fr.app N2 N3q
      obtain ⟨fs, hr, hrun, hended, hW, hsame⟩ := X3.leave (v := some (.int (1 : Int32))) (fun h => by rw [hre] at h; cases h)
      refine ⟨_, _, pre0 _ (pre1 _ (pre2 _ (?_))), hrun, hended, _, _, rfl, ?_, ⟨_, rfl⟩, hW, hsame.mono (by decide) (by decide)⟩
      · show SF p e below s₁ (mkF m 11 #[iv p0s, iv p1s, iv 0, .unset, .unset, .unset] [(.int (p1s &&& (1 : Int32)))]) _
        refine XS.ifYes X0.here hx rfl (pc0 := 11) (pc' := 18) rfl (hb hby at_11) rfl ((if0 _ _).trans (teq hc2).1) (by decide) (by decide) ?_
        show SF p e below s₁ (mkF m 18 #[iv p0s, iv p1s, iv 0, .unset, .unset, .unset] []) _
        refine XS.iconst X0.here hx rfl (hb hby at_18) ?_
        show SF p e below s₁ (mkF m 19 #[iv p0s, iv p1s, iv 0, .unset, .unset, .unset] [(.int 0)]) _
        refine XS.istoreN X0.here hx rfl (hb hby at_19) rfl (l' := #[iv p0s, iv p1s, iv 0, iv 0, .unset, .unset]) rfl ?_
        show SF p e below s₁ (mkF m 20 #[iv p0s, iv p1s, iv 0, iv 0, .unset, .unset] []) _
        refine XS.iloadN X0.here hx rfl (hb hby at_20) rfl ?_
        show SF p e below s₁ (mkF m 21 #[iv p0s, iv p1s, iv 0, iv 0, .unset, .unset] [(.int 0)]) _
        refine st1 _ ?_
        show SF p e below T1 (mkF m 24 #[iv p0s, iv p1s, iv 0, iv 0, .unset, .unset] [(.ref w1)]) _
        refine XS.astore X1.here hx rfl (hb hby at_24) rfl rfl (l' := #[iv p0s, iv p1s, iv 0, iv 0, rv w1, .unset]) rfl ?_
        show SF p e below T1 (mkF m 26 #[iv p0s, iv p1s, iv 0, iv 0, rv w1, .unset] []) _
        refine XS.iloadN X1.here hx rfl (hb hby at_26) rfl ?_
        show SF p e below T1 (mkF m 27 #[iv p0s, iv p1s, iv 0, iv 0, rv w1, .unset] [(.int 0)]) _
        refine XS.ifYes X1.here hx rfl (pc0 := 27) (pc' := 37) rfl (hb hby at_27) rfl ((if0 _ _).trans (teq (by decide : (0 : Int32) = (0 : Int32))).1) (by decide) (by decide) ?_
        show SF p e below T1 (mkF m 37 #[iv p0s, iv p1s, iv 0, iv 0, rv w1, .unset] []) _
        refine XS.iloadN X1.here hx rfl (hb hby at_37) rfl ?_
        show SF p e below T1 (mkF m 38 #[iv p0s, iv p1s, iv 0, iv 0, rv w1, .unset] [(.int 0)]) _
        refine st2 _ ?_
        show SF p e below T2 (mkF m 41 #[iv p0s, iv p1s, iv 0, iv 0, rv w1, .unset] [(.ref w4)]) _
        refine XS.astore X2.here hx rfl (hb hby at_41) rfl rfl (l' := #[iv p0s, iv p1s, iv 0, iv 0, rv w1, rv w4]) rfl ?_
        show SF p e below T2 (mkF m 43 #[iv p0s, iv p1s, iv 0, iv 0, rv w1, rv w4] []) _
        refine XS.aload X2.here hx rfl (hb hby at_43) rfl rfl ?_
        show SF p e below T2 (mkF m 45 #[iv p0s, iv p1s, iv 0, iv 0, rv w1, rv w4] [(.ref w1)]) _
        refine XS.iloadN X2.here hx rfl (hb hby at_45) rfl ?_
        show SF p e below T2 (mkF m 46 #[iv p0s, iv p1s, iv 0, iv 0, rv w1, rv w4] [(.int 0), (.ref w1)]) _
        refine st3.trans ?_
        show SF p e below T3 (mkF m 49 #[iv p0s, iv p1s, iv 0, iv 0, rv w1, rv w4] [(.ref w4)]) _
        refine XS.aload X3.here hx rfl (hb hby at_49) rfl rfl ?_
        show SF p e below T3 (mkF m 51 #[iv p0s, iv p1s, iv 0, iv 0, rv w1, rv w4] [(.ref w4), (.ref w4)]) _
        refine Jvm.RoadKit.acmp (g := (mkF m 51 #[iv p0s, iv p1s, iv 0, iv 0, rv w1, rv w4] [(.ref w4), (.ref w4)])) X3 hx rfl rfl rfl (pc0 := 51) (pc' := 54) (same := true) rfl (hb hby at_51) rfl (decide_eq_true rfl) (by decide) (by decide) ?_
        show SF p e below T3 (mkF m 54 #[iv p0s, iv p1s, iv 0, iv 0, rv w1, rv w4] []) _
        refine XS.iconst X3.here hx rfl (hb hby at_54) ?_
        show SF p e below T3 (mkF m 55 #[iv p0s, iv p1s, iv 0, iv 0, rv w1, rv w4] [(.int 1)]) _
        refine XS.goto X3.here hx rfl (pc0 := 55) (pc' := 59) rfl (hb hby at_55) (by decide) (by decide) ?_
        show SF p e below T3 (mkF m 59 #[iv p0s, iv p1s, iv 0, iv 0, rv w1, rv w4] [(.int 1)]) _
        exact retN X3 hx (t := .boolean) hre (by simp) (hb hby at_59) hr
      · exact ⟨rfl, N3⟩
    · obtain ⟨_, _, ⟨T1, L1, k1x, n1⟩, -, X1, ⟨Lc1, hQ1, l1, y1, z1⟩, st1⟩ := Jvm.LawKit.callS X0 hx (y := (⟨"com/example/grenze/grenze/PropagationParticipationPinLaw", "pick", "(I)Lcom/example/grenze/grenze/Propagation;"⟩ : MethodName)) hown (mvT hZ (tw hw 1 rfl)) (mvT hZ (tw hw 2 rfl)) (mvT hZ (tw hw 3 rfl)) (mvT hZ (tw hw 4 rfl)) (by decide) (backOf (W := 0) (rm1_1 l Z a0 hw [] w1 h0 n0 Z0 S0 O0) hZ (tw hw 4 rfl) (tw hw 3 rfl) (by decide) (by decide)) (g := (mkF m 21 #[iv p0s, iv p1s, iv 0, iv 1, .unset, .unset] [(.int 0)])) rfl (by rw [hml]; rfl) (argsL := [(.int 0)]) (rest := []) (lenOf pd_0 rfl) rfl (by show 2 * 0 + _ ≤ _; exact Nat.le_of_eq rfl) (hb hby at_21) (fun _ _ => ⟨rfl, e0, (by decide : 0 + 0 ≤ _), (by decide : 0 + 0 ≤ _)⟩)
      dsimp only [Pt.U, Pt.locs, Pt.cells, Pt.slots] at X1 l1 y1 z1 st1 hQ1
      subst l1 y1 z1
      obtain ⟨rfl, N1q, e1⟩ := hQ1
      have N1 := Fr.app N0 N1q
      obtain ⟨_, _, ⟨T2, L2, k2x, n2⟩, -, X2, ⟨Lc2, hQ2, l2, y2, z2⟩, st2⟩ := Jvm.LawKit.callS X1 hx (y := (⟨"com/example/grenze/grenze/PropagationParticipationPinLaw", "withOpen", "(I)Lcom/example/grenze/grenze/Participation;"⟩ : MethodName)) hown (mvT hZ (tw hw 8 rfl)) (mvT hZ (tw hw 9 rfl)) (mvT hZ (tw hw 3 rfl)) (mvT hZ (tw hw 10 rfl)) (by decide) (backOf (W := 0) (rm2_4 l Z a0 hw [] w2 h0 n0 Z0 S2 O0) hZ (tw hw 10 rfl) (tw hw 3 rfl) (by decide) (by decide)) (g := (mkF m 31 #[iv p0s, iv p1s, iv 0, iv 1, rv w1, .unset] [(.int 0)])) rfl (by rw [hml]; rfl) (argsL := [(.int 0)]) (rest := []) (lenOf pd_1 rfl) rfl (by show 2 * 0 + _ ≤ _; exact Nat.le_of_eq rfl) (hb hby at_31) (fun _ _ => ⟨rfl, e1, (by decide : 0 + 0 ≤ _), (by decide : 0 + 0 ≤ _)⟩)
      dsimp only [Pt.U, Pt.locs, Pt.cells, Pt.slots] at X2 l2 y2 z2 st2 hQ2
      subst l2 y2 z2
      obtain ⟨rfl, N2q, e2⟩ := hQ2
      have N2 := Fr.app N1 N2q
      obtain ⟨cq3, kq3, q3a, q3b, q3c⟩ := isOf hZ e2 (E_w1.ext O0.2)
      obtain ⟨_, _, ⟨T3, L3, k3x, n3⟩, -, X3, ⟨Lc3, hQ3, l3, y3, z3⟩, st3⟩ := X2.virtualBack hx (y := (⟨"com/example/grenze/grenze/Propagation", "participation", "(Z)Lcom/example/grenze/grenze/Participation;"⟩ : MethodName)) (z := (⟨"com/example/grenze/grenze/Propagation", "participation", "(Z)Lcom/example/grenze/grenze/Participation;"⟩ : MethodName)) hown (mvT hZ (tw hw 14 rfl)) (mvT hZ (tw hw 15 rfl)) (notFace_of_selects (args := #[]) (mvT hZ (tw hw 17 rfl))) (mvT hZ (tw hw 17 rfl)) (mvT hZ (tw hw 16 rfl)) (by decide) (backOf (W := 0) (rm3_5 l Z a0 hw [] w1 w2 h0 n0 Z0 F_w1_withTransaction O0) hZ (tw hw 18 rfl) (tw hw 6 rfl) (by decide) (by decide)) q3a q3c (g := (mkF m 46 #[iv p0s, iv p1s, iv 0, iv 1, rv w1, rv w2] [(.int 1), (.ref w1)])) rfl (by rw [hml]; rfl) (Steps.refl _) (argsL := [(.int 1)]) (rest := []) (lenOf pd_2 rfl) rfl (by show 2 * 0 + _ ≤ _; exact Nat.le_of_eq rfl) (hb hby at_46) (fun _ _ => ⟨rfl, e2, (by decide : 0 + 0 ≤ _), (by decide : 0 + 0 ≤ _)⟩)
      dsimp only [Pt.U, Pt.locs, Pt.cells, Pt.slots] at X3 l3 y3 z3 st3 hQ3
      subst l3 y3 z3
      obtain ⟨rfl, N3q, e3⟩ := hQ3
      have N3 := Fr.app N2 N3q
      obtain ⟨fs, hr, hrun, hended, hW, hsame⟩ := X3.leave (v := some (.int (1 : Int32))) (fun h => by rw [hre] at h; cases h)
      refine ⟨_, _, pre0 _ (pre1 _ (pre2 _ (?_))), hrun, hended, _, _, rfl, ?_, ⟨_, rfl⟩, hW, hsame.mono (by decide) (by decide)⟩
      · show SF p e below s₁ (mkF m 11 #[iv p0s, iv p1s, iv 0, .unset, .unset, .unset] [(.int (p1s &&& (1 : Int32)))]) _
        refine XS.ifNo X0.here hx rfl (hb hby at_11) rfl ((if0 _ _).trans (feq hc2).1) ?_
        show SF p e below s₁ (mkF m 14 #[iv p0s, iv p1s, iv 0, .unset, .unset, .unset] []) _
        refine XS.iconst X0.here hx rfl (hb hby at_14) ?_
        show SF p e below s₁ (mkF m 15 #[iv p0s, iv p1s, iv 0, .unset, .unset, .unset] [(.int 1)]) _
        refine XS.goto X0.here hx rfl (pc0 := 15) (pc' := 19) rfl (hb hby at_15) (by decide) (by decide) ?_
        show SF p e below s₁ (mkF m 19 #[iv p0s, iv p1s, iv 0, .unset, .unset, .unset] [(.int 1)]) _
        refine XS.istoreN X0.here hx rfl (hb hby at_19) rfl (l' := #[iv p0s, iv p1s, iv 0, iv 1, .unset, .unset]) rfl ?_
        show SF p e below s₁ (mkF m 20 #[iv p0s, iv p1s, iv 0, iv 1, .unset, .unset] []) _
        refine XS.iloadN X0.here hx rfl (hb hby at_20) rfl ?_
        show SF p e below s₁ (mkF m 21 #[iv p0s, iv p1s, iv 0, iv 1, .unset, .unset] [(.int 0)]) _
        refine st1 _ ?_
        show SF p e below T1 (mkF m 24 #[iv p0s, iv p1s, iv 0, iv 1, .unset, .unset] [(.ref w1)]) _
        refine XS.astore X1.here hx rfl (hb hby at_24) rfl rfl (l' := #[iv p0s, iv p1s, iv 0, iv 1, rv w1, .unset]) rfl ?_
        show SF p e below T1 (mkF m 26 #[iv p0s, iv p1s, iv 0, iv 1, rv w1, .unset] []) _
        refine XS.iloadN X1.here hx rfl (hb hby at_26) rfl ?_
        show SF p e below T1 (mkF m 27 #[iv p0s, iv p1s, iv 0, iv 1, rv w1, .unset] [(.int 1)]) _
        refine XS.ifNo X1.here hx rfl (hb hby at_27) rfl ((if0 _ _).trans (feq (by decide : ¬ ((1 : Int32) = (0 : Int32)))).1) ?_
        show SF p e below T1 (mkF m 30 #[iv p0s, iv p1s, iv 0, iv 1, rv w1, .unset] []) _
        refine XS.iloadN X1.here hx rfl (hb hby at_30) rfl ?_
        show SF p e below T1 (mkF m 31 #[iv p0s, iv p1s, iv 0, iv 1, rv w1, .unset] [(.int 0)]) _
        refine st2 _ ?_
        show SF p e below T2 (mkF m 34 #[iv p0s, iv p1s, iv 0, iv 1, rv w1, .unset] [(.ref w2)]) _
        refine XS.goto X2.here hx rfl (pc0 := 34) (pc' := 41) rfl (hb hby at_34) (by decide) (by decide) ?_
        show SF p e below T2 (mkF m 41 #[iv p0s, iv p1s, iv 0, iv 1, rv w1, .unset] [(.ref w2)]) _
        refine XS.astore X2.here hx rfl (hb hby at_41) rfl rfl (l' := #[iv p0s, iv p1s, iv 0, iv 1, rv w1, rv w2]) rfl ?_
        show SF p e below T2 (mkF m 43 #[iv p0s, iv p1s, iv 0, iv 1, rv w1, rv w2] []) _
        refine XS.aload X2.here hx rfl (hb hby at_43) rfl rfl ?_
        show SF p e below T2 (mkF m 45 #[iv p0s, iv p1s, iv 0, iv 1, rv w1, rv w2] [(.ref w1)]) _
        refine XS.iloadN X2.here hx rfl (hb hby at_45) rfl ?_
        show SF p e below T2 (mkF m 46 #[iv p0s, iv p1s, iv 0, iv 1, rv w1, rv w2] [(.int 1), (.ref w1)]) _
        refine st3.trans ?_
        show SF p e below T3 (mkF m 49 #[iv p0s, iv p1s, iv 0, iv 1, rv w1, rv w2] [(.ref w2)]) _
        refine XS.aload X3.here hx rfl (hb hby at_49) rfl rfl ?_
        show SF p e below T3 (mkF m 51 #[iv p0s, iv p1s, iv 0, iv 1, rv w1, rv w2] [(.ref w2), (.ref w2)]) _
        refine Jvm.RoadKit.acmp (g := (mkF m 51 #[iv p0s, iv p1s, iv 0, iv 1, rv w1, rv w2] [(.ref w2), (.ref w2)])) X3 hx rfl rfl rfl (pc0 := 51) (pc' := 54) (same := true) rfl (hb hby at_51) rfl (decide_eq_true rfl) (by decide) (by decide) ?_
        show SF p e below T3 (mkF m 54 #[iv p0s, iv p1s, iv 0, iv 1, rv w1, rv w2] []) _
        refine XS.iconst X3.here hx rfl (hb hby at_54) ?_
        show SF p e below T3 (mkF m 55 #[iv p0s, iv p1s, iv 0, iv 1, rv w1, rv w2] [(.int 1)]) _
        refine XS.goto X3.here hx rfl (pc0 := 55) (pc' := 59) rfl (hb hby at_55) (by decide) (by decide) ?_
        show SF p e below T3 (mkF m 59 #[iv p0s, iv p1s, iv 0, iv 1, rv w1, rv w2] [(.int 1)]) _
        exact retN X3 hx (t := .boolean) hre (by simp) (hb hby at_59) hr
      · exact ⟨rfl, N3⟩
  · have pre2 : ∀ t, SF p e below s₁ (mkF m 11 #[iv p0s, iv p1s, iv 1, .unset, .unset, .unset] [(.int (p1s &&& (1 : Int32)))]) t → SF p e below s₁ (mkF m 7 #[iv p0s, iv p1s, .unset, .unset, .unset, .unset] [(.int ((p0s &&& (2147483647 : Int32)) % (7 : Int32)))]) t := fun t k => by
      show SF p e below s₁ (mkF m 7 #[iv p0s, iv p1s, .unset, .unset, .unset, .unset] [(.int ((p0s &&& (2147483647 : Int32)) % (7 : Int32)))]) _
      rw [hc1]
      show SF p e below s₁ (mkF m 7 #[iv p0s, iv p1s, .unset, .unset, .unset, .unset] [(.int 1)]) _
      refine XS.istoreN X0.here hx rfl (hb hby at_7) rfl (l' := #[iv p0s, iv p1s, iv 1, .unset, .unset, .unset]) rfl ?_
      show SF p e below s₁ (mkF m 8 #[iv p0s, iv p1s, iv 1, .unset, .unset, .unset] []) _
      refine XS.iloadN X0.here hx rfl (hb hby at_8) rfl ?_
      show SF p e below s₁ (mkF m 9 #[iv p0s, iv p1s, iv 1, .unset, .unset, .unset] [(.int p1s)]) _
      refine XS.iconst X0.here hx rfl (hb hby at_9) ?_
      show SF p e below s₁ (mkF m 10 #[iv p0s, iv p1s, iv 1, .unset, .unset, .unset] [(.int 1), (.int p1s)]) _
      refine XS.iand X0.here hx rfl (hb hby at_10) rfl ?_
      exact k
    by_cases hc2 : (p1s &&& (1 : Int32)) = (0 : Int32)
    · obtain ⟨_, _, ⟨T1, L1, k1x, n1⟩, -, X1, ⟨Lc1, hQ1, l1, y1, z1⟩, st1⟩ := Jvm.LawKit.callS X0 hx (y := (⟨"com/example/grenze/grenze/PropagationParticipationPinLaw", "pick", "(I)Lcom/example/grenze/grenze/Propagation;"⟩ : MethodName)) hown (mvT hZ (tw hw 1 rfl)) (mvT hZ (tw hw 2 rfl)) (mvT hZ (tw hw 3 rfl)) (mvT hZ (tw hw 4 rfl)) (by decide) (backOf (W := 0) (rm1_6 l Z a0 hw [] w5 h0 n0 Z0 S8 O0) hZ (tw hw 4 rfl) (tw hw 3 rfl) (by decide) (by decide)) (g := (mkF m 21 #[iv p0s, iv p1s, iv 1, iv 0, .unset, .unset] [(.int 1)])) rfl (by rw [hml]; rfl) (argsL := [(.int 1)]) (rest := []) (lenOf pd_0 rfl) rfl (by show 2 * 0 + _ ≤ _; exact Nat.le_of_eq rfl) (hb hby at_21) (fun _ _ => ⟨rfl, e0, (by decide : 0 + 0 ≤ _), (by decide : 0 + 0 ≤ _)⟩)
      dsimp only [Pt.U, Pt.locs, Pt.cells, Pt.slots] at X1 l1 y1 z1 st1 hQ1
      subst l1 y1 z1
      obtain ⟨rfl, N1q, e1⟩ := hQ1
      have N1 := Fr.app N0 N1q
      obtain ⟨_, _, ⟨T2, L2, k2x, n2⟩, -, X2, ⟨Lc2, hQ2, l2, y2, z2⟩, st2⟩ := Jvm.LawKit.callS X1 hx (y := (⟨"com/example/grenze/grenze/PropagationParticipationPinLaw", "withNoneOpen", "(I)Lcom/example/grenze/grenze/Participation;"⟩ : MethodName)) hown (mvT hZ (tw hw 27 rfl)) (mvT hZ (tw hw 28 rfl)) (mvT hZ (tw hw 3 rfl)) (mvT hZ (tw hw 29 rfl)) (by decide) (backOf (W := 0) (rm4_7 l Z a0 hw [] w6 h0 n0 Z0 S10 O0) hZ (tw hw 29 rfl) (tw hw 3 rfl) (by decide) (by decide)) (g := (mkF m 38 #[iv p0s, iv p1s, iv 1, iv 0, rv w5, .unset] [(.int 1)])) rfl (by rw [hml]; rfl) (argsL := [(.int 1)]) (rest := []) (lenOf pd_1 rfl) rfl (by show 2 * 0 + _ ≤ _; exact Nat.le_of_eq rfl) (hb hby at_38) (fun _ _ => ⟨rfl, e1, (by decide : 0 + 0 ≤ _), (by decide : 0 + 0 ≤ _)⟩)
      dsimp only [Pt.U, Pt.locs, Pt.cells, Pt.slots] at X2 l2 y2 z2 st2 hQ2
      subst l2 y2 z2
      obtain ⟨rfl, N2q, e2⟩ := hQ2
      have N2 := Fr.app N1 N2q
      obtain ⟨cq3, kq3, q3a, q3b, q3c⟩ := isOf hZ e2 (E_w5.ext O0.2)
      obtain ⟨_, _, ⟨T3, L3, k3x, n3⟩, -, X3, ⟨Lc3, hQ3, l3, y3, z3⟩, st3⟩ := X2.virtualBack hx (y := (⟨"com/example/grenze/grenze/Propagation", "participation", "(Z)Lcom/example/grenze/grenze/Participation;"⟩ : MethodName)) (z := (⟨"com/example/grenze/grenze/Propagation", "participation", "(Z)Lcom/example/grenze/grenze/Participation;"⟩ : MethodName)) hown (mvT hZ (tw hw 14 rfl)) (mvT hZ (tw hw 15 rfl)) (notFace_of_selects (args := #[]) (mvT hZ (tw hw 17 rfl))) (mvT hZ (tw hw 17 rfl)) (mvT hZ (tw hw 16 rfl)) (by decide) (backOf (W := 0) (rm3_8 l Z a0 hw [] w5 w6 h0 n0 Z0 F_w5_withoutTransaction O0) hZ (tw hw 18 rfl) (tw hw 6 rfl) (by decide) (by decide)) q3a q3c (g := (mkF m 46 #[iv p0s, iv p1s, iv 1, iv 0, rv w5, rv w6] [(.int 0), (.ref w5)])) rfl (by rw [hml]; rfl) (Steps.refl _) (argsL := [(.int 0)]) (rest := []) (lenOf pd_2 rfl) rfl (by show 2 * 0 + _ ≤ _; exact Nat.le_of_eq rfl) (hb hby at_46) (fun _ _ => ⟨rfl, e2, (by decide : 0 + 0 ≤ _), (by decide : 0 + 0 ≤ _)⟩)
      dsimp only [Pt.U, Pt.locs, Pt.cells, Pt.slots] at X3 l3 y3 z3 st3 hQ3
      subst l3 y3 z3
      obtain ⟨rfl, N3q, e3⟩ := hQ3
      have N3 := Fr.app N2 N3q
      obtain ⟨fs, hr, hrun, hended, hW, hsame⟩ := X3.leave (v := some (.int (1 : Int32))) (fun h => by rw [hre] at h; cases h)
      refine ⟨_, _, pre0 _ (pre1 _ (pre2 _ (?_))), hrun, hended, _, _, rfl, ?_, ⟨_, rfl⟩, hW, hsame.mono (by decide) (by decide)⟩
      · show SF p e below s₁ (mkF m 11 #[iv p0s, iv p1s, iv 1, .unset, .unset, .unset] [(.int (p1s &&& (1 : Int32)))]) _
        refine XS.ifYes X0.here hx rfl (pc0 := 11) (pc' := 18) rfl (hb hby at_11) rfl ((if0 _ _).trans (teq hc2).1) (by decide) (by decide) ?_
        show SF p e below s₁ (mkF m 18 #[iv p0s, iv p1s, iv 1, .unset, .unset, .unset] []) _
        refine XS.iconst X0.here hx rfl (hb hby at_18) ?_
        show SF p e below s₁ (mkF m 19 #[iv p0s, iv p1s, iv 1, .unset, .unset, .unset] [(.int 0)]) _
        refine XS.istoreN X0.here hx rfl (hb hby at_19) rfl (l' := #[iv p0s, iv p1s, iv 1, iv 0, .unset, .unset]) rfl ?_
        show SF p e below s₁ (mkF m 20 #[iv p0s, iv p1s, iv 1, iv 0, .unset, .unset] []) _
        refine XS.iloadN X0.here hx rfl (hb hby at_20) rfl ?_
        show SF p e below s₁ (mkF m 21 #[iv p0s, iv p1s, iv 1, iv 0, .unset, .unset] [(.int 1)]) _
        refine st1 _ ?_
        show SF p e below T1 (mkF m 24 #[iv p0s, iv p1s, iv 1, iv 0, .unset, .unset] [(.ref w5)]) _
        refine XS.astore X1.here hx rfl (hb hby at_24) rfl rfl (l' := #[iv p0s, iv p1s, iv 1, iv 0, rv w5, .unset]) rfl ?_
        show SF p e below T1 (mkF m 26 #[iv p0s, iv p1s, iv 1, iv 0, rv w5, .unset] []) _
        refine XS.iloadN X1.here hx rfl (hb hby at_26) rfl ?_
        show SF p e below T1 (mkF m 27 #[iv p0s, iv p1s, iv 1, iv 0, rv w5, .unset] [(.int 0)]) _
        refine XS.ifYes X1.here hx rfl (pc0 := 27) (pc' := 37) rfl (hb hby at_27) rfl ((if0 _ _).trans (teq (by decide : (0 : Int32) = (0 : Int32))).1) (by decide) (by decide) ?_
        show SF p e below T1 (mkF m 37 #[iv p0s, iv p1s, iv 1, iv 0, rv w5, .unset] []) _
        refine XS.iloadN X1.here hx rfl (hb hby at_37) rfl ?_
        show SF p e below T1 (mkF m 38 #[iv p0s, iv p1s, iv 1, iv 0, rv w5, .unset] [(.int 1)]) _
        refine st2 _ ?_
        show SF p e below T2 (mkF m 41 #[iv p0s, iv p1s, iv 1, iv 0, rv w5, .unset] [(.ref w6)]) _
        refine XS.astore X2.here hx rfl (hb hby at_41) rfl rfl (l' := #[iv p0s, iv p1s, iv 1, iv 0, rv w5, rv w6]) rfl ?_
        show SF p e below T2 (mkF m 43 #[iv p0s, iv p1s, iv 1, iv 0, rv w5, rv w6] []) _
        refine XS.aload X2.here hx rfl (hb hby at_43) rfl rfl ?_
        show SF p e below T2 (mkF m 45 #[iv p0s, iv p1s, iv 1, iv 0, rv w5, rv w6] [(.ref w5)]) _
        refine XS.iloadN X2.here hx rfl (hb hby at_45) rfl ?_
        show SF p e below T2 (mkF m 46 #[iv p0s, iv p1s, iv 1, iv 0, rv w5, rv w6] [(.int 0), (.ref w5)]) _
        refine st3.trans ?_
        show SF p e below T3 (mkF m 49 #[iv p0s, iv p1s, iv 1, iv 0, rv w5, rv w6] [(.ref w6)]) _
        refine XS.aload X3.here hx rfl (hb hby at_49) rfl rfl ?_
        show SF p e below T3 (mkF m 51 #[iv p0s, iv p1s, iv 1, iv 0, rv w5, rv w6] [(.ref w6), (.ref w6)]) _
        refine Jvm.RoadKit.acmp (g := (mkF m 51 #[iv p0s, iv p1s, iv 1, iv 0, rv w5, rv w6] [(.ref w6), (.ref w6)])) X3 hx rfl rfl rfl (pc0 := 51) (pc' := 54) (same := true) rfl (hb hby at_51) rfl (decide_eq_true rfl) (by decide) (by decide) ?_
        show SF p e below T3 (mkF m 54 #[iv p0s, iv p1s, iv 1, iv 0, rv w5, rv w6] []) _
        refine XS.iconst X3.here hx rfl (hb hby at_54) ?_
        show SF p e below T3 (mkF m 55 #[iv p0s, iv p1s, iv 1, iv 0, rv w5, rv w6] [(.int 1)]) _
        refine XS.goto X3.here hx rfl (pc0 := 55) (pc' := 59) rfl (hb hby at_55) (by decide) (by decide) ?_
        show SF p e below T3 (mkF m 59 #[iv p0s, iv p1s, iv 1, iv 0, rv w5, rv w6] [(.int 1)]) _
        exact retN X3 hx (t := .boolean) hre (by simp) (hb hby at_59) hr
      · exact ⟨rfl, N3⟩
    · obtain ⟨_, _, ⟨T1, L1, k1x, n1⟩, -, X1, ⟨Lc1, hQ1, l1, y1, z1⟩, st1⟩ := Jvm.LawKit.callS X0 hx (y := (⟨"com/example/grenze/grenze/PropagationParticipationPinLaw", "pick", "(I)Lcom/example/grenze/grenze/Propagation;"⟩ : MethodName)) hown (mvT hZ (tw hw 1 rfl)) (mvT hZ (tw hw 2 rfl)) (mvT hZ (tw hw 3 rfl)) (mvT hZ (tw hw 4 rfl)) (by decide) (backOf (W := 0) (rm1_6 l Z a0 hw [] w5 h0 n0 Z0 S8 O0) hZ (tw hw 4 rfl) (tw hw 3 rfl) (by decide) (by decide)) (g := (mkF m 21 #[iv p0s, iv p1s, iv 1, iv 1, .unset, .unset] [(.int 1)])) rfl (by rw [hml]; rfl) (argsL := [(.int 1)]) (rest := []) (lenOf pd_0 rfl) rfl (by show 2 * 0 + _ ≤ _; exact Nat.le_of_eq rfl) (hb hby at_21) (fun _ _ => ⟨rfl, e0, (by decide : 0 + 0 ≤ _), (by decide : 0 + 0 ≤ _)⟩)
      dsimp only [Pt.U, Pt.locs, Pt.cells, Pt.slots] at X1 l1 y1 z1 st1 hQ1
      subst l1 y1 z1
      obtain ⟨rfl, N1q, e1⟩ := hQ1
      have N1 := Fr.app N0 N1q
      obtain ⟨_, _, ⟨T2, L2, k2x, n2⟩, -, X2, ⟨Lc2, hQ2, l2, y2, z2⟩, st2⟩ := Jvm.LawKit.callS X1 hx (y := (⟨"com/example/grenze/grenze/PropagationParticipationPinLaw", "withOpen", "(I)Lcom/example/grenze/grenze/Participation;"⟩ : MethodName)) hown (mvT hZ (tw hw 8 rfl)) (mvT hZ (tw hw 9 rfl)) (mvT hZ (tw hw 3 rfl)) (mvT hZ (tw hw 10 rfl)) (by decide) (backOf (W := 0) (rm2_9 l Z a0 hw [] w2 h0 n0 Z0 S2 O0) hZ (tw hw 10 rfl) (tw hw 3 rfl) (by decide) (by decide)) (g := (mkF m 31 #[iv p0s, iv p1s, iv 1, iv 1, rv w5, .unset] [(.int 1)])) rfl (by rw [hml]; rfl) (argsL := [(.int 1)]) (rest := []) (lenOf pd_1 rfl) rfl (by show 2 * 0 + _ ≤ _; exact Nat.le_of_eq rfl) (hb hby at_31) (fun _ _ => ⟨rfl, e1, (by decide : 0 + 0 ≤ _), (by decide : 0 + 0 ≤ _)⟩)
      dsimp only [Pt.U, Pt.locs, Pt.cells, Pt.slots] at X2 l2 y2 z2 st2 hQ2
      subst l2 y2 z2
      obtain ⟨rfl, N2q, e2⟩ := hQ2
      have N2 := Fr.app N1 N2q
      obtain ⟨cq3, kq3, q3a, q3b, q3c⟩ := isOf hZ e2 (E_w5.ext O0.2)
      obtain ⟨_, _, ⟨T3, L3, k3x, n3⟩, -, X3, ⟨Lc3, hQ3, l3, y3, z3⟩, st3⟩ := X2.virtualBack hx (y := (⟨"com/example/grenze/grenze/Propagation", "participation", "(Z)Lcom/example/grenze/grenze/Participation;"⟩ : MethodName)) (z := (⟨"com/example/grenze/grenze/Propagation", "participation", "(Z)Lcom/example/grenze/grenze/Participation;"⟩ : MethodName)) hown (mvT hZ (tw hw 14 rfl)) (mvT hZ (tw hw 15 rfl)) (notFace_of_selects (args := #[]) (mvT hZ (tw hw 17 rfl))) (mvT hZ (tw hw 17 rfl)) (mvT hZ (tw hw 16 rfl)) (by decide) (backOf (W := 0) (rm3_10 l Z a0 hw [] w5 w2 h0 n0 Z0 F_w5_withTransaction O0) hZ (tw hw 18 rfl) (tw hw 6 rfl) (by decide) (by decide)) q3a q3c (g := (mkF m 46 #[iv p0s, iv p1s, iv 1, iv 1, rv w5, rv w2] [(.int 1), (.ref w5)])) rfl (by rw [hml]; rfl) (Steps.refl _) (argsL := [(.int 1)]) (rest := []) (lenOf pd_2 rfl) rfl (by show 2 * 0 + _ ≤ _; exact Nat.le_of_eq rfl) (hb hby at_46) (fun _ _ => ⟨rfl, e2, (by decide : 0 + 0 ≤ _), (by decide : 0 + 0 ≤ _)⟩)
      dsimp only [Pt.U, Pt.locs, Pt.cells, Pt.slots] at X3 l3 y3 z3 st3 hQ3
      subst l3 y3 z3
      obtain ⟨rfl, N3q, e3⟩ := hQ3
      have N3 := Fr.app N2 N3q
      obtain ⟨fs, hr, hrun, hended, hW, hsame⟩ := X3.leave (v := some (.int (1 : Int32))) (fun h => by rw [hre] at h; cases h)
      refine ⟨_, _, pre0 _ (pre1 _ (pre2 _ (?_))), hrun, hended, _, _, rfl, ?_, ⟨_, rfl⟩, hW, hsame.mono (by decide) (by decide)⟩
      · show SF p e below s₁ (mkF m 11 #[iv p0s, iv p1s, iv 1, .unset, .unset, .unset] [(.int (p1s &&& (1 : Int32)))]) _
        refine XS.ifNo X0.here hx rfl (hb hby at_11) rfl ((if0 _ _).trans (feq hc2).1) ?_
        show SF p e below s₁ (mkF m 14 #[iv p0s, iv p1s, iv 1, .unset, .unset, .unset] []) _
        refine XS.iconst X0.here hx rfl (hb hby at_14) ?_
        show SF p e below s₁ (mkF m 15 #[iv p0s, iv p1s, iv 1, .unset, .unset, .unset] [(.int 1)]) _
        refine XS.goto X0.here hx rfl (pc0 := 15) (pc' := 19) rfl (hb hby at_15) (by decide) (by decide) ?_
        show SF p e below s₁ (mkF m 19 #[iv p0s, iv p1s, iv 1, .unset, .unset, .unset] [(.int 1)]) _
        refine XS.istoreN X0.here hx rfl (hb hby at_19) rfl (l' := #[iv p0s, iv p1s, iv 1, iv 1, .unset, .unset]) rfl ?_
        show SF p e below s₁ (mkF m 20 #[iv p0s, iv p1s, iv 1, iv 1, .unset, .unset] []) _
        refine XS.iloadN X0.here hx rfl (hb hby at_20) rfl ?_
        show SF p e below s₁ (mkF m 21 #[iv p0s, iv p1s, iv 1, iv 1, .unset, .unset] [(.int 1)]) _
        refine st1 _ ?_
        show SF p e below T1 (mkF m 24 #[iv p0s, iv p1s, iv 1, iv 1, .unset, .unset] [(.ref w5)]) _
        refine XS.astore X1.here hx rfl (hb hby at_24) rfl rfl (l' := #[iv p0s, iv p1s, iv 1, iv 1, rv w5, .unset]) rfl ?_
        show SF p e below T1 (mkF m 26 #[iv p0s, iv p1s, iv 1, iv 1, rv w5, .unset] []) _
        refine XS.iloadN X1.here hx rfl (hb hby at_26) rfl ?_
        show SF p e below T1 (mkF m 27 #[iv p0s, iv p1s, iv 1, iv 1, rv w5, .unset] [(.int 1)]) _
        refine XS.ifNo X1.here hx rfl (hb hby at_27) rfl ((if0 _ _).trans (feq (by decide : ¬ ((1 : Int32) = (0 : Int32)))).1) ?_
        show SF p e below T1 (mkF m 30 #[iv p0s, iv p1s, iv 1, iv 1, rv w5, .unset] []) _
        refine XS.iloadN X1.here hx rfl (hb hby at_30) rfl ?_
        show SF p e below T1 (mkF m 31 #[iv p0s, iv p1s, iv 1, iv 1, rv w5, .unset] [(.int 1)]) _
        refine st2 _ ?_
        show SF p e below T2 (mkF m 34 #[iv p0s, iv p1s, iv 1, iv 1, rv w5, .unset] [(.ref w2)]) _
        refine XS.goto X2.here hx rfl (pc0 := 34) (pc' := 41) rfl (hb hby at_34) (by decide) (by decide) ?_
        show SF p e below T2 (mkF m 41 #[iv p0s, iv p1s, iv 1, iv 1, rv w5, .unset] [(.ref w2)]) _
        refine XS.astore X2.here hx rfl (hb hby at_41) rfl rfl (l' := #[iv p0s, iv p1s, iv 1, iv 1, rv w5, rv w2]) rfl ?_
        show SF p e below T2 (mkF m 43 #[iv p0s, iv p1s, iv 1, iv 1, rv w5, rv w2] []) _
        refine XS.aload X2.here hx rfl (hb hby at_43) rfl rfl ?_
        show SF p e below T2 (mkF m 45 #[iv p0s, iv p1s, iv 1, iv 1, rv w5, rv w2] [(.ref w5)]) _
        refine XS.iloadN X2.here hx rfl (hb hby at_45) rfl ?_
        show SF p e below T2 (mkF m 46 #[iv p0s, iv p1s, iv 1, iv 1, rv w5, rv w2] [(.int 1), (.ref w5)]) _
        refine st3.trans ?_
        show SF p e below T3 (mkF m 49 #[iv p0s, iv p1s, iv 1, iv 1, rv w5, rv w2] [(.ref w2)]) _
        refine XS.aload X3.here hx rfl (hb hby at_49) rfl rfl ?_
        show SF p e below T3 (mkF m 51 #[iv p0s, iv p1s, iv 1, iv 1, rv w5, rv w2] [(.ref w2), (.ref w2)]) _
        refine Jvm.RoadKit.acmp (g := (mkF m 51 #[iv p0s, iv p1s, iv 1, iv 1, rv w5, rv w2] [(.ref w2), (.ref w2)])) X3 hx rfl rfl rfl (pc0 := 51) (pc' := 54) (same := true) rfl (hb hby at_51) rfl (decide_eq_true rfl) (by decide) (by decide) ?_
        show SF p e below T3 (mkF m 54 #[iv p0s, iv p1s, iv 1, iv 1, rv w5, rv w2] []) _
        refine XS.iconst X3.here hx rfl (hb hby at_54) ?_
        show SF p e below T3 (mkF m 55 #[iv p0s, iv p1s, iv 1, iv 1, rv w5, rv w2] [(.int 1)]) _
        refine XS.goto X3.here hx rfl (pc0 := 55) (pc' := 59) rfl (hb hby at_55) (by decide) (by decide) ?_
        show SF p e below T3 (mkF m 59 #[iv p0s, iv p1s, iv 1, iv 1, rv w5, rv w2] [(.int 1)]) _
        exact retN X3 hx (t := .boolean) hre (by simp) (hb hby at_59) hr
      · exact ⟨rfl, N3⟩
  · have pre2 : ∀ t, SF p e below s₁ (mkF m 11 #[iv p0s, iv p1s, iv 2, .unset, .unset, .unset] [(.int (p1s &&& (1 : Int32)))]) t → SF p e below s₁ (mkF m 7 #[iv p0s, iv p1s, .unset, .unset, .unset, .unset] [(.int ((p0s &&& (2147483647 : Int32)) % (7 : Int32)))]) t := fun t k => by
      show SF p e below s₁ (mkF m 7 #[iv p0s, iv p1s, .unset, .unset, .unset, .unset] [(.int ((p0s &&& (2147483647 : Int32)) % (7 : Int32)))]) _
      rw [hc1]
      show SF p e below s₁ (mkF m 7 #[iv p0s, iv p1s, .unset, .unset, .unset, .unset] [(.int 2)]) _
      refine XS.istoreN X0.here hx rfl (hb hby at_7) rfl (l' := #[iv p0s, iv p1s, iv 2, .unset, .unset, .unset]) rfl ?_
      show SF p e below s₁ (mkF m 8 #[iv p0s, iv p1s, iv 2, .unset, .unset, .unset] []) _
      refine XS.iloadN X0.here hx rfl (hb hby at_8) rfl ?_
      show SF p e below s₁ (mkF m 9 #[iv p0s, iv p1s, iv 2, .unset, .unset, .unset] [(.int p1s)]) _
      refine XS.iconst X0.here hx rfl (hb hby at_9) ?_
      show SF p e below s₁ (mkF m 10 #[iv p0s, iv p1s, iv 2, .unset, .unset, .unset] [(.int 1), (.int p1s)]) _
      refine XS.iand X0.here hx rfl (hb hby at_10) rfl ?_
      exact k
    by_cases hc2 : (p1s &&& (1 : Int32)) = (0 : Int32)
    · obtain ⟨_, _, ⟨T1, L1, k1x, n1⟩, -, X1, ⟨Lc1, hQ1, l1, y1, z1⟩, st1⟩ := Jvm.LawKit.callS X0 hx (y := (⟨"com/example/grenze/grenze/PropagationParticipationPinLaw", "pick", "(I)Lcom/example/grenze/grenze/Propagation;"⟩ : MethodName)) hown (mvT hZ (tw hw 1 rfl)) (mvT hZ (tw hw 2 rfl)) (mvT hZ (tw hw 3 rfl)) (mvT hZ (tw hw 4 rfl)) (by decide) (backOf (W := 0) (rm1_11 l Z a0 hw [] w11 h0 n0 Z0 S20 O0) hZ (tw hw 4 rfl) (tw hw 3 rfl) (by decide) (by decide)) (g := (mkF m 21 #[iv p0s, iv p1s, iv 2, iv 0, .unset, .unset] [(.int 2)])) rfl (by rw [hml]; rfl) (argsL := [(.int 2)]) (rest := []) (lenOf pd_0 rfl) rfl (by show 2 * 0 + _ ≤ _; exact Nat.le_of_eq rfl) (hb hby at_21) (fun _ _ => ⟨rfl, e0, (by decide : 0 + 0 ≤ _), (by decide : 0 + 0 ≤ _)⟩)
      dsimp only [Pt.U, Pt.locs, Pt.cells, Pt.slots] at X1 l1 y1 z1 st1 hQ1
      subst l1 y1 z1
      obtain ⟨rfl, N1q, e1⟩ := hQ1
      have N1 := Fr.app N0 N1q
      obtain ⟨_, _, ⟨T2, L2, k2x, n2⟩, -, X2, ⟨Lc2, hQ2, l2, y2, z2⟩, st2⟩ := Jvm.LawKit.callS X1 hx (y := (⟨"com/example/grenze/grenze/PropagationParticipationPinLaw", "withNoneOpen", "(I)Lcom/example/grenze/grenze/Participation;"⟩ : MethodName)) hown (mvT hZ (tw hw 27 rfl)) (mvT hZ (tw hw 28 rfl)) (mvT hZ (tw hw 3 rfl)) (mvT hZ (tw hw 29 rfl)) (by decide) (backOf (W := 0) (rm4_12 l Z a0 hw [] w10 h0 n0 Z0 S18 O0) hZ (tw hw 29 rfl) (tw hw 3 rfl) (by decide) (by decide)) (g := (mkF m 38 #[iv p0s, iv p1s, iv 2, iv 0, rv w11, .unset] [(.int 2)])) rfl (by rw [hml]; rfl) (argsL := [(.int 2)]) (rest := []) (lenOf pd_1 rfl) rfl (by show 2 * 0 + _ ≤ _; exact Nat.le_of_eq rfl) (hb hby at_38) (fun _ _ => ⟨rfl, e1, (by decide : 0 + 0 ≤ _), (by decide : 0 + 0 ≤ _)⟩)
      dsimp only [Pt.U, Pt.locs, Pt.cells, Pt.slots] at X2 l2 y2 z2 st2 hQ2
      subst l2 y2 z2
      obtain ⟨rfl, N2q, e2⟩ := hQ2
      have N2 := Fr.app N1 N2q
      obtain ⟨cq3, kq3, q3a, q3b, q3c⟩ := isOf hZ e2 (E_w11.ext O0.2)
      obtain ⟨_, _, ⟨T3, L3, k3x, n3⟩, -, X3, ⟨Lc3, hQ3, l3, y3, z3⟩, st3⟩ := X2.virtualBack hx (y := (⟨"com/example/grenze/grenze/Propagation", "participation", "(Z)Lcom/example/grenze/grenze/Participation;"⟩ : MethodName)) (z := (⟨"com/example/grenze/grenze/Propagation", "participation", "(Z)Lcom/example/grenze/grenze/Participation;"⟩ : MethodName)) hown (mvT hZ (tw hw 14 rfl)) (mvT hZ (tw hw 15 rfl)) (notFace_of_selects (args := #[]) (mvT hZ (tw hw 17 rfl))) (mvT hZ (tw hw 17 rfl)) (mvT hZ (tw hw 16 rfl)) (by decide) (backOf (W := 0) (rm3_13 l Z a0 hw [] w11 w10 h0 n0 Z0 F_w11_withoutTransaction O0) hZ (tw hw 18 rfl) (tw hw 6 rfl) (by decide) (by decide)) q3a q3c (g := (mkF m 46 #[iv p0s, iv p1s, iv 2, iv 0, rv w11, rv w10] [(.int 0), (.ref w11)])) rfl (by rw [hml]; rfl) (Steps.refl _) (argsL := [(.int 0)]) (rest := []) (lenOf pd_2 rfl) rfl (by show 2 * 0 + _ ≤ _; exact Nat.le_of_eq rfl) (hb hby at_46) (fun _ _ => ⟨rfl, e2, (by decide : 0 + 0 ≤ _), (by decide : 0 + 0 ≤ _)⟩)
      dsimp only [Pt.U, Pt.locs, Pt.cells, Pt.slots] at X3 l3 y3 z3 st3 hQ3
      subst l3 y3 z3
      obtain ⟨rfl, N3q, e3⟩ := hQ3
      have N3 := Fr.app N2 N3q
      obtain ⟨fs, hr, hrun, hended, hW, hsame⟩ := X3.leave (v := some (.int (1 : Int32))) (fun h => by rw [hre] at h; cases h)
      refine ⟨_, _, pre0 _ (pre1 _ (pre2 _ (?_))), hrun, hended, _, _, rfl, ?_, ⟨_, rfl⟩, hW, hsame.mono (by decide) (by decide)⟩
      · show SF p e below s₁ (mkF m 11 #[iv p0s, iv p1s, iv 2, .unset, .unset, .unset] [(.int (p1s &&& (1 : Int32)))]) _
        refine XS.ifYes X0.here hx rfl (pc0 := 11) (pc' := 18) rfl (hb hby at_11) rfl ((if0 _ _).trans (teq hc2).1) (by decide) (by decide) ?_
        show SF p e below s₁ (mkF m 18 #[iv p0s, iv p1s, iv 2, .unset, .unset, .unset] []) _
        refine XS.iconst X0.here hx rfl (hb hby at_18) ?_
        show SF p e below s₁ (mkF m 19 #[iv p0s, iv p1s, iv 2, .unset, .unset, .unset] [(.int 0)]) _
        refine XS.istoreN X0.here hx rfl (hb hby at_19) rfl (l' := #[iv p0s, iv p1s, iv 2, iv 0, .unset, .unset]) rfl ?_
        show SF p e below s₁ (mkF m 20 #[iv p0s, iv p1s, iv 2, iv 0, .unset, .unset] []) _
        refine XS.iloadN X0.here hx rfl (hb hby at_20) rfl ?_
        show SF p e below s₁ (mkF m 21 #[iv p0s, iv p1s, iv 2, iv 0, .unset, .unset] [(.int 2)]) _
        refine st1 _ ?_
        show SF p e below T1 (mkF m 24 #[iv p0s, iv p1s, iv 2, iv 0, .unset, .unset] [(.ref w11)]) _
        refine XS.astore X1.here hx rfl (hb hby at_24) rfl rfl (l' := #[iv p0s, iv p1s, iv 2, iv 0, rv w11, .unset]) rfl ?_
        show SF p e below T1 (mkF m 26 #[iv p0s, iv p1s, iv 2, iv 0, rv w11, .unset] []) _
        refine XS.iloadN X1.here hx rfl (hb hby at_26) rfl ?_
        show SF p e below T1 (mkF m 27 #[iv p0s, iv p1s, iv 2, iv 0, rv w11, .unset] [(.int 0)]) _
        refine XS.ifYes X1.here hx rfl (pc0 := 27) (pc' := 37) rfl (hb hby at_27) rfl ((if0 _ _).trans (teq (by decide : (0 : Int32) = (0 : Int32))).1) (by decide) (by decide) ?_
        show SF p e below T1 (mkF m 37 #[iv p0s, iv p1s, iv 2, iv 0, rv w11, .unset] []) _
        refine XS.iloadN X1.here hx rfl (hb hby at_37) rfl ?_
        show SF p e below T1 (mkF m 38 #[iv p0s, iv p1s, iv 2, iv 0, rv w11, .unset] [(.int 2)]) _
        refine st2 _ ?_
        show SF p e below T2 (mkF m 41 #[iv p0s, iv p1s, iv 2, iv 0, rv w11, .unset] [(.ref w10)]) _
        refine XS.astore X2.here hx rfl (hb hby at_41) rfl rfl (l' := #[iv p0s, iv p1s, iv 2, iv 0, rv w11, rv w10]) rfl ?_
        show SF p e below T2 (mkF m 43 #[iv p0s, iv p1s, iv 2, iv 0, rv w11, rv w10] []) _
        refine XS.aload X2.here hx rfl (hb hby at_43) rfl rfl ?_
        show SF p e below T2 (mkF m 45 #[iv p0s, iv p1s, iv 2, iv 0, rv w11, rv w10] [(.ref w11)]) _
        refine XS.iloadN X2.here hx rfl (hb hby at_45) rfl ?_
        show SF p e below T2 (mkF m 46 #[iv p0s, iv p1s, iv 2, iv 0, rv w11, rv w10] [(.int 0), (.ref w11)]) _
        refine st3.trans ?_
        show SF p e below T3 (mkF m 49 #[iv p0s, iv p1s, iv 2, iv 0, rv w11, rv w10] [(.ref w10)]) _
        refine XS.aload X3.here hx rfl (hb hby at_49) rfl rfl ?_
        show SF p e below T3 (mkF m 51 #[iv p0s, iv p1s, iv 2, iv 0, rv w11, rv w10] [(.ref w10), (.ref w10)]) _
        refine Jvm.RoadKit.acmp (g := (mkF m 51 #[iv p0s, iv p1s, iv 2, iv 0, rv w11, rv w10] [(.ref w10), (.ref w10)])) X3 hx rfl rfl rfl (pc0 := 51) (pc' := 54) (same := true) rfl (hb hby at_51) rfl (decide_eq_true rfl) (by decide) (by decide) ?_
        show SF p e below T3 (mkF m 54 #[iv p0s, iv p1s, iv 2, iv 0, rv w11, rv w10] []) _
        refine XS.iconst X3.here hx rfl (hb hby at_54) ?_
        show SF p e below T3 (mkF m 55 #[iv p0s, iv p1s, iv 2, iv 0, rv w11, rv w10] [(.int 1)]) _
        refine XS.goto X3.here hx rfl (pc0 := 55) (pc' := 59) rfl (hb hby at_55) (by decide) (by decide) ?_
        show SF p e below T3 (mkF m 59 #[iv p0s, iv p1s, iv 2, iv 0, rv w11, rv w10] [(.int 1)]) _
        exact retN X3 hx (t := .boolean) hre (by simp) (hb hby at_59) hr
      · exact ⟨rfl, N3⟩
    · obtain ⟨_, _, ⟨T1, L1, k1x, n1⟩, -, X1, ⟨Lc1, hQ1, l1, y1, z1⟩, st1⟩ := Jvm.LawKit.callS X0 hx (y := (⟨"com/example/grenze/grenze/PropagationParticipationPinLaw", "pick", "(I)Lcom/example/grenze/grenze/Propagation;"⟩ : MethodName)) hown (mvT hZ (tw hw 1 rfl)) (mvT hZ (tw hw 2 rfl)) (mvT hZ (tw hw 3 rfl)) (mvT hZ (tw hw 4 rfl)) (by decide) (backOf (W := 0) (rm1_11 l Z a0 hw [] w11 h0 n0 Z0 S20 O0) hZ (tw hw 4 rfl) (tw hw 3 rfl) (by decide) (by decide)) (g := (mkF m 21 #[iv p0s, iv p1s, iv 2, iv 1, .unset, .unset] [(.int 2)])) rfl (by rw [hml]; rfl) (argsL := [(.int 2)]) (rest := []) (lenOf pd_0 rfl) rfl (by show 2 * 0 + _ ≤ _; exact Nat.le_of_eq rfl) (hb hby at_21) (fun _ _ => ⟨rfl, e0, (by decide : 0 + 0 ≤ _), (by decide : 0 + 0 ≤ _)⟩)
      dsimp only [Pt.U, Pt.locs, Pt.cells, Pt.slots] at X1 l1 y1 z1 st1 hQ1
      subst l1 y1 z1
      obtain ⟨rfl, N1q, e1⟩ := hQ1
      have N1 := Fr.app N0 N1q
      obtain ⟨_, _, ⟨T2, L2, k2x, n2⟩, -, X2, ⟨Lc2, hQ2, l2, y2, z2⟩, st2⟩ := Jvm.LawKit.callS X1 hx (y := (⟨"com/example/grenze/grenze/PropagationParticipationPinLaw", "withOpen", "(I)Lcom/example/grenze/grenze/Participation;"⟩ : MethodName)) hown (mvT hZ (tw hw 8 rfl)) (mvT hZ (tw hw 9 rfl)) (mvT hZ (tw hw 3 rfl)) (mvT hZ (tw hw 10 rfl)) (by decide) (backOf (W := 0) (rm2_14 l Z a0 hw [] w2 h0 n0 Z0 S2 O0) hZ (tw hw 10 rfl) (tw hw 3 rfl) (by decide) (by decide)) (g := (mkF m 31 #[iv p0s, iv p1s, iv 2, iv 1, rv w11, .unset] [(.int 2)])) rfl (by rw [hml]; rfl) (argsL := [(.int 2)]) (rest := []) (lenOf pd_1 rfl) rfl (by show 2 * 0 + _ ≤ _; exact Nat.le_of_eq rfl) (hb hby at_31) (fun _ _ => ⟨rfl, e1, (by decide : 0 + 0 ≤ _), (by decide : 0 + 0 ≤ _)⟩)
      dsimp only [Pt.U, Pt.locs, Pt.cells, Pt.slots] at X2 l2 y2 z2 st2 hQ2
      subst l2 y2 z2
      obtain ⟨rfl, N2q, e2⟩ := hQ2
      have N2 := Fr.app N1 N2q
      obtain ⟨cq3, kq3, q3a, q3b, q3c⟩ := isOf hZ e2 (E_w11.ext O0.2)
      obtain ⟨_, _, ⟨T3, L3, k3x, n3⟩, -, X3, ⟨Lc3, hQ3, l3, y3, z3⟩, st3⟩ := X2.virtualBack hx (y := (⟨"com/example/grenze/grenze/Propagation", "participation", "(Z)Lcom/example/grenze/grenze/Participation;"⟩ : MethodName)) (z := (⟨"com/example/grenze/grenze/Propagation", "participation", "(Z)Lcom/example/grenze/grenze/Participation;"⟩ : MethodName)) hown (mvT hZ (tw hw 14 rfl)) (mvT hZ (tw hw 15 rfl)) (notFace_of_selects (args := #[]) (mvT hZ (tw hw 17 rfl))) (mvT hZ (tw hw 17 rfl)) (mvT hZ (tw hw 16 rfl)) (by decide) (backOf (W := 0) (rm3_15 l Z a0 hw [] w11 w2 h0 n0 Z0 F_w11_withTransaction O0) hZ (tw hw 18 rfl) (tw hw 6 rfl) (by decide) (by decide)) q3a q3c (g := (mkF m 46 #[iv p0s, iv p1s, iv 2, iv 1, rv w11, rv w2] [(.int 1), (.ref w11)])) rfl (by rw [hml]; rfl) (Steps.refl _) (argsL := [(.int 1)]) (rest := []) (lenOf pd_2 rfl) rfl (by show 2 * 0 + _ ≤ _; exact Nat.le_of_eq rfl) (hb hby at_46) (fun _ _ => ⟨rfl, e2, (by decide : 0 + 0 ≤ _), (by decide : 0 + 0 ≤ _)⟩)
      dsimp only [Pt.U, Pt.locs, Pt.cells, Pt.slots] at X3 l3 y3 z3 st3 hQ3
      subst l3 y3 z3
      obtain ⟨rfl, N3q, e3⟩ := hQ3
      have N3 := Fr.app N2 N3q
      obtain ⟨fs, hr, hrun, hended, hW, hsame⟩ := X3.leave (v := some (.int (1 : Int32))) (fun h => by rw [hre] at h; cases h)
      refine ⟨_, _, pre0 _ (pre1 _ (pre2 _ (?_))), hrun, hended, _, _, rfl, ?_, ⟨_, rfl⟩, hW, hsame.mono (by decide) (by decide)⟩
      · show SF p e below s₁ (mkF m 11 #[iv p0s, iv p1s, iv 2, .unset, .unset, .unset] [(.int (p1s &&& (1 : Int32)))]) _
        refine XS.ifNo X0.here hx rfl (hb hby at_11) rfl ((if0 _ _).trans (feq hc2).1) ?_
        show SF p e below s₁ (mkF m 14 #[iv p0s, iv p1s, iv 2, .unset, .unset, .unset] []) _
        refine XS.iconst X0.here hx rfl (hb hby at_14) ?_
        show SF p e below s₁ (mkF m 15 #[iv p0s, iv p1s, iv 2, .unset, .unset, .unset] [(.int 1)]) _
        refine XS.goto X0.here hx rfl (pc0 := 15) (pc' := 19) rfl (hb hby at_15) (by decide) (by decide) ?_
        show SF p e below s₁ (mkF m 19 #[iv p0s, iv p1s, iv 2, .unset, .unset, .unset] [(.int 1)]) _
        refine XS.istoreN X0.here hx rfl (hb hby at_19) rfl (l' := #[iv p0s, iv p1s, iv 2, iv 1, .unset, .unset]) rfl ?_
        show SF p e below s₁ (mkF m 20 #[iv p0s, iv p1s, iv 2, iv 1, .unset, .unset] []) _
        refine XS.iloadN X0.here hx rfl (hb hby at_20) rfl ?_
        show SF p e below s₁ (mkF m 21 #[iv p0s, iv p1s, iv 2, iv 1, .unset, .unset] [(.int 2)]) _
        refine st1 _ ?_
        show SF p e below T1 (mkF m 24 #[iv p0s, iv p1s, iv 2, iv 1, .unset, .unset] [(.ref w11)]) _
        refine XS.astore X1.here hx rfl (hb hby at_24) rfl rfl (l' := #[iv p0s, iv p1s, iv 2, iv 1, rv w11, .unset]) rfl ?_
        show SF p e below T1 (mkF m 26 #[iv p0s, iv p1s, iv 2, iv 1, rv w11, .unset] []) _
        refine XS.iloadN X1.here hx rfl (hb hby at_26) rfl ?_
        show SF p e below T1 (mkF m 27 #[iv p0s, iv p1s, iv 2, iv 1, rv w11, .unset] [(.int 1)]) _
        refine XS.ifNo X1.here hx rfl (hb hby at_27) rfl ((if0 _ _).trans (feq (by decide : ¬ ((1 : Int32) = (0 : Int32)))).1) ?_
        show SF p e below T1 (mkF m 30 #[iv p0s, iv p1s, iv 2, iv 1, rv w11, .unset] []) _
        refine XS.iloadN X1.here hx rfl (hb hby at_30) rfl ?_
        show SF p e below T1 (mkF m 31 #[iv p0s, iv p1s, iv 2, iv 1, rv w11, .unset] [(.int 2)]) _
        refine st2 _ ?_
        show SF p e below T2 (mkF m 34 #[iv p0s, iv p1s, iv 2, iv 1, rv w11, .unset] [(.ref w2)]) _
        refine XS.goto X2.here hx rfl (pc0 := 34) (pc' := 41) rfl (hb hby at_34) (by decide) (by decide) ?_
        show SF p e below T2 (mkF m 41 #[iv p0s, iv p1s, iv 2, iv 1, rv w11, .unset] [(.ref w2)]) _
        refine XS.astore X2.here hx rfl (hb hby at_41) rfl rfl (l' := #[iv p0s, iv p1s, iv 2, iv 1, rv w11, rv w2]) rfl ?_
        show SF p e below T2 (mkF m 43 #[iv p0s, iv p1s, iv 2, iv 1, rv w11, rv w2] []) _
        refine XS.aload X2.here hx rfl (hb hby at_43) rfl rfl ?_
        show SF p e below T2 (mkF m 45 #[iv p0s, iv p1s, iv 2, iv 1, rv w11, rv w2] [(.ref w11)]) _
        refine XS.iloadN X2.here hx rfl (hb hby at_45) rfl ?_
        show SF p e below T2 (mkF m 46 #[iv p0s, iv p1s, iv 2, iv 1, rv w11, rv w2] [(.int 1), (.ref w11)]) _
        refine st3.trans ?_
        show SF p e below T3 (mkF m 49 #[iv p0s, iv p1s, iv 2, iv 1, rv w11, rv w2] [(.ref w2)]) _
        refine XS.aload X3.here hx rfl (hb hby at_49) rfl rfl ?_
        show SF p e below T3 (mkF m 51 #[iv p0s, iv p1s, iv 2, iv 1, rv w11, rv w2] [(.ref w2), (.ref w2)]) _
        refine Jvm.RoadKit.acmp (g := (mkF m 51 #[iv p0s, iv p1s, iv 2, iv 1, rv w11, rv w2] [(.ref w2), (.ref w2)])) X3 hx rfl rfl rfl (pc0 := 51) (pc' := 54) (same := true) rfl (hb hby at_51) rfl (decide_eq_true rfl) (by decide) (by decide) ?_
        show SF p e below T3 (mkF m 54 #[iv p0s, iv p1s, iv 2, iv 1, rv w11, rv w2] []) _
        refine XS.iconst X3.here hx rfl (hb hby at_54) ?_
        show SF p e below T3 (mkF m 55 #[iv p0s, iv p1s, iv 2, iv 1, rv w11, rv w2] [(.int 1)]) _
        refine XS.goto X3.here hx rfl (pc0 := 55) (pc' := 59) rfl (hb hby at_55) (by decide) (by decide) ?_
        show SF p e below T3 (mkF m 59 #[iv p0s, iv p1s, iv 2, iv 1, rv w11, rv w2] [(.int 1)]) _
        exact retN X3 hx (t := .boolean) hre (by simp) (hb hby at_59) hr
      · exact ⟨rfl, N3⟩
  · have pre2 : ∀ t, SF p e below s₁ (mkF m 11 #[iv p0s, iv p1s, iv 3, .unset, .unset, .unset] [(.int (p1s &&& (1 : Int32)))]) t → SF p e below s₁ (mkF m 7 #[iv p0s, iv p1s, .unset, .unset, .unset, .unset] [(.int ((p0s &&& (2147483647 : Int32)) % (7 : Int32)))]) t := fun t k => by
      show SF p e below s₁ (mkF m 7 #[iv p0s, iv p1s, .unset, .unset, .unset, .unset] [(.int ((p0s &&& (2147483647 : Int32)) % (7 : Int32)))]) _
      rw [hc1]
      show SF p e below s₁ (mkF m 7 #[iv p0s, iv p1s, .unset, .unset, .unset, .unset] [(.int 3)]) _
      refine XS.istoreN X0.here hx rfl (hb hby at_7) rfl (l' := #[iv p0s, iv p1s, iv 3, .unset, .unset, .unset]) rfl ?_
      show SF p e below s₁ (mkF m 8 #[iv p0s, iv p1s, iv 3, .unset, .unset, .unset] []) _
      refine XS.iloadN X0.here hx rfl (hb hby at_8) rfl ?_
      show SF p e below s₁ (mkF m 9 #[iv p0s, iv p1s, iv 3, .unset, .unset, .unset] [(.int p1s)]) _
      refine XS.iconst X0.here hx rfl (hb hby at_9) ?_
      show SF p e below s₁ (mkF m 10 #[iv p0s, iv p1s, iv 3, .unset, .unset, .unset] [(.int 1), (.int p1s)]) _
      refine XS.iand X0.here hx rfl (hb hby at_10) rfl ?_
      exact k
    by_cases hc2 : (p1s &&& (1 : Int32)) = (0 : Int32)
    · obtain ⟨_, _, ⟨T1, L1, k1x, n1⟩, -, X1, ⟨Lc1, hQ1, l1, y1, z1⟩, st1⟩ := Jvm.LawKit.callS X0 hx (y := (⟨"com/example/grenze/grenze/PropagationParticipationPinLaw", "pick", "(I)Lcom/example/grenze/grenze/Propagation;"⟩ : MethodName)) hown (mvT hZ (tw hw 1 rfl)) (mvT hZ (tw hw 2 rfl)) (mvT hZ (tw hw 3 rfl)) (mvT hZ (tw hw 4 rfl)) (by decide) (backOf (W := 0) (rm1_16 l Z a0 hw [] w3 h0 n0 Z0 S4 O0) hZ (tw hw 4 rfl) (tw hw 3 rfl) (by decide) (by decide)) (g := (mkF m 21 #[iv p0s, iv p1s, iv 3, iv 0, .unset, .unset] [(.int 3)])) rfl (by rw [hml]; rfl) (argsL := [(.int 3)]) (rest := []) (lenOf pd_0 rfl) rfl (by show 2 * 0 + _ ≤ _; exact Nat.le_of_eq rfl) (hb hby at_21) (fun _ _ => ⟨rfl, e0, (by decide : 0 + 0 ≤ _), (by decide : 0 + 0 ≤ _)⟩)
      dsimp only [Pt.U, Pt.locs, Pt.cells, Pt.slots] at X1 l1 y1 z1 st1 hQ1
      subst l1 y1 z1
      obtain ⟨rfl, N1q, e1⟩ := hQ1
      have N1 := Fr.app N0 N1q
      obtain ⟨_, _, ⟨T2, L2, k2x, n2⟩, -, X2, ⟨Lc2, hQ2, l2, y2, z2⟩, st2⟩ := Jvm.LawKit.callS X1 hx (y := (⟨"com/example/grenze/grenze/PropagationParticipationPinLaw", "withNoneOpen", "(I)Lcom/example/grenze/grenze/Participation;"⟩ : MethodName)) hown (mvT hZ (tw hw 27 rfl)) (mvT hZ (tw hw 28 rfl)) (mvT hZ (tw hw 3 rfl)) (mvT hZ (tw hw 29 rfl)) (by decide) (backOf (W := 0) (rm4_17 l Z a0 hw [] w4 h0 n0 Z0 S6 O0) hZ (tw hw 29 rfl) (tw hw 3 rfl) (by decide) (by decide)) (g := (mkF m 38 #[iv p0s, iv p1s, iv 3, iv 0, rv w3, .unset] [(.int 3)])) rfl (by rw [hml]; rfl) (argsL := [(.int 3)]) (rest := []) (lenOf pd_1 rfl) rfl (by show 2 * 0 + _ ≤ _; exact Nat.le_of_eq rfl) (hb hby at_38) (fun _ _ => ⟨rfl, e1, (by decide : 0 + 0 ≤ _), (by decide : 0 + 0 ≤ _)⟩)
      dsimp only [Pt.U, Pt.locs, Pt.cells, Pt.slots] at X2 l2 y2 z2 st2 hQ2
      subst l2 y2 z2
      obtain ⟨rfl, N2q, e2⟩ := hQ2
      have N2 := Fr.app N1 N2q
      obtain ⟨cq3, kq3, q3a, q3b, q3c⟩ := isOf hZ e2 (E_w3.ext O0.2)
      obtain ⟨_, _, ⟨T3, L3, k3x, n3⟩, -, X3, ⟨Lc3, hQ3, l3, y3, z3⟩, st3⟩ := X2.virtualBack hx (y := (⟨"com/example/grenze/grenze/Propagation", "participation", "(Z)Lcom/example/grenze/grenze/Participation;"⟩ : MethodName)) (z := (⟨"com/example/grenze/grenze/Propagation", "participation", "(Z)Lcom/example/grenze/grenze/Participation;"⟩ : MethodName)) hown (mvT hZ (tw hw 14 rfl)) (mvT hZ (tw hw 15 rfl)) (notFace_of_selects (args := #[]) (mvT hZ (tw hw 17 rfl))) (mvT hZ (tw hw 17 rfl)) (mvT hZ (tw hw 16 rfl)) (by decide) (backOf (W := 0) (rm3_18 l Z a0 hw [] w3 w4 h0 n0 Z0 F_w3_withoutTransaction O0) hZ (tw hw 18 rfl) (tw hw 6 rfl) (by decide) (by decide)) q3a q3c (g := (mkF m 46 #[iv p0s, iv p1s, iv 3, iv 0, rv w3, rv w4] [(.int 0), (.ref w3)])) rfl (by rw [hml]; rfl) (Steps.refl _) (argsL := [(.int 0)]) (rest := []) (lenOf pd_2 rfl) rfl (by show 2 * 0 + _ ≤ _; exact Nat.le_of_eq rfl) (hb hby at_46) (fun _ _ => ⟨rfl, e2, (by decide : 0 + 0 ≤ _), (by decide : 0 + 0 ≤ _)⟩)
      dsimp only [Pt.U, Pt.locs, Pt.cells, Pt.slots] at X3 l3 y3 z3 st3 hQ3
      subst l3 y3 z3
      obtain ⟨rfl, N3q, e3⟩ := hQ3
      have N3 := Fr.app N2 N3q
      obtain ⟨fs, hr, hrun, hended, hW, hsame⟩ := X3.leave (v := some (.int (1 : Int32))) (fun h => by rw [hre] at h; cases h)
      refine ⟨_, _, pre0 _ (pre1 _ (pre2 _ (?_))), hrun, hended, _, _, rfl, ?_, ⟨_, rfl⟩, hW, hsame.mono (by decide) (by decide)⟩
      · show SF p e below s₁ (mkF m 11 #[iv p0s, iv p1s, iv 3, .unset, .unset, .unset] [(.int (p1s &&& (1 : Int32)))]) _
        refine XS.ifYes X0.here hx rfl (pc0 := 11) (pc' := 18) rfl (hb hby at_11) rfl ((if0 _ _).trans (teq hc2).1) (by decide) (by decide) ?_
        show SF p e below s₁ (mkF m 18 #[iv p0s, iv p1s, iv 3, .unset, .unset, .unset] []) _
        refine XS.iconst X0.here hx rfl (hb hby at_18) ?_
        show SF p e below s₁ (mkF m 19 #[iv p0s, iv p1s, iv 3, .unset, .unset, .unset] [(.int 0)]) _
        refine XS.istoreN X0.here hx rfl (hb hby at_19) rfl (l' := #[iv p0s, iv p1s, iv 3, iv 0, .unset, .unset]) rfl ?_
        show SF p e below s₁ (mkF m 20 #[iv p0s, iv p1s, iv 3, iv 0, .unset, .unset] []) _
        refine XS.iloadN X0.here hx rfl (hb hby at_20) rfl ?_
        show SF p e below s₁ (mkF m 21 #[iv p0s, iv p1s, iv 3, iv 0, .unset, .unset] [(.int 3)]) _
        refine st1 _ ?_
        show SF p e below T1 (mkF m 24 #[iv p0s, iv p1s, iv 3, iv 0, .unset, .unset] [(.ref w3)]) _
        refine XS.astore X1.here hx rfl (hb hby at_24) rfl rfl (l' := #[iv p0s, iv p1s, iv 3, iv 0, rv w3, .unset]) rfl ?_
        show SF p e below T1 (mkF m 26 #[iv p0s, iv p1s, iv 3, iv 0, rv w3, .unset] []) _
        refine XS.iloadN X1.here hx rfl (hb hby at_26) rfl ?_
        show SF p e below T1 (mkF m 27 #[iv p0s, iv p1s, iv 3, iv 0, rv w3, .unset] [(.int 0)]) _
        refine XS.ifYes X1.here hx rfl (pc0 := 27) (pc' := 37) rfl (hb hby at_27) rfl ((if0 _ _).trans (teq (by decide : (0 : Int32) = (0 : Int32))).1) (by decide) (by decide) ?_
        show SF p e below T1 (mkF m 37 #[iv p0s, iv p1s, iv 3, iv 0, rv w3, .unset] []) _
        refine XS.iloadN X1.here hx rfl (hb hby at_37) rfl ?_
        show SF p e below T1 (mkF m 38 #[iv p0s, iv p1s, iv 3, iv 0, rv w3, .unset] [(.int 3)]) _
        refine st2 _ ?_
        show SF p e below T2 (mkF m 41 #[iv p0s, iv p1s, iv 3, iv 0, rv w3, .unset] [(.ref w4)]) _
        refine XS.astore X2.here hx rfl (hb hby at_41) rfl rfl (l' := #[iv p0s, iv p1s, iv 3, iv 0, rv w3, rv w4]) rfl ?_
        show SF p e below T2 (mkF m 43 #[iv p0s, iv p1s, iv 3, iv 0, rv w3, rv w4] []) _
        refine XS.aload X2.here hx rfl (hb hby at_43) rfl rfl ?_
        show SF p e below T2 (mkF m 45 #[iv p0s, iv p1s, iv 3, iv 0, rv w3, rv w4] [(.ref w3)]) _
        refine XS.iloadN X2.here hx rfl (hb hby at_45) rfl ?_
        show SF p e below T2 (mkF m 46 #[iv p0s, iv p1s, iv 3, iv 0, rv w3, rv w4] [(.int 0), (.ref w3)]) _
        refine st3.trans ?_
        show SF p e below T3 (mkF m 49 #[iv p0s, iv p1s, iv 3, iv 0, rv w3, rv w4] [(.ref w4)]) _
        refine XS.aload X3.here hx rfl (hb hby at_49) rfl rfl ?_
        show SF p e below T3 (mkF m 51 #[iv p0s, iv p1s, iv 3, iv 0, rv w3, rv w4] [(.ref w4), (.ref w4)]) _
        refine Jvm.RoadKit.acmp (g := (mkF m 51 #[iv p0s, iv p1s, iv 3, iv 0, rv w3, rv w4] [(.ref w4), (.ref w4)])) X3 hx rfl rfl rfl (pc0 := 51) (pc' := 54) (same := true) rfl (hb hby at_51) rfl (decide_eq_true rfl) (by decide) (by decide) ?_
        show SF p e below T3 (mkF m 54 #[iv p0s, iv p1s, iv 3, iv 0, rv w3, rv w4] []) _
        refine XS.iconst X3.here hx rfl (hb hby at_54) ?_
        show SF p e below T3 (mkF m 55 #[iv p0s, iv p1s, iv 3, iv 0, rv w3, rv w4] [(.int 1)]) _
        refine XS.goto X3.here hx rfl (pc0 := 55) (pc' := 59) rfl (hb hby at_55) (by decide) (by decide) ?_
        show SF p e below T3 (mkF m 59 #[iv p0s, iv p1s, iv 3, iv 0, rv w3, rv w4] [(.int 1)]) _
        exact retN X3 hx (t := .boolean) hre (by simp) (hb hby at_59) hr
      · exact ⟨rfl, N3⟩
    · obtain ⟨_, _, ⟨T1, L1, k1x, n1⟩, -, X1, ⟨Lc1, hQ1, l1, y1, z1⟩, st1⟩ := Jvm.LawKit.callS X0 hx (y := (⟨"com/example/grenze/grenze/PropagationParticipationPinLaw", "pick", "(I)Lcom/example/grenze/grenze/Propagation;"⟩ : MethodName)) hown (mvT hZ (tw hw 1 rfl)) (mvT hZ (tw hw 2 rfl)) (mvT hZ (tw hw 3 rfl)) (mvT hZ (tw hw 4 rfl)) (by decide) (backOf (W := 0) (rm1_16 l Z a0 hw [] w3 h0 n0 Z0 S4 O0) hZ (tw hw 4 rfl) (tw hw 3 rfl) (by decide) (by decide)) (g := (mkF m 21 #[iv p0s, iv p1s, iv 3, iv 1, .unset, .unset] [(.int 3)])) rfl (by rw [hml]; rfl) (argsL := [(.int 3)]) (rest := []) (lenOf pd_0 rfl) rfl (by show 2 * 0 + _ ≤ _; exact Nat.le_of_eq rfl) (hb hby at_21) (fun _ _ => ⟨rfl, e0, (by decide : 0 + 0 ≤ _), (by decide : 0 + 0 ≤ _)⟩)
      dsimp only [Pt.U, Pt.locs, Pt.cells, Pt.slots] at X1 l1 y1 z1 st1 hQ1
      subst l1 y1 z1
      obtain ⟨rfl, N1q, e1⟩ := hQ1
      have N1 := Fr.app N0 N1q
      obtain ⟨_, _, ⟨T2, L2, k2x, n2⟩, -, X2, ⟨Lc2, hQ2, l2, y2, z2⟩, st2⟩ := Jvm.LawKit.callS X1 hx (y := (⟨"com/example/grenze/grenze/PropagationParticipationPinLaw", "withOpen", "(I)Lcom/example/grenze/grenze/Participation;"⟩ : MethodName)) hown (mvT hZ (tw hw 8 rfl)) (mvT hZ (tw hw 9 rfl)) (mvT hZ (tw hw 3 rfl)) (mvT hZ (tw hw 10 rfl)) (by decide) (backOf (W := 0) (rm2_19 l Z a0 hw [] w4 h0 n0 Z0 S6 O0) hZ (tw hw 10 rfl) (tw hw 3 rfl) (by decide) (by decide)) (g := (mkF m 31 #[iv p0s, iv p1s, iv 3, iv 1, rv w3, .unset] [(.int 3)])) rfl (by rw [hml]; rfl) (argsL := [(.int 3)]) (rest := []) (lenOf pd_1 rfl) rfl (by show 2 * 0 + _ ≤ _; exact Nat.le_of_eq rfl) (hb hby at_31) (fun _ _ => ⟨rfl, e1, (by decide : 0 + 0 ≤ _), (by decide : 0 + 0 ≤ _)⟩)
      dsimp only [Pt.U, Pt.locs, Pt.cells, Pt.slots] at X2 l2 y2 z2 st2 hQ2
      subst l2 y2 z2
      obtain ⟨rfl, N2q, e2⟩ := hQ2
      have N2 := Fr.app N1 N2q
      obtain ⟨cq3, kq3, q3a, q3b, q3c⟩ := isOf hZ e2 (E_w3.ext O0.2)
      obtain ⟨_, _, ⟨T3, L3, k3x, n3⟩, -, X3, ⟨Lc3, hQ3, l3, y3, z3⟩, st3⟩ := X2.virtualBack hx (y := (⟨"com/example/grenze/grenze/Propagation", "participation", "(Z)Lcom/example/grenze/grenze/Participation;"⟩ : MethodName)) (z := (⟨"com/example/grenze/grenze/Propagation", "participation", "(Z)Lcom/example/grenze/grenze/Participation;"⟩ : MethodName)) hown (mvT hZ (tw hw 14 rfl)) (mvT hZ (tw hw 15 rfl)) (notFace_of_selects (args := #[]) (mvT hZ (tw hw 17 rfl))) (mvT hZ (tw hw 17 rfl)) (mvT hZ (tw hw 16 rfl)) (by decide) (backOf (W := 0) (rm3_20 l Z a0 hw [] w3 w4 h0 n0 Z0 F_w3_withTransaction O0) hZ (tw hw 18 rfl) (tw hw 6 rfl) (by decide) (by decide)) q3a q3c (g := (mkF m 46 #[iv p0s, iv p1s, iv 3, iv 1, rv w3, rv w4] [(.int 1), (.ref w3)])) rfl (by rw [hml]; rfl) (Steps.refl _) (argsL := [(.int 1)]) (rest := []) (lenOf pd_2 rfl) rfl (by show 2 * 0 + _ ≤ _; exact Nat.le_of_eq rfl) (hb hby at_46) (fun _ _ => ⟨rfl, e2, (by decide : 0 + 0 ≤ _), (by decide : 0 + 0 ≤ _)⟩)
      dsimp only [Pt.U, Pt.locs, Pt.cells, Pt.slots] at X3 l3 y3 z3 st3 hQ3
      subst l3 y3 z3
      obtain ⟨rfl, N3q, e3⟩ := hQ3
      have N3 := Fr.app N2 N3q
      obtain ⟨fs, hr, hrun, hended, hW, hsame⟩ := X3.leave (v := some (.int (1 : Int32))) (fun h => by rw [hre] at h; cases h)
      refine ⟨_, _, pre0 _ (pre1 _ (pre2 _ (?_))), hrun, hended, _, _, rfl, ?_, ⟨_, rfl⟩, hW, hsame.mono (by decide) (by decide)⟩
      · show SF p e below s₁ (mkF m 11 #[iv p0s, iv p1s, iv 3, .unset, .unset, .unset] [(.int (p1s &&& (1 : Int32)))]) _
        refine XS.ifNo X0.here hx rfl (hb hby at_11) rfl ((if0 _ _).trans (feq hc2).1) ?_
        show SF p e below s₁ (mkF m 14 #[iv p0s, iv p1s, iv 3, .unset, .unset, .unset] []) _
        refine XS.iconst X0.here hx rfl (hb hby at_14) ?_
        show SF p e below s₁ (mkF m 15 #[iv p0s, iv p1s, iv 3, .unset, .unset, .unset] [(.int 1)]) _
        refine XS.goto X0.here hx rfl (pc0 := 15) (pc' := 19) rfl (hb hby at_15) (by decide) (by decide) ?_
        show SF p e below s₁ (mkF m 19 #[iv p0s, iv p1s, iv 3, .unset, .unset, .unset] [(.int 1)]) _
        refine XS.istoreN X0.here hx rfl (hb hby at_19) rfl (l' := #[iv p0s, iv p1s, iv 3, iv 1, .unset, .unset]) rfl ?_
        show SF p e below s₁ (mkF m 20 #[iv p0s, iv p1s, iv 3, iv 1, .unset, .unset] []) _
        refine XS.iloadN X0.here hx rfl (hb hby at_20) rfl ?_
        show SF p e below s₁ (mkF m 21 #[iv p0s, iv p1s, iv 3, iv 1, .unset, .unset] [(.int 3)]) _
        refine st1 _ ?_
        show SF p e below T1 (mkF m 24 #[iv p0s, iv p1s, iv 3, iv 1, .unset, .unset] [(.ref w3)]) _
        refine XS.astore X1.here hx rfl (hb hby at_24) rfl rfl (l' := #[iv p0s, iv p1s, iv 3, iv 1, rv w3, .unset]) rfl ?_
        show SF p e below T1 (mkF m 26 #[iv p0s, iv p1s, iv 3, iv 1, rv w3, .unset] []) _
        refine XS.iloadN X1.here hx rfl (hb hby at_26) rfl ?_
        show SF p e below T1 (mkF m 27 #[iv p0s, iv p1s, iv 3, iv 1, rv w3, .unset] [(.int 1)]) _
        refine XS.ifNo X1.here hx rfl (hb hby at_27) rfl ((if0 _ _).trans (feq (by decide : ¬ ((1 : Int32) = (0 : Int32)))).1) ?_
        show SF p e below T1 (mkF m 30 #[iv p0s, iv p1s, iv 3, iv 1, rv w3, .unset] []) _
        refine XS.iloadN X1.here hx rfl (hb hby at_30) rfl ?_
        show SF p e below T1 (mkF m 31 #[iv p0s, iv p1s, iv 3, iv 1, rv w3, .unset] [(.int 3)]) _
        refine st2 _ ?_
        show SF p e below T2 (mkF m 34 #[iv p0s, iv p1s, iv 3, iv 1, rv w3, .unset] [(.ref w4)]) _
        refine XS.goto X2.here hx rfl (pc0 := 34) (pc' := 41) rfl (hb hby at_34) (by decide) (by decide) ?_
        show SF p e below T2 (mkF m 41 #[iv p0s, iv p1s, iv 3, iv 1, rv w3, .unset] [(.ref w4)]) _
        refine XS.astore X2.here hx rfl (hb hby at_41) rfl rfl (l' := #[iv p0s, iv p1s, iv 3, iv 1, rv w3, rv w4]) rfl ?_
        show SF p e below T2 (mkF m 43 #[iv p0s, iv p1s, iv 3, iv 1, rv w3, rv w4] []) _
        refine XS.aload X2.here hx rfl (hb hby at_43) rfl rfl ?_
        show SF p e below T2 (mkF m 45 #[iv p0s, iv p1s, iv 3, iv 1, rv w3, rv w4] [(.ref w3)]) _
        refine XS.iloadN X2.here hx rfl (hb hby at_45) rfl ?_
        show SF p e below T2 (mkF m 46 #[iv p0s, iv p1s, iv 3, iv 1, rv w3, rv w4] [(.int 1), (.ref w3)]) _
        refine st3.trans ?_
        show SF p e below T3 (mkF m 49 #[iv p0s, iv p1s, iv 3, iv 1, rv w3, rv w4] [(.ref w4)]) _
        refine XS.aload X3.here hx rfl (hb hby at_49) rfl rfl ?_
        show SF p e below T3 (mkF m 51 #[iv p0s, iv p1s, iv 3, iv 1, rv w3, rv w4] [(.ref w4), (.ref w4)]) _
        refine Jvm.RoadKit.acmp (g := (mkF m 51 #[iv p0s, iv p1s, iv 3, iv 1, rv w3, rv w4] [(.ref w4), (.ref w4)])) X3 hx rfl rfl rfl (pc0 := 51) (pc' := 54) (same := true) rfl (hb hby at_51) rfl (decide_eq_true rfl) (by decide) (by decide) ?_
        show SF p e below T3 (mkF m 54 #[iv p0s, iv p1s, iv 3, iv 1, rv w3, rv w4] []) _
        refine XS.iconst X3.here hx rfl (hb hby at_54) ?_
        show SF p e below T3 (mkF m 55 #[iv p0s, iv p1s, iv 3, iv 1, rv w3, rv w4] [(.int 1)]) _
        refine XS.goto X3.here hx rfl (pc0 := 55) (pc' := 59) rfl (hb hby at_55) (by decide) (by decide) ?_
        show SF p e below T3 (mkF m 59 #[iv p0s, iv p1s, iv 3, iv 1, rv w3, rv w4] [(.int 1)]) _
        exact retN X3 hx (t := .boolean) hre (by simp) (hb hby at_59) hr
      · exact ⟨rfl, N3⟩
  · have pre2 : ∀ t, SF p e below s₁ (mkF m 11 #[iv p0s, iv p1s, iv 4, .unset, .unset, .unset] [(.int (p1s &&& (1 : Int32)))]) t → SF p e below s₁ (mkF m 7 #[iv p0s, iv p1s, .unset, .unset, .unset, .unset] [(.int ((p0s &&& (2147483647 : Int32)) % (7 : Int32)))]) t := fun t k => by
      show SF p e below s₁ (mkF m 7 #[iv p0s, iv p1s, .unset, .unset, .unset, .unset] [(.int ((p0s &&& (2147483647 : Int32)) % (7 : Int32)))]) _
      rw [hc1]
      show SF p e below s₁ (mkF m 7 #[iv p0s, iv p1s, .unset, .unset, .unset, .unset] [(.int 4)]) _
      refine XS.istoreN X0.here hx rfl (hb hby at_7) rfl (l' := #[iv p0s, iv p1s, iv 4, .unset, .unset, .unset]) rfl ?_
      show SF p e below s₁ (mkF m 8 #[iv p0s, iv p1s, iv 4, .unset, .unset, .unset] []) _
      refine XS.iloadN X0.here hx rfl (hb hby at_8) rfl ?_
      show SF p e below s₁ (mkF m 9 #[iv p0s, iv p1s, iv 4, .unset, .unset, .unset] [(.int p1s)]) _
      refine XS.iconst X0.here hx rfl (hb hby at_9) ?_
      show SF p e below s₁ (mkF m 10 #[iv p0s, iv p1s, iv 4, .unset, .unset, .unset] [(.int 1), (.int p1s)]) _
      refine XS.iand X0.here hx rfl (hb hby at_10) rfl ?_
      exact k
    by_cases hc2 : (p1s &&& (1 : Int32)) = (0 : Int32)
    · obtain ⟨_, _, ⟨T1, L1, k1x, n1⟩, -, X1, ⟨Lc1, hQ1, l1, y1, z1⟩, st1⟩ := Jvm.LawKit.callS X0 hx (y := (⟨"com/example/grenze/grenze/PropagationParticipationPinLaw", "pick", "(I)Lcom/example/grenze/grenze/Propagation;"⟩ : MethodName)) hown (mvT hZ (tw hw 1 rfl)) (mvT hZ (tw hw 2 rfl)) (mvT hZ (tw hw 3 rfl)) (mvT hZ (tw hw 4 rfl)) (by decide) (backOf (W := 0) (rm1_21 l Z a0 hw [] w7 h0 n0 Z0 S12 O0) hZ (tw hw 4 rfl) (tw hw 3 rfl) (by decide) (by decide)) (g := (mkF m 21 #[iv p0s, iv p1s, iv 4, iv 0, .unset, .unset] [(.int 4)])) rfl (by rw [hml]; rfl) (argsL := [(.int 4)]) (rest := []) (lenOf pd_0 rfl) rfl (by show 2 * 0 + _ ≤ _; exact Nat.le_of_eq rfl) (hb hby at_21) (fun _ _ => ⟨rfl, e0, (by decide : 0 + 0 ≤ _), (by decide : 0 + 0 ≤ _)⟩)
      dsimp only [Pt.U, Pt.locs, Pt.cells, Pt.slots] at X1 l1 y1 z1 st1 hQ1
      subst l1 y1 z1
      obtain ⟨rfl, N1q, e1⟩ := hQ1
      have N1 := Fr.app N0 N1q
      obtain ⟨_, _, ⟨T2, L2, k2x, n2⟩, -, X2, ⟨Lc2, hQ2, l2, y2, z2⟩, st2⟩ := Jvm.LawKit.callS X1 hx (y := (⟨"com/example/grenze/grenze/PropagationParticipationPinLaw", "withNoneOpen", "(I)Lcom/example/grenze/grenze/Participation;"⟩ : MethodName)) hown (mvT hZ (tw hw 27 rfl)) (mvT hZ (tw hw 28 rfl)) (mvT hZ (tw hw 3 rfl)) (mvT hZ (tw hw 29 rfl)) (by decide) (backOf (W := 0) (rm4_22 l Z a0 hw [] w6 h0 n0 Z0 S10 O0) hZ (tw hw 29 rfl) (tw hw 3 rfl) (by decide) (by decide)) (g := (mkF m 38 #[iv p0s, iv p1s, iv 4, iv 0, rv w7, .unset] [(.int 4)])) rfl (by rw [hml]; rfl) (argsL := [(.int 4)]) (rest := []) (lenOf pd_1 rfl) rfl (by show 2 * 0 + _ ≤ _; exact Nat.le_of_eq rfl) (hb hby at_38) (fun _ _ => ⟨rfl, e1, (by decide : 0 + 0 ≤ _), (by decide : 0 + 0 ≤ _)⟩)
      dsimp only [Pt.U, Pt.locs, Pt.cells, Pt.slots] at X2 l2 y2 z2 st2 hQ2
      subst l2 y2 z2
      obtain ⟨rfl, N2q, e2⟩ := hQ2
      have N2 := Fr.app N1 N2q
      obtain ⟨cq3, kq3, q3a, q3b, q3c⟩ := isOf hZ e2 (E_w7.ext O0.2)
      obtain ⟨_, _, ⟨T3, L3, k3x, n3⟩, -, X3, ⟨Lc3, hQ3, l3, y3, z3⟩, st3⟩ := X2.virtualBack hx (y := (⟨"com/example/grenze/grenze/Propagation", "participation", "(Z)Lcom/example/grenze/grenze/Participation;"⟩ : MethodName)) (z := (⟨"com/example/grenze/grenze/Propagation", "participation", "(Z)Lcom/example/grenze/grenze/Participation;"⟩ : MethodName)) hown (mvT hZ (tw hw 14 rfl)) (mvT hZ (tw hw 15 rfl)) (notFace_of_selects (args := #[]) (mvT hZ (tw hw 17 rfl))) (mvT hZ (tw hw 17 rfl)) (mvT hZ (tw hw 16 rfl)) (by decide) (backOf (W := 0) (rm3_23 l Z a0 hw [] w7 w6 h0 n0 Z0 F_w7_withoutTransaction O0) hZ (tw hw 18 rfl) (tw hw 6 rfl) (by decide) (by decide)) q3a q3c (g := (mkF m 46 #[iv p0s, iv p1s, iv 4, iv 0, rv w7, rv w6] [(.int 0), (.ref w7)])) rfl (by rw [hml]; rfl) (Steps.refl _) (argsL := [(.int 0)]) (rest := []) (lenOf pd_2 rfl) rfl (by show 2 * 0 + _ ≤ _; exact Nat.le_of_eq rfl) (hb hby at_46) (fun _ _ => ⟨rfl, e2, (by decide : 0 + 0 ≤ _), (by decide : 0 + 0 ≤ _)⟩)
      dsimp only [Pt.U, Pt.locs, Pt.cells, Pt.slots] at X3 l3 y3 z3 st3 hQ3
      subst l3 y3 z3
      obtain ⟨rfl, N3q, e3⟩ := hQ3
      have N3 := Fr.app N2 N3q
      obtain ⟨fs, hr, hrun, hended, hW, hsame⟩ := X3.leave (v := some (.int (1 : Int32))) (fun h => by rw [hre] at h; cases h)
      refine ⟨_, _, pre0 _ (pre1 _ (pre2 _ (?_))), hrun, hended, _, _, rfl, ?_, ⟨_, rfl⟩, hW, hsame.mono (by decide) (by decide)⟩
      · show SF p e below s₁ (mkF m 11 #[iv p0s, iv p1s, iv 4, .unset, .unset, .unset] [(.int (p1s &&& (1 : Int32)))]) _
        refine XS.ifYes X0.here hx rfl (pc0 := 11) (pc' := 18) rfl (hb hby at_11) rfl ((if0 _ _).trans (teq hc2).1) (by decide) (by decide) ?_
        show SF p e below s₁ (mkF m 18 #[iv p0s, iv p1s, iv 4, .unset, .unset, .unset] []) _
        refine XS.iconst X0.here hx rfl (hb hby at_18) ?_
        show SF p e below s₁ (mkF m 19 #[iv p0s, iv p1s, iv 4, .unset, .unset, .unset] [(.int 0)]) _
        refine XS.istoreN X0.here hx rfl (hb hby at_19) rfl (l' := #[iv p0s, iv p1s, iv 4, iv 0, .unset, .unset]) rfl ?_
        show SF p e below s₁ (mkF m 20 #[iv p0s, iv p1s, iv 4, iv 0, .unset, .unset] []) _
        refine XS.iloadN X0.here hx rfl (hb hby at_20) rfl ?_
        show SF p e below s₁ (mkF m 21 #[iv p0s, iv p1s, iv 4, iv 0, .unset, .unset] [(.int 4)]) _
        refine st1 _ ?_
        show SF p e below T1 (mkF m 24 #[iv p0s, iv p1s, iv 4, iv 0, .unset, .unset] [(.ref w7)]) _
        refine XS.astore X1.here hx rfl (hb hby at_24) rfl rfl (l' := #[iv p0s, iv p1s, iv 4, iv 0, rv w7, .unset]) rfl ?_
        show SF p e below T1 (mkF m 26 #[iv p0s, iv p1s, iv 4, iv 0, rv w7, .unset] []) _
        refine XS.iloadN X1.here hx rfl (hb hby at_26) rfl ?_
        show SF p e below T1 (mkF m 27 #[iv p0s, iv p1s, iv 4, iv 0, rv w7, .unset] [(.int 0)]) _
        refine XS.ifYes X1.here hx rfl (pc0 := 27) (pc' := 37) rfl (hb hby at_27) rfl ((if0 _ _).trans (teq (by decide : (0 : Int32) = (0 : Int32))).1) (by decide) (by decide) ?_
        show SF p e below T1 (mkF m 37 #[iv p0s, iv p1s, iv 4, iv 0, rv w7, .unset] []) _
        refine XS.iloadN X1.here hx rfl (hb hby at_37) rfl ?_
        show SF p e below T1 (mkF m 38 #[iv p0s, iv p1s, iv 4, iv 0, rv w7, .unset] [(.int 4)]) _
        refine st2 _ ?_
        show SF p e below T2 (mkF m 41 #[iv p0s, iv p1s, iv 4, iv 0, rv w7, .unset] [(.ref w6)]) _
        refine XS.astore X2.here hx rfl (hb hby at_41) rfl rfl (l' := #[iv p0s, iv p1s, iv 4, iv 0, rv w7, rv w6]) rfl ?_
        show SF p e below T2 (mkF m 43 #[iv p0s, iv p1s, iv 4, iv 0, rv w7, rv w6] []) _
        refine XS.aload X2.here hx rfl (hb hby at_43) rfl rfl ?_
        show SF p e below T2 (mkF m 45 #[iv p0s, iv p1s, iv 4, iv 0, rv w7, rv w6] [(.ref w7)]) _
        refine XS.iloadN X2.here hx rfl (hb hby at_45) rfl ?_
        show SF p e below T2 (mkF m 46 #[iv p0s, iv p1s, iv 4, iv 0, rv w7, rv w6] [(.int 0), (.ref w7)]) _
        refine st3.trans ?_
        show SF p e below T3 (mkF m 49 #[iv p0s, iv p1s, iv 4, iv 0, rv w7, rv w6] [(.ref w6)]) _
        refine XS.aload X3.here hx rfl (hb hby at_49) rfl rfl ?_
        show SF p e below T3 (mkF m 51 #[iv p0s, iv p1s, iv 4, iv 0, rv w7, rv w6] [(.ref w6), (.ref w6)]) _
        refine Jvm.RoadKit.acmp (g := (mkF m 51 #[iv p0s, iv p1s, iv 4, iv 0, rv w7, rv w6] [(.ref w6), (.ref w6)])) X3 hx rfl rfl rfl (pc0 := 51) (pc' := 54) (same := true) rfl (hb hby at_51) rfl (decide_eq_true rfl) (by decide) (by decide) ?_
        show SF p e below T3 (mkF m 54 #[iv p0s, iv p1s, iv 4, iv 0, rv w7, rv w6] []) _
        refine XS.iconst X3.here hx rfl (hb hby at_54) ?_
        show SF p e below T3 (mkF m 55 #[iv p0s, iv p1s, iv 4, iv 0, rv w7, rv w6] [(.int 1)]) _
        refine XS.goto X3.here hx rfl (pc0 := 55) (pc' := 59) rfl (hb hby at_55) (by decide) (by decide) ?_
        show SF p e below T3 (mkF m 59 #[iv p0s, iv p1s, iv 4, iv 0, rv w7, rv w6] [(.int 1)]) _
        exact retN X3 hx (t := .boolean) hre (by simp) (hb hby at_59) hr
      · exact ⟨rfl, N3⟩
    · obtain ⟨_, _, ⟨T1, L1, k1x, n1⟩, -, X1, ⟨Lc1, hQ1, l1, y1, z1⟩, st1⟩ := Jvm.LawKit.callS X0 hx (y := (⟨"com/example/grenze/grenze/PropagationParticipationPinLaw", "pick", "(I)Lcom/example/grenze/grenze/Propagation;"⟩ : MethodName)) hown (mvT hZ (tw hw 1 rfl)) (mvT hZ (tw hw 2 rfl)) (mvT hZ (tw hw 3 rfl)) (mvT hZ (tw hw 4 rfl)) (by decide) (backOf (W := 0) (rm1_21 l Z a0 hw [] w7 h0 n0 Z0 S12 O0) hZ (tw hw 4 rfl) (tw hw 3 rfl) (by decide) (by decide)) (g := (mkF m 21 #[iv p0s, iv p1s, iv 4, iv 1, .unset, .unset] [(.int 4)])) rfl (by rw [hml]; rfl) (argsL := [(.int 4)]) (rest := []) (lenOf pd_0 rfl) rfl (by show 2 * 0 + _ ≤ _; exact Nat.le_of_eq rfl) (hb hby at_21) (fun _ _ => ⟨rfl, e0, (by decide : 0 + 0 ≤ _), (by decide : 0 + 0 ≤ _)⟩)
      dsimp only [Pt.U, Pt.locs, Pt.cells, Pt.slots] at X1 l1 y1 z1 st1 hQ1
      subst l1 y1 z1
      obtain ⟨rfl, N1q, e1⟩ := hQ1
      have N1 := Fr.app N0 N1q
      obtain ⟨_, _, ⟨T2, L2, k2x, n2⟩, -, X2, ⟨Lc2, hQ2, l2, y2, z2⟩, st2⟩ := Jvm.LawKit.callS X1 hx (y := (⟨"com/example/grenze/grenze/PropagationParticipationPinLaw", "withOpen", "(I)Lcom/example/grenze/grenze/Participation;"⟩ : MethodName)) hown (mvT hZ (tw hw 8 rfl)) (mvT hZ (tw hw 9 rfl)) (mvT hZ (tw hw 3 rfl)) (mvT hZ (tw hw 10 rfl)) (by decide) (backOf (W := 0) (rm2_24 l Z a0 hw [] w6 h0 n0 Z0 S10 O0) hZ (tw hw 10 rfl) (tw hw 3 rfl) (by decide) (by decide)) (g := (mkF m 31 #[iv p0s, iv p1s, iv 4, iv 1, rv w7, .unset] [(.int 4)])) rfl (by rw [hml]; rfl) (argsL := [(.int 4)]) (rest := []) (lenOf pd_1 rfl) rfl (by show 2 * 0 + _ ≤ _; exact Nat.le_of_eq rfl) (hb hby at_31) (fun _ _ => ⟨rfl, e1, (by decide : 0 + 0 ≤ _), (by decide : 0 + 0 ≤ _)⟩)
      dsimp only [Pt.U, Pt.locs, Pt.cells, Pt.slots] at X2 l2 y2 z2 st2 hQ2
      subst l2 y2 z2
      obtain ⟨rfl, N2q, e2⟩ := hQ2
      have N2 := Fr.app N1 N2q
      obtain ⟨cq3, kq3, q3a, q3b, q3c⟩ := isOf hZ e2 (E_w7.ext O0.2)
      obtain ⟨_, _, ⟨T3, L3, k3x, n3⟩, -, X3, ⟨Lc3, hQ3, l3, y3, z3⟩, st3⟩ := X2.virtualBack hx (y := (⟨"com/example/grenze/grenze/Propagation", "participation", "(Z)Lcom/example/grenze/grenze/Participation;"⟩ : MethodName)) (z := (⟨"com/example/grenze/grenze/Propagation", "participation", "(Z)Lcom/example/grenze/grenze/Participation;"⟩ : MethodName)) hown (mvT hZ (tw hw 14 rfl)) (mvT hZ (tw hw 15 rfl)) (notFace_of_selects (args := #[]) (mvT hZ (tw hw 17 rfl))) (mvT hZ (tw hw 17 rfl)) (mvT hZ (tw hw 16 rfl)) (by decide) (backOf (W := 0) (rm3_25 l Z a0 hw [] w7 w6 h0 n0 Z0 F_w7_withTransaction O0) hZ (tw hw 18 rfl) (tw hw 6 rfl) (by decide) (by decide)) q3a q3c (g := (mkF m 46 #[iv p0s, iv p1s, iv 4, iv 1, rv w7, rv w6] [(.int 1), (.ref w7)])) rfl (by rw [hml]; rfl) (Steps.refl _) (argsL := [(.int 1)]) (rest := []) (lenOf pd_2 rfl) rfl (by show 2 * 0 + _ ≤ _; exact Nat.le_of_eq rfl) (hb hby at_46) (fun _ _ => ⟨rfl, e2, (by decide : 0 + 0 ≤ _), (by decide : 0 + 0 ≤ _)⟩)
      dsimp only [Pt.U, Pt.locs, Pt.cells, Pt.slots] at X3 l3 y3 z3 st3 hQ3
      subst l3 y3 z3
      obtain ⟨rfl, N3q, e3⟩ := hQ3
      have N3 := Fr.app N2 N3q
      obtain ⟨fs, hr, hrun, hended, hW, hsame⟩ := X3.leave (v := some (.int (1 : Int32))) (fun h => by rw [hre] at h; cases h)
      refine ⟨_, _, pre0 _ (pre1 _ (pre2 _ (?_))), hrun, hended, _, _, rfl, ?_, ⟨_, rfl⟩, hW, hsame.mono (by decide) (by decide)⟩
      · show SF p e below s₁ (mkF m 11 #[iv p0s, iv p1s, iv 4, .unset, .unset, .unset] [(.int (p1s &&& (1 : Int32)))]) _
        refine XS.ifNo X0.here hx rfl (hb hby at_11) rfl ((if0 _ _).trans (feq hc2).1) ?_
        show SF p e below s₁ (mkF m 14 #[iv p0s, iv p1s, iv 4, .unset, .unset, .unset] []) _
        refine XS.iconst X0.here hx rfl (hb hby at_14) ?_
        show SF p e below s₁ (mkF m 15 #[iv p0s, iv p1s, iv 4, .unset, .unset, .unset] [(.int 1)]) _
        refine XS.goto X0.here hx rfl (pc0 := 15) (pc' := 19) rfl (hb hby at_15) (by decide) (by decide) ?_
        show SF p e below s₁ (mkF m 19 #[iv p0s, iv p1s, iv 4, .unset, .unset, .unset] [(.int 1)]) _
        refine XS.istoreN X0.here hx rfl (hb hby at_19) rfl (l' := #[iv p0s, iv p1s, iv 4, iv 1, .unset, .unset]) rfl ?_
        show SF p e below s₁ (mkF m 20 #[iv p0s, iv p1s, iv 4, iv 1, .unset, .unset] []) _
        refine XS.iloadN X0.here hx rfl (hb hby at_20) rfl ?_
        show SF p e below s₁ (mkF m 21 #[iv p0s, iv p1s, iv 4, iv 1, .unset, .unset] [(.int 4)]) _
        refine st1 _ ?_
        show SF p e below T1 (mkF m 24 #[iv p0s, iv p1s, iv 4, iv 1, .unset, .unset] [(.ref w7)]) _
        refine XS.astore X1.here hx rfl (hb hby at_24) rfl rfl (l' := #[iv p0s, iv p1s, iv 4, iv 1, rv w7, .unset]) rfl ?_
        show SF p e below T1 (mkF m 26 #[iv p0s, iv p1s, iv 4, iv 1, rv w7, .unset] []) _
        refine XS.iloadN X1.here hx rfl (hb hby at_26) rfl ?_
        show SF p e below T1 (mkF m 27 #[iv p0s, iv p1s, iv 4, iv 1, rv w7, .unset] [(.int 1)]) _
        refine XS.ifNo X1.here hx rfl (hb hby at_27) rfl ((if0 _ _).trans (feq (by decide : ¬ ((1 : Int32) = (0 : Int32)))).1) ?_
        show SF p e below T1 (mkF m 30 #[iv p0s, iv p1s, iv 4, iv 1, rv w7, .unset] []) _
        refine XS.iloadN X1.here hx rfl (hb hby at_30) rfl ?_
        show SF p e below T1 (mkF m 31 #[iv p0s, iv p1s, iv 4, iv 1, rv w7, .unset] [(.int 4)]) _
        refine st2 _ ?_
        show SF p e below T2 (mkF m 34 #[iv p0s, iv p1s, iv 4, iv 1, rv w7, .unset] [(.ref w6)]) _
        refine XS.goto X2.here hx rfl (pc0 := 34) (pc' := 41) rfl (hb hby at_34) (by decide) (by decide) ?_
        show SF p e below T2 (mkF m 41 #[iv p0s, iv p1s, iv 4, iv 1, rv w7, .unset] [(.ref w6)]) _
        refine XS.astore X2.here hx rfl (hb hby at_41) rfl rfl (l' := #[iv p0s, iv p1s, iv 4, iv 1, rv w7, rv w6]) rfl ?_
        show SF p e below T2 (mkF m 43 #[iv p0s, iv p1s, iv 4, iv 1, rv w7, rv w6] []) _
        refine XS.aload X2.here hx rfl (hb hby at_43) rfl rfl ?_
        show SF p e below T2 (mkF m 45 #[iv p0s, iv p1s, iv 4, iv 1, rv w7, rv w6] [(.ref w7)]) _
        refine XS.iloadN X2.here hx rfl (hb hby at_45) rfl ?_
        show SF p e below T2 (mkF m 46 #[iv p0s, iv p1s, iv 4, iv 1, rv w7, rv w6] [(.int 1), (.ref w7)]) _
        refine st3.trans ?_
        show SF p e below T3 (mkF m 49 #[iv p0s, iv p1s, iv 4, iv 1, rv w7, rv w6] [(.ref w6)]) _
        refine XS.aload X3.here hx rfl (hb hby at_49) rfl rfl ?_
        show SF p e below T3 (mkF m 51 #[iv p0s, iv p1s, iv 4, iv 1, rv w7, rv w6] [(.ref w6), (.ref w6)]) _
        refine Jvm.RoadKit.acmp (g := (mkF m 51 #[iv p0s, iv p1s, iv 4, iv 1, rv w7, rv w6] [(.ref w6), (.ref w6)])) X3 hx rfl rfl rfl (pc0 := 51) (pc' := 54) (same := true) rfl (hb hby at_51) rfl (decide_eq_true rfl) (by decide) (by decide) ?_
        show SF p e below T3 (mkF m 54 #[iv p0s, iv p1s, iv 4, iv 1, rv w7, rv w6] []) _
        refine XS.iconst X3.here hx rfl (hb hby at_54) ?_
        show SF p e below T3 (mkF m 55 #[iv p0s, iv p1s, iv 4, iv 1, rv w7, rv w6] [(.int 1)]) _
        refine XS.goto X3.here hx rfl (pc0 := 55) (pc' := 59) rfl (hb hby at_55) (by decide) (by decide) ?_
        show SF p e below T3 (mkF m 59 #[iv p0s, iv p1s, iv 4, iv 1, rv w7, rv w6] [(.int 1)]) _
        exact retN X3 hx (t := .boolean) hre (by simp) (hb hby at_59) hr
      · exact ⟨rfl, N3⟩
  · have pre2 : ∀ t, SF p e below s₁ (mkF m 11 #[iv p0s, iv p1s, iv 5, .unset, .unset, .unset] [(.int (p1s &&& (1 : Int32)))]) t → SF p e below s₁ (mkF m 7 #[iv p0s, iv p1s, .unset, .unset, .unset, .unset] [(.int ((p0s &&& (2147483647 : Int32)) % (7 : Int32)))]) t := fun t k => by
      show SF p e below s₁ (mkF m 7 #[iv p0s, iv p1s, .unset, .unset, .unset, .unset] [(.int ((p0s &&& (2147483647 : Int32)) % (7 : Int32)))]) _
      rw [hc1]
      show SF p e below s₁ (mkF m 7 #[iv p0s, iv p1s, .unset, .unset, .unset, .unset] [(.int 5)]) _
      refine XS.istoreN X0.here hx rfl (hb hby at_7) rfl (l' := #[iv p0s, iv p1s, iv 5, .unset, .unset, .unset]) rfl ?_
      show SF p e below s₁ (mkF m 8 #[iv p0s, iv p1s, iv 5, .unset, .unset, .unset] []) _
      refine XS.iloadN X0.here hx rfl (hb hby at_8) rfl ?_
      show SF p e below s₁ (mkF m 9 #[iv p0s, iv p1s, iv 5, .unset, .unset, .unset] [(.int p1s)]) _
      refine XS.iconst X0.here hx rfl (hb hby at_9) ?_
      show SF p e below s₁ (mkF m 10 #[iv p0s, iv p1s, iv 5, .unset, .unset, .unset] [(.int 1), (.int p1s)]) _
      refine XS.iand X0.here hx rfl (hb hby at_10) rfl ?_
      exact k
    by_cases hc2 : (p1s &&& (1 : Int32)) = (0 : Int32)
    · obtain ⟨_, _, ⟨T1, L1, k1x, n1⟩, -, X1, ⟨Lc1, hQ1, l1, y1, z1⟩, st1⟩ := Jvm.LawKit.callS X0 hx (y := (⟨"com/example/grenze/grenze/PropagationParticipationPinLaw", "pick", "(I)Lcom/example/grenze/grenze/Propagation;"⟩ : MethodName)) hown (mvT hZ (tw hw 1 rfl)) (mvT hZ (tw hw 2 rfl)) (mvT hZ (tw hw 3 rfl)) (mvT hZ (tw hw 4 rfl)) (by decide) (backOf (W := 0) (rm1_26 l Z a0 hw [] w9 h0 n0 Z0 S16 O0) hZ (tw hw 4 rfl) (tw hw 3 rfl) (by decide) (by decide)) (g := (mkF m 21 #[iv p0s, iv p1s, iv 5, iv 0, .unset, .unset] [(.int 5)])) rfl (by rw [hml]; rfl) (argsL := [(.int 5)]) (rest := []) (lenOf pd_0 rfl) rfl (by show 2 * 0 + _ ≤ _; exact Nat.le_of_eq rfl) (hb hby at_21) (fun _ _ => ⟨rfl, e0, (by decide : 0 + 0 ≤ _), (by decide : 0 + 0 ≤ _)⟩)
      dsimp only [Pt.U, Pt.locs, Pt.cells, Pt.slots] at X1 l1 y1 z1 st1 hQ1
      subst l1 y1 z1
      obtain ⟨rfl, N1q, e1⟩ := hQ1
      have N1 := Fr.app N0 N1q
      obtain ⟨_, _, ⟨T2, L2, k2x, n2⟩, -, X2, ⟨Lc2, hQ2, l2, y2, z2⟩, st2⟩ := Jvm.LawKit.callS X1 hx (y := (⟨"com/example/grenze/grenze/PropagationParticipationPinLaw", "withNoneOpen", "(I)Lcom/example/grenze/grenze/Participation;"⟩ : MethodName)) hown (mvT hZ (tw hw 27 rfl)) (mvT hZ (tw hw 28 rfl)) (mvT hZ (tw hw 3 rfl)) (mvT hZ (tw hw 29 rfl)) (by decide) (backOf (W := 0) (rm4_27 l Z a0 hw [] w6 h0 n0 Z0 S10 O0) hZ (tw hw 29 rfl) (tw hw 3 rfl) (by decide) (by decide)) (g := (mkF m 38 #[iv p0s, iv p1s, iv 5, iv 0, rv w9, .unset] [(.int 5)])) rfl (by rw [hml]; rfl) (argsL := [(.int 5)]) (rest := []) (lenOf pd_1 rfl) rfl (by show 2 * 0 + _ ≤ _; exact Nat.le_of_eq rfl) (hb hby at_38) (fun _ _ => ⟨rfl, e1, (by decide : 0 + 0 ≤ _), (by decide : 0 + 0 ≤ _)⟩)
      dsimp only [Pt.U, Pt.locs, Pt.cells, Pt.slots] at X2 l2 y2 z2 st2 hQ2
      subst l2 y2 z2
      obtain ⟨rfl, N2q, e2⟩ := hQ2
      have N2 := Fr.app N1 N2q
      obtain ⟨cq3, kq3, q3a, q3b, q3c⟩ := isOf hZ e2 (E_w9.ext O0.2)
      obtain ⟨_, _, ⟨T3, L3, k3x, n3⟩, -, X3, ⟨Lc3, hQ3, l3, y3, z3⟩, st3⟩ := X2.virtualBack hx (y := (⟨"com/example/grenze/grenze/Propagation", "participation", "(Z)Lcom/example/grenze/grenze/Participation;"⟩ : MethodName)) (z := (⟨"com/example/grenze/grenze/Propagation", "participation", "(Z)Lcom/example/grenze/grenze/Participation;"⟩ : MethodName)) hown (mvT hZ (tw hw 14 rfl)) (mvT hZ (tw hw 15 rfl)) (notFace_of_selects (args := #[]) (mvT hZ (tw hw 17 rfl))) (mvT hZ (tw hw 17 rfl)) (mvT hZ (tw hw 16 rfl)) (by decide) (backOf (W := 0) (rm3_28 l Z a0 hw [] w9 w6 h0 n0 Z0 F_w9_withoutTransaction O0) hZ (tw hw 18 rfl) (tw hw 6 rfl) (by decide) (by decide)) q3a q3c (g := (mkF m 46 #[iv p0s, iv p1s, iv 5, iv 0, rv w9, rv w6] [(.int 0), (.ref w9)])) rfl (by rw [hml]; rfl) (Steps.refl _) (argsL := [(.int 0)]) (rest := []) (lenOf pd_2 rfl) rfl (by show 2 * 0 + _ ≤ _; exact Nat.le_of_eq rfl) (hb hby at_46) (fun _ _ => ⟨rfl, e2, (by decide : 0 + 0 ≤ _), (by decide : 0 + 0 ≤ _)⟩)
      dsimp only [Pt.U, Pt.locs, Pt.cells, Pt.slots] at X3 l3 y3 z3 st3 hQ3
      subst l3 y3 z3
      obtain ⟨rfl, N3q, e3⟩ := hQ3
      have N3 := Fr.app N2 N3q
      obtain ⟨fs, hr, hrun, hended, hW, hsame⟩ := X3.leave (v := some (.int (1 : Int32))) (fun h => by rw [hre] at h; cases h)
      refine ⟨_, _, pre0 _ (pre1 _ (pre2 _ (?_))), hrun, hended, _, _, rfl, ?_, ⟨_, rfl⟩, hW, hsame.mono (by decide) (by decide)⟩
      · show SF p e below s₁ (mkF m 11 #[iv p0s, iv p1s, iv 5, .unset, .unset, .unset] [(.int (p1s &&& (1 : Int32)))]) _
        refine XS.ifYes X0.here hx rfl (pc0 := 11) (pc' := 18) rfl (hb hby at_11) rfl ((if0 _ _).trans (teq hc2).1) (by decide) (by decide) ?_
        show SF p e below s₁ (mkF m 18 #[iv p0s, iv p1s, iv 5, .unset, .unset, .unset] []) _
        refine XS.iconst X0.here hx rfl (hb hby at_18) ?_
        show SF p e below s₁ (mkF m 19 #[iv p0s, iv p1s, iv 5, .unset, .unset, .unset] [(.int 0)]) _
        refine XS.istoreN X0.here hx rfl (hb hby at_19) rfl (l' := #[iv p0s, iv p1s, iv 5, iv 0, .unset, .unset]) rfl ?_
        show SF p e below s₁ (mkF m 20 #[iv p0s, iv p1s, iv 5, iv 0, .unset, .unset] []) _
        refine XS.iloadN X0.here hx rfl (hb hby at_20) rfl ?_
        show SF p e below s₁ (mkF m 21 #[iv p0s, iv p1s, iv 5, iv 0, .unset, .unset] [(.int 5)]) _
        refine st1 _ ?_
        show SF p e below T1 (mkF m 24 #[iv p0s, iv p1s, iv 5, iv 0, .unset, .unset] [(.ref w9)]) _
        refine XS.astore X1.here hx rfl (hb hby at_24) rfl rfl (l' := #[iv p0s, iv p1s, iv 5, iv 0, rv w9, .unset]) rfl ?_
        show SF p e below T1 (mkF m 26 #[iv p0s, iv p1s, iv 5, iv 0, rv w9, .unset] []) _
        refine XS.iloadN X1.here hx rfl (hb hby at_26) rfl ?_
        show SF p e below T1 (mkF m 27 #[iv p0s, iv p1s, iv 5, iv 0, rv w9, .unset] [(.int 0)]) _
        refine XS.ifYes X1.here hx rfl (pc0 := 27) (pc' := 37) rfl (hb hby at_27) rfl ((if0 _ _).trans (teq (by decide : (0 : Int32) = (0 : Int32))).1) (by decide) (by decide) ?_
        show SF p e below T1 (mkF m 37 #[iv p0s, iv p1s, iv 5, iv 0, rv w9, .unset] []) _
        refine XS.iloadN X1.here hx rfl (hb hby at_37) rfl ?_
        show SF p e below T1 (mkF m 38 #[iv p0s, iv p1s, iv 5, iv 0, rv w9, .unset] [(.int 5)]) _
        refine st2 _ ?_
        show SF p e below T2 (mkF m 41 #[iv p0s, iv p1s, iv 5, iv 0, rv w9, .unset] [(.ref w6)]) _
        refine XS.astore X2.here hx rfl (hb hby at_41) rfl rfl (l' := #[iv p0s, iv p1s, iv 5, iv 0, rv w9, rv w6]) rfl ?_
        show SF p e below T2 (mkF m 43 #[iv p0s, iv p1s, iv 5, iv 0, rv w9, rv w6] []) _
        refine XS.aload X2.here hx rfl (hb hby at_43) rfl rfl ?_
        show SF p e below T2 (mkF m 45 #[iv p0s, iv p1s, iv 5, iv 0, rv w9, rv w6] [(.ref w9)]) _
        refine XS.iloadN X2.here hx rfl (hb hby at_45) rfl ?_
        show SF p e below T2 (mkF m 46 #[iv p0s, iv p1s, iv 5, iv 0, rv w9, rv w6] [(.int 0), (.ref w9)]) _
        refine st3.trans ?_
        show SF p e below T3 (mkF m 49 #[iv p0s, iv p1s, iv 5, iv 0, rv w9, rv w6] [(.ref w6)]) _
        refine XS.aload X3.here hx rfl (hb hby at_49) rfl rfl ?_
        show SF p e below T3 (mkF m 51 #[iv p0s, iv p1s, iv 5, iv 0, rv w9, rv w6] [(.ref w6), (.ref w6)]) _
        refine Jvm.RoadKit.acmp (g := (mkF m 51 #[iv p0s, iv p1s, iv 5, iv 0, rv w9, rv w6] [(.ref w6), (.ref w6)])) X3 hx rfl rfl rfl (pc0 := 51) (pc' := 54) (same := true) rfl (hb hby at_51) rfl (decide_eq_true rfl) (by decide) (by decide) ?_
        show SF p e below T3 (mkF m 54 #[iv p0s, iv p1s, iv 5, iv 0, rv w9, rv w6] []) _
        refine XS.iconst X3.here hx rfl (hb hby at_54) ?_
        show SF p e below T3 (mkF m 55 #[iv p0s, iv p1s, iv 5, iv 0, rv w9, rv w6] [(.int 1)]) _
        refine XS.goto X3.here hx rfl (pc0 := 55) (pc' := 59) rfl (hb hby at_55) (by decide) (by decide) ?_
        show SF p e below T3 (mkF m 59 #[iv p0s, iv p1s, iv 5, iv 0, rv w9, rv w6] [(.int 1)]) _
        exact retN X3 hx (t := .boolean) hre (by simp) (hb hby at_59) hr
      · exact ⟨rfl, N3⟩
    · obtain ⟨_, _, ⟨T1, L1, k1x, n1⟩, -, X1, ⟨Lc1, hQ1, l1, y1, z1⟩, st1⟩ := Jvm.LawKit.callS X0 hx (y := (⟨"com/example/grenze/grenze/PropagationParticipationPinLaw", "pick", "(I)Lcom/example/grenze/grenze/Propagation;"⟩ : MethodName)) hown (mvT hZ (tw hw 1 rfl)) (mvT hZ (tw hw 2 rfl)) (mvT hZ (tw hw 3 rfl)) (mvT hZ (tw hw 4 rfl)) (by decide) (backOf (W := 0) (rm1_26 l Z a0 hw [] w9 h0 n0 Z0 S16 O0) hZ (tw hw 4 rfl) (tw hw 3 rfl) (by decide) (by decide)) (g := (mkF m 21 #[iv p0s, iv p1s, iv 5, iv 1, .unset, .unset] [(.int 5)])) rfl (by rw [hml]; rfl) (argsL := [(.int 5)]) (rest := []) (lenOf pd_0 rfl) rfl (by show 2 * 0 + _ ≤ _; exact Nat.le_of_eq rfl) (hb hby at_21) (fun _ _ => ⟨rfl, e0, (by decide : 0 + 0 ≤ _), (by decide : 0 + 0 ≤ _)⟩)
      dsimp only [Pt.U, Pt.locs, Pt.cells, Pt.slots] at X1 l1 y1 z1 st1 hQ1
      subst l1 y1 z1
      obtain ⟨rfl, N1q, e1⟩ := hQ1
      have N1 := Fr.app N0 N1q
      obtain ⟨_, _, ⟨T2, L2, k2x, n2⟩, -, X2, ⟨Lc2, hQ2, l2, y2, z2⟩, st2⟩ := Jvm.LawKit.callS X1 hx (y := (⟨"com/example/grenze/grenze/PropagationParticipationPinLaw", "withOpen", "(I)Lcom/example/grenze/grenze/Participation;"⟩ : MethodName)) hown (mvT hZ (tw hw 8 rfl)) (mvT hZ (tw hw 9 rfl)) (mvT hZ (tw hw 3 rfl)) (mvT hZ (tw hw 10 rfl)) (by decide) (backOf (W := 0) (rm2_29 l Z a0 hw [] w10 h0 n0 Z0 S18 O0) hZ (tw hw 10 rfl) (tw hw 3 rfl) (by decide) (by decide)) (g := (mkF m 31 #[iv p0s, iv p1s, iv 5, iv 1, rv w9, .unset] [(.int 5)])) rfl (by rw [hml]; rfl) (argsL := [(.int 5)]) (rest := []) (lenOf pd_1 rfl) rfl (by show 2 * 0 + _ ≤ _; exact Nat.le_of_eq rfl) (hb hby at_31) (fun _ _ => ⟨rfl, e1, (by decide : 0 + 0 ≤ _), (by decide : 0 + 0 ≤ _)⟩)
      dsimp only [Pt.U, Pt.locs, Pt.cells, Pt.slots] at X2 l2 y2 z2 st2 hQ2
      subst l2 y2 z2
      obtain ⟨rfl, N2q, e2⟩ := hQ2
      have N2 := Fr.app N1 N2q
      obtain ⟨cq3, kq3, q3a, q3b, q3c⟩ := isOf hZ e2 (E_w9.ext O0.2)
      obtain ⟨_, _, ⟨T3, L3, k3x, n3⟩, -, X3, ⟨Lc3, hQ3, l3, y3, z3⟩, st3⟩ := X2.virtualBack hx (y := (⟨"com/example/grenze/grenze/Propagation", "participation", "(Z)Lcom/example/grenze/grenze/Participation;"⟩ : MethodName)) (z := (⟨"com/example/grenze/grenze/Propagation", "participation", "(Z)Lcom/example/grenze/grenze/Participation;"⟩ : MethodName)) hown (mvT hZ (tw hw 14 rfl)) (mvT hZ (tw hw 15 rfl)) (notFace_of_selects (args := #[]) (mvT hZ (tw hw 17 rfl))) (mvT hZ (tw hw 17 rfl)) (mvT hZ (tw hw 16 rfl)) (by decide) (backOf (W := 0) (rm3_30 l Z a0 hw [] w9 w10 h0 n0 Z0 F_w9_withTransaction O0) hZ (tw hw 18 rfl) (tw hw 6 rfl) (by decide) (by decide)) q3a q3c (g := (mkF m 46 #[iv p0s, iv p1s, iv 5, iv 1, rv w9, rv w10] [(.int 1), (.ref w9)])) rfl (by rw [hml]; rfl) (Steps.refl _) (argsL := [(.int 1)]) (rest := []) (lenOf pd_2 rfl) rfl (by show 2 * 0 + _ ≤ _; exact Nat.le_of_eq rfl) (hb hby at_46) (fun _ _ => ⟨rfl, e2, (by decide : 0 + 0 ≤ _), (by decide : 0 + 0 ≤ _)⟩)
      dsimp only [Pt.U, Pt.locs, Pt.cells, Pt.slots] at X3 l3 y3 z3 st3 hQ3
      subst l3 y3 z3
      obtain ⟨rfl, N3q, e3⟩ := hQ3
      have N3 := Fr.app N2 N3q
      obtain ⟨fs, hr, hrun, hended, hW, hsame⟩ := X3.leave (v := some (.int (1 : Int32))) (fun h => by rw [hre] at h; cases h)
      refine ⟨_, _, pre0 _ (pre1 _ (pre2 _ (?_))), hrun, hended, _, _, rfl, ?_, ⟨_, rfl⟩, hW, hsame.mono (by decide) (by decide)⟩
      · show SF p e below s₁ (mkF m 11 #[iv p0s, iv p1s, iv 5, .unset, .unset, .unset] [(.int (p1s &&& (1 : Int32)))]) _
        refine XS.ifNo X0.here hx rfl (hb hby at_11) rfl ((if0 _ _).trans (feq hc2).1) ?_
        show SF p e below s₁ (mkF m 14 #[iv p0s, iv p1s, iv 5, .unset, .unset, .unset] []) _
        refine XS.iconst X0.here hx rfl (hb hby at_14) ?_
        show SF p e below s₁ (mkF m 15 #[iv p0s, iv p1s, iv 5, .unset, .unset, .unset] [(.int 1)]) _
        refine XS.goto X0.here hx rfl (pc0 := 15) (pc' := 19) rfl (hb hby at_15) (by decide) (by decide) ?_
        show SF p e below s₁ (mkF m 19 #[iv p0s, iv p1s, iv 5, .unset, .unset, .unset] [(.int 1)]) _
        refine XS.istoreN X0.here hx rfl (hb hby at_19) rfl (l' := #[iv p0s, iv p1s, iv 5, iv 1, .unset, .unset]) rfl ?_
        show SF p e below s₁ (mkF m 20 #[iv p0s, iv p1s, iv 5, iv 1, .unset, .unset] []) _
        refine XS.iloadN X0.here hx rfl (hb hby at_20) rfl ?_
        show SF p e below s₁ (mkF m 21 #[iv p0s, iv p1s, iv 5, iv 1, .unset, .unset] [(.int 5)]) _
        refine st1 _ ?_
        show SF p e below T1 (mkF m 24 #[iv p0s, iv p1s, iv 5, iv 1, .unset, .unset] [(.ref w9)]) _
        refine XS.astore X1.here hx rfl (hb hby at_24) rfl rfl (l' := #[iv p0s, iv p1s, iv 5, iv 1, rv w9, .unset]) rfl ?_
        show SF p e below T1 (mkF m 26 #[iv p0s, iv p1s, iv 5, iv 1, rv w9, .unset] []) _
        refine XS.iloadN X1.here hx rfl (hb hby at_26) rfl ?_
        show SF p e below T1 (mkF m 27 #[iv p0s, iv p1s, iv 5, iv 1, rv w9, .unset] [(.int 1)]) _
        refine XS.ifNo X1.here hx rfl (hb hby at_27) rfl ((if0 _ _).trans (feq (by decide : ¬ ((1 : Int32) = (0 : Int32)))).1) ?_
        show SF p e below T1 (mkF m 30 #[iv p0s, iv p1s, iv 5, iv 1, rv w9, .unset] []) _
        refine XS.iloadN X1.here hx rfl (hb hby at_30) rfl ?_
        show SF p e below T1 (mkF m 31 #[iv p0s, iv p1s, iv 5, iv 1, rv w9, .unset] [(.int 5)]) _
        refine st2 _ ?_
        show SF p e below T2 (mkF m 34 #[iv p0s, iv p1s, iv 5, iv 1, rv w9, .unset] [(.ref w10)]) _
        refine XS.goto X2.here hx rfl (pc0 := 34) (pc' := 41) rfl (hb hby at_34) (by decide) (by decide) ?_
        show SF p e below T2 (mkF m 41 #[iv p0s, iv p1s, iv 5, iv 1, rv w9, .unset] [(.ref w10)]) _
        refine XS.astore X2.here hx rfl (hb hby at_41) rfl rfl (l' := #[iv p0s, iv p1s, iv 5, iv 1, rv w9, rv w10]) rfl ?_
        show SF p e below T2 (mkF m 43 #[iv p0s, iv p1s, iv 5, iv 1, rv w9, rv w10] []) _
        refine XS.aload X2.here hx rfl (hb hby at_43) rfl rfl ?_
        show SF p e below T2 (mkF m 45 #[iv p0s, iv p1s, iv 5, iv 1, rv w9, rv w10] [(.ref w9)]) _
        refine XS.iloadN X2.here hx rfl (hb hby at_45) rfl ?_
        show SF p e below T2 (mkF m 46 #[iv p0s, iv p1s, iv 5, iv 1, rv w9, rv w10] [(.int 1), (.ref w9)]) _
        refine st3.trans ?_
        show SF p e below T3 (mkF m 49 #[iv p0s, iv p1s, iv 5, iv 1, rv w9, rv w10] [(.ref w10)]) _
        refine XS.aload X3.here hx rfl (hb hby at_49) rfl rfl ?_
        show SF p e below T3 (mkF m 51 #[iv p0s, iv p1s, iv 5, iv 1, rv w9, rv w10] [(.ref w10), (.ref w10)]) _
        refine Jvm.RoadKit.acmp (g := (mkF m 51 #[iv p0s, iv p1s, iv 5, iv 1, rv w9, rv w10] [(.ref w10), (.ref w10)])) X3 hx rfl rfl rfl (pc0 := 51) (pc' := 54) (same := true) rfl (hb hby at_51) rfl (decide_eq_true rfl) (by decide) (by decide) ?_
        show SF p e below T3 (mkF m 54 #[iv p0s, iv p1s, iv 5, iv 1, rv w9, rv w10] []) _
        refine XS.iconst X3.here hx rfl (hb hby at_54) ?_
        show SF p e below T3 (mkF m 55 #[iv p0s, iv p1s, iv 5, iv 1, rv w9, rv w10] [(.int 1)]) _
        refine XS.goto X3.here hx rfl (pc0 := 55) (pc' := 59) rfl (hb hby at_55) (by decide) (by decide) ?_
        show SF p e below T3 (mkF m 59 #[iv p0s, iv p1s, iv 5, iv 1, rv w9, rv w10] [(.int 1)]) _
        exact retN X3 hx (t := .boolean) hre (by simp) (hb hby at_59) hr
      · exact ⟨rfl, N3⟩
  · have pre2 : ∀ t, SF p e below s₁ (mkF m 11 #[iv p0s, iv p1s, iv 6, .unset, .unset, .unset] [(.int (p1s &&& (1 : Int32)))]) t → SF p e below s₁ (mkF m 7 #[iv p0s, iv p1s, .unset, .unset, .unset, .unset] [(.int ((p0s &&& (2147483647 : Int32)) % (7 : Int32)))]) t := fun t k => by
      show SF p e below s₁ (mkF m 7 #[iv p0s, iv p1s, .unset, .unset, .unset, .unset] [(.int ((p0s &&& (2147483647 : Int32)) % (7 : Int32)))]) _
      rw [hc1]
      show SF p e below s₁ (mkF m 7 #[iv p0s, iv p1s, .unset, .unset, .unset, .unset] [(.int 6)]) _
      refine XS.istoreN X0.here hx rfl (hb hby at_7) rfl (l' := #[iv p0s, iv p1s, iv 6, .unset, .unset, .unset]) rfl ?_
      show SF p e below s₁ (mkF m 8 #[iv p0s, iv p1s, iv 6, .unset, .unset, .unset] []) _
      refine XS.iloadN X0.here hx rfl (hb hby at_8) rfl ?_
      show SF p e below s₁ (mkF m 9 #[iv p0s, iv p1s, iv 6, .unset, .unset, .unset] [(.int p1s)]) _
      refine XS.iconst X0.here hx rfl (hb hby at_9) ?_
      show SF p e below s₁ (mkF m 10 #[iv p0s, iv p1s, iv 6, .unset, .unset, .unset] [(.int 1), (.int p1s)]) _
      refine XS.iand X0.here hx rfl (hb hby at_10) rfl ?_
      exact k
    by_cases hc2 : (p1s &&& (1 : Int32)) = (0 : Int32)
    · obtain ⟨_, _, ⟨T1, L1, k1x, n1⟩, -, X1, ⟨Lc1, hQ1, l1, y1, z1⟩, st1⟩ := Jvm.LawKit.callS X0 hx (y := (⟨"com/example/grenze/grenze/PropagationParticipationPinLaw", "pick", "(I)Lcom/example/grenze/grenze/Propagation;"⟩ : MethodName)) hown (mvT hZ (tw hw 1 rfl)) (mvT hZ (tw hw 2 rfl)) (mvT hZ (tw hw 3 rfl)) (mvT hZ (tw hw 4 rfl)) (by decide) (backOf (W := 0) (rm1_31 l Z a0 hw [] w8 h0 n0 Z0 S14 O0) hZ (tw hw 4 rfl) (tw hw 3 rfl) (by decide) (by decide)) (g := (mkF m 21 #[iv p0s, iv p1s, iv 6, iv 0, .unset, .unset] [(.int 6)])) rfl (by rw [hml]; rfl) (argsL := [(.int 6)]) (rest := []) (lenOf pd_0 rfl) rfl (by show 2 * 0 + _ ≤ _; exact Nat.le_of_eq rfl) (hb hby at_21) (fun _ _ => ⟨rfl, e0, (by decide : 0 + 0 ≤ _), (by decide : 0 + 0 ≤ _)⟩)
      dsimp only [Pt.U, Pt.locs, Pt.cells, Pt.slots] at X1 l1 y1 z1 st1 hQ1
      subst l1 y1 z1
      obtain ⟨rfl, N1q, e1⟩ := hQ1
      have N1 := Fr.app N0 N1q
      obtain ⟨_, _, ⟨T2, L2, k2x, n2⟩, -, X2, ⟨Lc2, hQ2, l2, y2, z2⟩, st2⟩ := Jvm.LawKit.callS X1 hx (y := (⟨"com/example/grenze/grenze/PropagationParticipationPinLaw", "withNoneOpen", "(I)Lcom/example/grenze/grenze/Participation;"⟩ : MethodName)) hown (mvT hZ (tw hw 27 rfl)) (mvT hZ (tw hw 28 rfl)) (mvT hZ (tw hw 3 rfl)) (mvT hZ (tw hw 29 rfl)) (by decide) (backOf (W := 0) (rm4_32 l Z a0 hw [] w4 h0 n0 Z0 S6 O0) hZ (tw hw 29 rfl) (tw hw 3 rfl) (by decide) (by decide)) (g := (mkF m 38 #[iv p0s, iv p1s, iv 6, iv 0, rv w8, .unset] [(.int 6)])) rfl (by rw [hml]; rfl) (argsL := [(.int 6)]) (rest := []) (lenOf pd_1 rfl) rfl (by show 2 * 0 + _ ≤ _; exact Nat.le_of_eq rfl) (hb hby at_38) (fun _ _ => ⟨rfl, e1, (by decide : 0 + 0 ≤ _), (by decide : 0 + 0 ≤ _)⟩)
      dsimp only [Pt.U, Pt.locs, Pt.cells, Pt.slots] at X2 l2 y2 z2 st2 hQ2
      subst l2 y2 z2
      obtain ⟨rfl, N2q, e2⟩ := hQ2
      have N2 := Fr.app N1 N2q
      obtain ⟨cq3, kq3, q3a, q3b, q3c⟩ := isOf hZ e2 (E_w8.ext O0.2)
      obtain ⟨_, _, ⟨T3, L3, k3x, n3⟩, -, X3, ⟨Lc3, hQ3, l3, y3, z3⟩, st3⟩ := X2.virtualBack hx (y := (⟨"com/example/grenze/grenze/Propagation", "participation", "(Z)Lcom/example/grenze/grenze/Participation;"⟩ : MethodName)) (z := (⟨"com/example/grenze/grenze/Propagation", "participation", "(Z)Lcom/example/grenze/grenze/Participation;"⟩ : MethodName)) hown (mvT hZ (tw hw 14 rfl)) (mvT hZ (tw hw 15 rfl)) (notFace_of_selects (args := #[]) (mvT hZ (tw hw 17 rfl))) (mvT hZ (tw hw 17 rfl)) (mvT hZ (tw hw 16 rfl)) (by decide) (backOf (W := 0) (rm3_33 l Z a0 hw [] w8 w4 h0 n0 Z0 F_w8_withoutTransaction O0) hZ (tw hw 18 rfl) (tw hw 6 rfl) (by decide) (by decide)) q3a q3c (g := (mkF m 46 #[iv p0s, iv p1s, iv 6, iv 0, rv w8, rv w4] [(.int 0), (.ref w8)])) rfl (by rw [hml]; rfl) (Steps.refl _) (argsL := [(.int 0)]) (rest := []) (lenOf pd_2 rfl) rfl (by show 2 * 0 + _ ≤ _; exact Nat.le_of_eq rfl) (hb hby at_46) (fun _ _ => ⟨rfl, e2, (by decide : 0 + 0 ≤ _), (by decide : 0 + 0 ≤ _)⟩)
      dsimp only [Pt.U, Pt.locs, Pt.cells, Pt.slots] at X3 l3 y3 z3 st3 hQ3
      subst l3 y3 z3
      obtain ⟨rfl, N3q, e3⟩ := hQ3
      have N3 := Fr.app N2 N3q
      obtain ⟨fs, hr, hrun, hended, hW, hsame⟩ := X3.leave (v := some (.int (1 : Int32))) (fun h => by rw [hre] at h; cases h)
      refine ⟨_, _, pre0 _ (pre1 _ (pre2 _ (?_))), hrun, hended, _, _, rfl, ?_, ⟨_, rfl⟩, hW, hsame.mono (by decide) (by decide)⟩
      · show SF p e below s₁ (mkF m 11 #[iv p0s, iv p1s, iv 6, .unset, .unset, .unset] [(.int (p1s &&& (1 : Int32)))]) _
        refine XS.ifYes X0.here hx rfl (pc0 := 11) (pc' := 18) rfl (hb hby at_11) rfl ((if0 _ _).trans (teq hc2).1) (by decide) (by decide) ?_
        show SF p e below s₁ (mkF m 18 #[iv p0s, iv p1s, iv 6, .unset, .unset, .unset] []) _
        refine XS.iconst X0.here hx rfl (hb hby at_18) ?_
        show SF p e below s₁ (mkF m 19 #[iv p0s, iv p1s, iv 6, .unset, .unset, .unset] [(.int 0)]) _
        refine XS.istoreN X0.here hx rfl (hb hby at_19) rfl (l' := #[iv p0s, iv p1s, iv 6, iv 0, .unset, .unset]) rfl ?_
        show SF p e below s₁ (mkF m 20 #[iv p0s, iv p1s, iv 6, iv 0, .unset, .unset] []) _
        refine XS.iloadN X0.here hx rfl (hb hby at_20) rfl ?_
        show SF p e below s₁ (mkF m 21 #[iv p0s, iv p1s, iv 6, iv 0, .unset, .unset] [(.int 6)]) _
        refine st1 _ ?_
        show SF p e below T1 (mkF m 24 #[iv p0s, iv p1s, iv 6, iv 0, .unset, .unset] [(.ref w8)]) _
        refine XS.astore X1.here hx rfl (hb hby at_24) rfl rfl (l' := #[iv p0s, iv p1s, iv 6, iv 0, rv w8, .unset]) rfl ?_
        show SF p e below T1 (mkF m 26 #[iv p0s, iv p1s, iv 6, iv 0, rv w8, .unset] []) _
        refine XS.iloadN X1.here hx rfl (hb hby at_26) rfl ?_
        show SF p e below T1 (mkF m 27 #[iv p0s, iv p1s, iv 6, iv 0, rv w8, .unset] [(.int 0)]) _
        refine XS.ifYes X1.here hx rfl (pc0 := 27) (pc' := 37) rfl (hb hby at_27) rfl ((if0 _ _).trans (teq (by decide : (0 : Int32) = (0 : Int32))).1) (by decide) (by decide) ?_
        show SF p e below T1 (mkF m 37 #[iv p0s, iv p1s, iv 6, iv 0, rv w8, .unset] []) _
        refine XS.iloadN X1.here hx rfl (hb hby at_37) rfl ?_
        show SF p e below T1 (mkF m 38 #[iv p0s, iv p1s, iv 6, iv 0, rv w8, .unset] [(.int 6)]) _
        refine st2 _ ?_
        show SF p e below T2 (mkF m 41 #[iv p0s, iv p1s, iv 6, iv 0, rv w8, .unset] [(.ref w4)]) _
        refine XS.astore X2.here hx rfl (hb hby at_41) rfl rfl (l' := #[iv p0s, iv p1s, iv 6, iv 0, rv w8, rv w4]) rfl ?_
        show SF p e below T2 (mkF m 43 #[iv p0s, iv p1s, iv 6, iv 0, rv w8, rv w4] []) _
        refine XS.aload X2.here hx rfl (hb hby at_43) rfl rfl ?_
        show SF p e below T2 (mkF m 45 #[iv p0s, iv p1s, iv 6, iv 0, rv w8, rv w4] [(.ref w8)]) _
        refine XS.iloadN X2.here hx rfl (hb hby at_45) rfl ?_
        show SF p e below T2 (mkF m 46 #[iv p0s, iv p1s, iv 6, iv 0, rv w8, rv w4] [(.int 0), (.ref w8)]) _
        refine st3.trans ?_
        show SF p e below T3 (mkF m 49 #[iv p0s, iv p1s, iv 6, iv 0, rv w8, rv w4] [(.ref w4)]) _
        refine XS.aload X3.here hx rfl (hb hby at_49) rfl rfl ?_
        show SF p e below T3 (mkF m 51 #[iv p0s, iv p1s, iv 6, iv 0, rv w8, rv w4] [(.ref w4), (.ref w4)]) _
        refine Jvm.RoadKit.acmp (g := (mkF m 51 #[iv p0s, iv p1s, iv 6, iv 0, rv w8, rv w4] [(.ref w4), (.ref w4)])) X3 hx rfl rfl rfl (pc0 := 51) (pc' := 54) (same := true) rfl (hb hby at_51) rfl (decide_eq_true rfl) (by decide) (by decide) ?_
        show SF p e below T3 (mkF m 54 #[iv p0s, iv p1s, iv 6, iv 0, rv w8, rv w4] []) _
        refine XS.iconst X3.here hx rfl (hb hby at_54) ?_
        show SF p e below T3 (mkF m 55 #[iv p0s, iv p1s, iv 6, iv 0, rv w8, rv w4] [(.int 1)]) _
        refine XS.goto X3.here hx rfl (pc0 := 55) (pc' := 59) rfl (hb hby at_55) (by decide) (by decide) ?_
        show SF p e below T3 (mkF m 59 #[iv p0s, iv p1s, iv 6, iv 0, rv w8, rv w4] [(.int 1)]) _
        exact retN X3 hx (t := .boolean) hre (by simp) (hb hby at_59) hr
      · exact ⟨rfl, N3⟩
    · obtain ⟨_, _, ⟨T1, L1, k1x, n1⟩, -, X1, ⟨Lc1, hQ1, l1, y1, z1⟩, st1⟩ := Jvm.LawKit.callS X0 hx (y := (⟨"com/example/grenze/grenze/PropagationParticipationPinLaw", "pick", "(I)Lcom/example/grenze/grenze/Propagation;"⟩ : MethodName)) hown (mvT hZ (tw hw 1 rfl)) (mvT hZ (tw hw 2 rfl)) (mvT hZ (tw hw 3 rfl)) (mvT hZ (tw hw 4 rfl)) (by decide) (backOf (W := 0) (rm1_31 l Z a0 hw [] w8 h0 n0 Z0 S14 O0) hZ (tw hw 4 rfl) (tw hw 3 rfl) (by decide) (by decide)) (g := (mkF m 21 #[iv p0s, iv p1s, iv 6, iv 1, .unset, .unset] [(.int 6)])) rfl (by rw [hml]; rfl) (argsL := [(.int 6)]) (rest := []) (lenOf pd_0 rfl) rfl (by show 2 * 0 + _ ≤ _; exact Nat.le_of_eq rfl) (hb hby at_21) (fun _ _ => ⟨rfl, e0, (by decide : 0 + 0 ≤ _), (by decide : 0 + 0 ≤ _)⟩)
      dsimp only [Pt.U, Pt.locs, Pt.cells, Pt.slots] at X1 l1 y1 z1 st1 hQ1
      subst l1 y1 z1
      obtain ⟨rfl, N1q, e1⟩ := hQ1
      have N1 := Fr.app N0 N1q
      obtain ⟨_, _, ⟨T2, L2, k2x, n2⟩, -, X2, ⟨Lc2, hQ2, l2, y2, z2⟩, st2⟩ := Jvm.LawKit.callS X1 hx (y := (⟨"com/example/grenze/grenze/PropagationParticipationPinLaw", "withOpen", "(I)Lcom/example/grenze/grenze/Participation;"⟩ : MethodName)) hown (mvT hZ (tw hw 8 rfl)) (mvT hZ (tw hw 9 rfl)) (mvT hZ (tw hw 3 rfl)) (mvT hZ (tw hw 10 rfl)) (by decide) (backOf (W := 0) (rm2_34 l Z a0 hw [] w12 h0 n0 Z0 S22 O0) hZ (tw hw 10 rfl) (tw hw 3 rfl) (by decide) (by decide)) (g := (mkF m 31 #[iv p0s, iv p1s, iv 6, iv 1, rv w8, .unset] [(.int 6)])) rfl (by rw [hml]; rfl) (argsL := [(.int 6)]) (rest := []) (lenOf pd_1 rfl) rfl (by show 2 * 0 + _ ≤ _; exact Nat.le_of_eq rfl) (hb hby at_31) (fun _ _ => ⟨rfl, e1, (by decide : 0 + 0 ≤ _), (by decide : 0 + 0 ≤ _)⟩)
      dsimp only [Pt.U, Pt.locs, Pt.cells, Pt.slots] at X2 l2 y2 z2 st2 hQ2
      subst l2 y2 z2
      obtain ⟨rfl, N2q, e2⟩ := hQ2
      have N2 := Fr.app N1 N2q
      obtain ⟨cq3, kq3, q3a, q3b, q3c⟩ := isOf hZ e2 (E_w8.ext O0.2)
      obtain ⟨_, _, ⟨T3, L3, k3x, n3⟩, -, X3, ⟨Lc3, hQ3, l3, y3, z3⟩, st3⟩ := X2.virtualBack hx (y := (⟨"com/example/grenze/grenze/Propagation", "participation", "(Z)Lcom/example/grenze/grenze/Participation;"⟩ : MethodName)) (z := (⟨"com/example/grenze/grenze/Propagation", "participation", "(Z)Lcom/example/grenze/grenze/Participation;"⟩ : MethodName)) hown (mvT hZ (tw hw 14 rfl)) (mvT hZ (tw hw 15 rfl)) (notFace_of_selects (args := #[]) (mvT hZ (tw hw 17 rfl))) (mvT hZ (tw hw 17 rfl)) (mvT hZ (tw hw 16 rfl)) (by decide) (backOf (W := 0) (rm3_35 l Z a0 hw [] w8 w12 h0 n0 Z0 F_w8_withTransaction O0) hZ (tw hw 18 rfl) (tw hw 6 rfl) (by decide) (by decide)) q3a q3c (g := (mkF m 46 #[iv p0s, iv p1s, iv 6, iv 1, rv w8, rv w12] [(.int 1), (.ref w8)])) rfl (by rw [hml]; rfl) (Steps.refl _) (argsL := [(.int 1)]) (rest := []) (lenOf pd_2 rfl) rfl (by show 2 * 0 + _ ≤ _; exact Nat.le_of_eq rfl) (hb hby at_46) (fun _ _ => ⟨rfl, e2, (by decide : 0 + 0 ≤ _), (by decide : 0 + 0 ≤ _)⟩)
      dsimp only [Pt.U, Pt.locs, Pt.cells, Pt.slots] at X3 l3 y3 z3 st3 hQ3
      subst l3 y3 z3
      obtain ⟨rfl, N3q, e3⟩ := hQ3
      have N3 := Fr.app N2 N3q
      obtain ⟨fs, hr, hrun, hended, hW, hsame⟩ := X3.leave (v := some (.int (1 : Int32))) (fun h => by rw [hre] at h; cases h)
      refine ⟨_, _, pre0 _ (pre1 _ (pre2 _ (?_))), hrun, hended, _, _, rfl, ?_, ⟨_, rfl⟩, hW, hsame.mono (by decide) (by decide)⟩
      · show SF p e below s₁ (mkF m 11 #[iv p0s, iv p1s, iv 6, .unset, .unset, .unset] [(.int (p1s &&& (1 : Int32)))]) _
        refine XS.ifNo X0.here hx rfl (hb hby at_11) rfl ((if0 _ _).trans (feq hc2).1) ?_
        show SF p e below s₁ (mkF m 14 #[iv p0s, iv p1s, iv 6, .unset, .unset, .unset] []) _
        refine XS.iconst X0.here hx rfl (hb hby at_14) ?_
        show SF p e below s₁ (mkF m 15 #[iv p0s, iv p1s, iv 6, .unset, .unset, .unset] [(.int 1)]) _
        refine XS.goto X0.here hx rfl (pc0 := 15) (pc' := 19) rfl (hb hby at_15) (by decide) (by decide) ?_
        show SF p e below s₁ (mkF m 19 #[iv p0s, iv p1s, iv 6, .unset, .unset, .unset] [(.int 1)]) _
        refine XS.istoreN X0.here hx rfl (hb hby at_19) rfl (l' := #[iv p0s, iv p1s, iv 6, iv 1, .unset, .unset]) rfl ?_
        show SF p e below s₁ (mkF m 20 #[iv p0s, iv p1s, iv 6, iv 1, .unset, .unset] []) _
        refine XS.iloadN X0.here hx rfl (hb hby at_20) rfl ?_
        show SF p e below s₁ (mkF m 21 #[iv p0s, iv p1s, iv 6, iv 1, .unset, .unset] [(.int 6)]) _
        refine st1 _ ?_
        show SF p e below T1 (mkF m 24 #[iv p0s, iv p1s, iv 6, iv 1, .unset, .unset] [(.ref w8)]) _
        refine XS.astore X1.here hx rfl (hb hby at_24) rfl rfl (l' := #[iv p0s, iv p1s, iv 6, iv 1, rv w8, .unset]) rfl ?_
        show SF p e below T1 (mkF m 26 #[iv p0s, iv p1s, iv 6, iv 1, rv w8, .unset] []) _
        refine XS.iloadN X1.here hx rfl (hb hby at_26) rfl ?_
        show SF p e below T1 (mkF m 27 #[iv p0s, iv p1s, iv 6, iv 1, rv w8, .unset] [(.int 1)]) _
        refine XS.ifNo X1.here hx rfl (hb hby at_27) rfl ((if0 _ _).trans (feq (by decide : ¬ ((1 : Int32) = (0 : Int32)))).1) ?_
        show SF p e below T1 (mkF m 30 #[iv p0s, iv p1s, iv 6, iv 1, rv w8, .unset] []) _
        refine XS.iloadN X1.here hx rfl (hb hby at_30) rfl ?_
        show SF p e below T1 (mkF m 31 #[iv p0s, iv p1s, iv 6, iv 1, rv w8, .unset] [(.int 6)]) _
        refine st2 _ ?_
        show SF p e below T2 (mkF m 34 #[iv p0s, iv p1s, iv 6, iv 1, rv w8, .unset] [(.ref w12)]) _
        refine XS.goto X2.here hx rfl (pc0 := 34) (pc' := 41) rfl (hb hby at_34) (by decide) (by decide) ?_
        show SF p e below T2 (mkF m 41 #[iv p0s, iv p1s, iv 6, iv 1, rv w8, .unset] [(.ref w12)]) _
        refine XS.astore X2.here hx rfl (hb hby at_41) rfl rfl (l' := #[iv p0s, iv p1s, iv 6, iv 1, rv w8, rv w12]) rfl ?_
        show SF p e below T2 (mkF m 43 #[iv p0s, iv p1s, iv 6, iv 1, rv w8, rv w12] []) _
        refine XS.aload X2.here hx rfl (hb hby at_43) rfl rfl ?_
        show SF p e below T2 (mkF m 45 #[iv p0s, iv p1s, iv 6, iv 1, rv w8, rv w12] [(.ref w8)]) _
        refine XS.iloadN X2.here hx rfl (hb hby at_45) rfl ?_
        show SF p e below T2 (mkF m 46 #[iv p0s, iv p1s, iv 6, iv 1, rv w8, rv w12] [(.int 1), (.ref w8)]) _
        refine st3.trans ?_
        show SF p e below T3 (mkF m 49 #[iv p0s, iv p1s, iv 6, iv 1, rv w8, rv w12] [(.ref w12)]) _
        refine XS.aload X3.here hx rfl (hb hby at_49) rfl rfl ?_
        show SF p e below T3 (mkF m 51 #[iv p0s, iv p1s, iv 6, iv 1, rv w8, rv w12] [(.ref w12), (.ref w12)]) _
        refine Jvm.RoadKit.acmp (g := (mkF m 51 #[iv p0s, iv p1s, iv 6, iv 1, rv w8, rv w12] [(.ref w12), (.ref w12)])) X3 hx rfl rfl rfl (pc0 := 51) (pc' := 54) (same := true) rfl (hb hby at_51) rfl (decide_eq_true rfl) (by decide) (by decide) ?_
        show SF p e below T3 (mkF m 54 #[iv p0s, iv p1s, iv 6, iv 1, rv w8, rv w12] []) _
        refine XS.iconst X3.here hx rfl (hb hby at_54) ?_
        show SF p e below T3 (mkF m 55 #[iv p0s, iv p1s, iv 6, iv 1, rv w8, rv w12] [(.int 1)]) _
        refine XS.goto X3.here hx rfl (pc0 := 55) (pc' := 59) rfl (hb hby at_55) (by decide) (by decide) ?_
        show SF p e below T3 (mkF m 59 #[iv p0s, iv p1s, iv 6, iv 1, rv w8, rv w12] [(.int 1)]) _
        exact retN X3 hx (t := .boolean) hre (by simp) (hb hby at_59) hr
      · exact ⟨rfl, N3⟩
set_option maxRecDepth 65536 in
set_option maxHeartbeats 40000000 in
theorem comes_1 {Post : Tables → Env → Array Value → State → Outcome → State → Prop} (hpost : ∀ tb e args s v u, (limb_1_1.after args s (.returned v) u = true ∧ limb_1_2.after args s (.returned v) u = true ∧ True) → FrameEnd s (.returned v) u (Jvm.fieldLocs frame_1_writes args s ++ Jvm.arrayLocs frame_1_arrays args s ++ Jvm.staticLocs frame_1_statics s) 0 0 → Post tb e args s (.returned v) u) :
    ArmFor flags0 classFile x code maxLocals ret World_1 tables_1 room_1 Calls_1 rest_1 Pre_1 Post := by
  intro l hfl _ _ p e ha hc hk s m args below hf hA hF happ hP
  obtain ⟨hcalls, hrest, hpre⟩ := hP
  obtain ⟨-, -, -, hnamed, -, -, -, hat⟩ := (Spec.applies_iff hf).mp happ
  obtain ⟨hg, hn⟩ := and_e (Cond.before_iff.mp (show (Jvm.Cond.and given_1 narrow_1).before args s = true from hpre))
  obtain ⟨gv0, gr0⟩ := and_e hg
  obtain ⟨gv1, gr1⟩ := and_e gr0
  have gv2 := gr1
  obtain ⟨av0, av1, rfl⟩ : ∃ av0 av1 : Value, args = #[av0, av1] := by
    have hs : args.size = 2 := by simpa [Cond.value, given_1] using gv0
    obtain ⟨L⟩ := args
    match L, hs with
    | [av0, av1], _ => exact ⟨av0, av1, rfl⟩
  have hw := fun d (hd : d ∈ tables_1) => atoms_spec (ws := Jvm.Cond.code x code maxLocals ret :: tables_1) hat d (List.mem_cons_of_mem _ hd)
  have hfit : Fit s := fun {y c} hc i hi => by
    obtain ⟨ha, rfl⟩ := Array.getElem?_eq_some_iff.mp hc
    have q := List.all_eq_true.mp ((Array.all_eq_true_iff_forall_mem.mp hF) _ (Array.getElem_mem ha)) i (List.mem_range.mpr hi)
    simpa [Array.getElem?_eq_getElem hi] using q
  obtain ⟨p0s, ei0⟩ := is_v gv1
  obtain rfl : av0 = (.int p0s) := Option.some.inj ei0
  obtain ⟨p1s, ei1⟩ := is_v gv2
  obtain rfl : av1 = (.int p1s) := Option.some.inj ei1
  obtain ⟨nv0, nr0⟩ := and_e hn
  obtain ⟨nv1, nr1⟩ := and_e nr0
  obtain ⟨nv2, nr2⟩ := and_e nr1
  obtain ⟨nv3, nr3⟩ := and_e nr2
  obtain ⟨nv4, nr4⟩ := and_e nr3
  obtain ⟨nv5, nr5⟩ := and_e nr4
  obtain ⟨nv6, nr6⟩ := and_e nr5
  obtain ⟨nv7, nr7⟩ := and_e nr6
  obtain ⟨nv8, nr8⟩ := and_e nr7
  obtain ⟨nv9, nr9⟩ := and_e nr8
  obtain ⟨nv10, nr10⟩ := and_e nr9
  obtain ⟨nv11, nr11⟩ := and_e nr10
  obtain ⟨nv12, nr12⟩ := and_e nr11
  obtain ⟨nv13, nr13⟩ := and_e nr12
  obtain ⟨nv14, nr14⟩ := and_e nr13
  obtain ⟨nv15, nr15⟩ := and_e nr14
  obtain ⟨nv16, nr16⟩ := and_e nr15
  obtain ⟨nv17, nr17⟩ := and_e nr16
  obtain ⟨nv18, nr18⟩ := and_e nr17
  obtain ⟨nv19, nr19⟩ := and_e nr18
  obtain ⟨nv20, nr20⟩ := and_e nr19
  obtain ⟨nv21, nr21⟩ := and_e nr20
  obtain ⟨nv22, nr22⟩ := and_e nr21
  obtain ⟨nv23, nr23⟩ := and_e nr22
  obtain ⟨nv24, nr24⟩ := and_e nr23
  obtain ⟨w1, ev_w1⟩ := exa_v nv0
  have S0 : Sta s s.heap "com/example/grenze/grenze/Propagation" "REQUIRED" "Lcom/example/grenze/grenze/Propagation;" (.ref w1) := Sta.start ev_w1 (Or.inr ⟨(tw hw 6 rfl), (tw hw 7 rfl)⟩)
  have E_w1 : Exa s s.heap w1 "com/example/grenze/grenze/Propagation" := Exa.start ev_w1 nv0
  obtain ⟨w2, ev_w2⟩ := exa_v nv1
  have S2 : Sta s s.heap "com/example/grenze/grenze/Participation" "JOIN" "Lcom/example/grenze/grenze/Participation;" (.ref w2) := Sta.start ev_w2 (Or.inr ⟨(tw hw 12 rfl), (tw hw 13 rfl)⟩)
  have E_w2 : Exa s s.heap w2 "com/example/grenze/grenze/Participation" := Exa.start ev_w2 nv1
  obtain ⟨w3, ev_w3⟩ := exa_v nv3
  have S4 : Sta s s.heap "com/example/grenze/grenze/Propagation" "REQUIRES_NEW" "Lcom/example/grenze/grenze/Propagation;" (.ref w3) := Sta.start ev_w3 (Or.inr ⟨(tw hw 6 rfl), (tw hw 22 rfl)⟩)
  have E_w3 : Exa s s.heap w3 "com/example/grenze/grenze/Propagation" := Exa.start ev_w3 nv3
  obtain ⟨w4, ev_w4⟩ := exa_v nv4
  have S6 : Sta s s.heap "com/example/grenze/grenze/Participation" "BEGIN" "Lcom/example/grenze/grenze/Participation;" (.ref w4) := Sta.start ev_w4 (Or.inr ⟨(tw hw 12 rfl), (tw hw 24 rfl)⟩)
  have E_w4 : Exa s s.heap w4 "com/example/grenze/grenze/Participation" := Exa.start ev_w4 nv4
  obtain ⟨w5, ev_w5⟩ := exa_v nv6
  have S8 : Sta s s.heap "com/example/grenze/grenze/Propagation" "SUPPORTS" "Lcom/example/grenze/grenze/Propagation;" (.ref w5) := Sta.start ev_w5 (Or.inr ⟨(tw hw 6 rfl), (tw hw 26 rfl)⟩)
  have E_w5 : Exa s s.heap w5 "com/example/grenze/grenze/Propagation" := Exa.start ev_w5 nv6
  obtain ⟨w6, ev_w6⟩ := exa_v nv7
  have S10 : Sta s s.heap "com/example/grenze/grenze/Participation" "WITHOUT" "Lcom/example/grenze/grenze/Participation;" (.ref w6) := Sta.start ev_w6 (Or.inr ⟨(tw hw 12 rfl), (tw hw 31 rfl)⟩)
  have E_w6 : Exa s s.heap w6 "com/example/grenze/grenze/Participation" := Exa.start ev_w6 nv7
  obtain ⟨w7, ev_w7⟩ := exa_v nv9
  have S12 : Sta s s.heap "com/example/grenze/grenze/Propagation" "NOT_SUPPORTED" "Lcom/example/grenze/grenze/Propagation;" (.ref w7) := Sta.start ev_w7 (Or.inr ⟨(tw hw 6 rfl), (tw hw 35 rfl)⟩)
  have E_w7 : Exa s s.heap w7 "com/example/grenze/grenze/Propagation" := Exa.start ev_w7 nv9
  obtain ⟨w8, ev_w8⟩ := exa_v nv12
  have S14 : Sta s s.heap "com/example/grenze/grenze/Propagation" "NESTED" "Lcom/example/grenze/grenze/Propagation;" (.ref w8) := Sta.start ev_w8 (Or.inr ⟨(tw hw 6 rfl), (tw hw 37 rfl)⟩)
  have E_w8 : Exa s s.heap w8 "com/example/grenze/grenze/Propagation" := Exa.start ev_w8 nv12
  obtain ⟨w9, ev_w9⟩ := exa_v nv15
  have S16 : Sta s s.heap "com/example/grenze/grenze/Propagation" "NEVER" "Lcom/example/grenze/grenze/Propagation;" (.ref w9) := Sta.start ev_w9 (Or.inr ⟨(tw hw 6 rfl), (tw hw 39 rfl)⟩)
  have E_w9 : Exa s s.heap w9 "com/example/grenze/grenze/Propagation" := Exa.start ev_w9 nv15
  obtain ⟨w10, ev_w10⟩ := exa_v nv16
  have S18 : Sta s s.heap "com/example/grenze/grenze/Participation" "REFUSE" "Lcom/example/grenze/grenze/Participation;" (.ref w10) := Sta.start ev_w10 (Or.inr ⟨(tw hw 12 rfl), (tw hw 41 rfl)⟩)
  have E_w10 : Exa s s.heap w10 "com/example/grenze/grenze/Participation" := Exa.start ev_w10 nv16
  obtain ⟨w11, ev_w11⟩ := exa_v nv20
  have S20 : Sta s s.heap "com/example/grenze/grenze/Propagation" "MANDATORY" "Lcom/example/grenze/grenze/Propagation;" (.ref w11) := Sta.start ev_w11 (Or.inr ⟨(tw hw 6 rfl), (tw hw 43 rfl)⟩)
  have E_w11 : Exa s s.heap w11 "com/example/grenze/grenze/Propagation" := Exa.start ev_w11 nv20
  obtain ⟨w12, ev_w12⟩ := exa_v nv23
  have S22 : Sta s s.heap "com/example/grenze/grenze/Participation" "NEST" "Lcom/example/grenze/grenze/Participation;" (.ref w12) := Sta.start ev_w12 (Or.inr ⟨(tw hw 12 rfl), (tw hw 45 rfl)⟩)
  have E_w12 : Exa s s.heap w12 "com/example/grenze/grenze/Participation" := Exa.start ev_w12 nv23
  have F_w1_withTransaction : Fld s s.heap w1 "com/example/grenze/grenze/Propagation" "withTransaction" "Lcom/example/grenze/grenze/Participation;" (.ref w2) := Fld.start ((fld_at ev_w1).symm.trans (own_eqv nv2 ev_w2))
  have F_w3_withTransaction : Fld s s.heap w3 "com/example/grenze/grenze/Propagation" "withTransaction" "Lcom/example/grenze/grenze/Participation;" (.ref w4) := Fld.start ((fld_at ev_w3).symm.trans (own_eqv nv5 ev_w4))
  have F_w5_withoutTransaction : Fld s s.heap w5 "com/example/grenze/grenze/Propagation" "withoutTransaction" "Lcom/example/grenze/grenze/Participation;" (.ref w6) := Fld.start ((fld_at ev_w5).symm.trans (own_eqv nv8 ev_w6))
  have F_w7_withoutTransaction : Fld s s.heap w7 "com/example/grenze/grenze/Propagation" "withoutTransaction" "Lcom/example/grenze/grenze/Participation;" (.ref w6) := Fld.start ((fld_at ev_w7).symm.trans (own_eqv nv10 ev_w6))
  have F_w7_withTransaction : Fld s s.heap w7 "com/example/grenze/grenze/Propagation" "withTransaction" "Lcom/example/grenze/grenze/Participation;" (.ref w6) := Fld.start ((fld_at ev_w7).symm.trans (own_eqv nv11 ev_w6))
  have F_w8_withoutTransaction : Fld s s.heap w8 "com/example/grenze/grenze/Propagation" "withoutTransaction" "Lcom/example/grenze/grenze/Participation;" (.ref w4) := Fld.start ((fld_at ev_w8).symm.trans (own_eqv nv13 ev_w4))
  have F_w5_withTransaction : Fld s s.heap w5 "com/example/grenze/grenze/Propagation" "withTransaction" "Lcom/example/grenze/grenze/Participation;" (.ref w2) := Fld.start ((fld_at ev_w5).symm.trans (own_eqv nv14 ev_w2))
  have F_w9_withTransaction : Fld s s.heap w9 "com/example/grenze/grenze/Propagation" "withTransaction" "Lcom/example/grenze/grenze/Participation;" (.ref w10) := Fld.start ((fld_at ev_w9).symm.trans (own_eqv nv17 ev_w10))
  have F_w1_withoutTransaction : Fld s s.heap w1 "com/example/grenze/grenze/Propagation" "withoutTransaction" "Lcom/example/grenze/grenze/Participation;" (.ref w4) := Fld.start ((fld_at ev_w1).symm.trans (own_eqv nv18 ev_w4))
  have F_w9_withoutTransaction : Fld s s.heap w9 "com/example/grenze/grenze/Propagation" "withoutTransaction" "Lcom/example/grenze/grenze/Participation;" (.ref w6) := Fld.start ((fld_at ev_w9).symm.trans (own_eqv nv19 ev_w6))
  have F_w11_withoutTransaction : Fld s s.heap w11 "com/example/grenze/grenze/Propagation" "withoutTransaction" "Lcom/example/grenze/grenze/Participation;" (.ref w10) := Fld.start ((fld_at ev_w11).symm.trans (own_eqv nv21 ev_w10))
  have F_w3_withoutTransaction : Fld s s.heap w3 "com/example/grenze/grenze/Propagation" "withoutTransaction" "Lcom/example/grenze/grenze/Participation;" (.ref w4) := Fld.start ((fld_at ev_w3).symm.trans (own_eqv nv22 ev_w4))
  have F_w8_withTransaction : Fld s s.heap w8 "com/example/grenze/grenze/Propagation" "withTransaction" "Lcom/example/grenze/grenze/Participation;" (.ref w12) := Fld.start ((fld_at ev_w8).symm.trans (own_eqv nv24 ev_w12))
  have F_w11_withTransaction : Fld s s.heap w11 "com/example/grenze/grenze/Propagation" "withTransaction" "Lcom/example/grenze/grenze/Participation;" (.ref w2) := Fld.start ((fld_at ev_w11).symm.trans (own_eqv nr24 ev_w2))
  have O0 := Old.start s
  obtain ⟨n, o, h1, h2, h3, _, L, rfl, ⟨rfl, N⟩, hq⟩ := rm0 l s _ hw tables_1 p0s p1s w1 w2 w3 w4 w5 w6 w7 w8 w9 w10 w11 w12 s.heap s.heap.size (Nat.le_refl _) O0 S0 E_w1 S2 E_w2 S4 E_w3 S6 E_w4 S8 E_w5 S10 E_w6 S12 E_w7 S14 E_w8 S16 E_w9 S18 E_w10 S20 E_w11 S22 E_w12 F_w1_withTransaction F_w3_withTransaction F_w5_withoutTransaction F_w7_withoutTransaction F_w7_withTransaction F_w8_withoutTransaction F_w5_withTransaction F_w9_withTransaction F_w1_withoutTransaction F_w9_withoutTransaction F_w11_withoutTransaction F_w3_withoutTransaction F_w8_withTransaction F_w11_withTransaction p e ha hc hk s m _ below hf ((Spec.applies_iff_loose hf).mp happ).1 ⟨rfl, State.Warmed39.refl s, rfl⟩ trivial
  refine ⟨n, _, h1, h2, h3, hpost _ _ _ _ _ _ ⟨Cond.after_iff.mpr rfl, Cond.after_iff.mpr (eq_i res_at (Term.int_eval (1)) rfl), trivial⟩ ⟨hq.1, hq.2.1, (hq.2.2.sift fun y hy => Or.inr (N y hy)).mono (by decide) (by decide)⟩⟩
theorem main_1_1 : Claimed_1_1 := comes_1 fun _ _ _ _ _ _ h hF => ⟨h.1, hF⟩
theorem main_1_2 : Claimed_1_2 := comes_1 fun _ _ _ _ _ _ h hF => ⟨h.2.1, hF⟩
end Jvm.Pilot.@@N@@
namespace Jvm.Pilot.@@N@@
open Jvm Jvm.ClassFile Sem Op Lib Jvm.Free Jvm.Stand Jvm.Pilot.@@N@@.Jvm.D
/-! MADE BY PROGRAM (witnessworld.py) out of the Statement's table words and the real class files: 13 classes; the members and pool entries that the words name. The judged class is class 1, her method 1. -/
namespace start1
open Jvm.ClassFile
def u (s : String) : CpInfo := .utf8 (stringToUtf16 s)
/-- a pool by its gaps: so many unusable entries, then the entry; so many at the end -/
def gap : Nat → List CpInfo → List CpInfo
  | 0, r => r
  | n + 1, r => .unusable :: gap n r
def poolList (es : List (Nat × CpInfo)) (last : Nat) : List CpInfo := es.foldr (fun e r => gap e.1 (e.2 :: r)) (gap last [])
def pool (es : List (Nat × CpInfo)) (last : Nat) : Array CpInfo := ⟨poolList es last⟩
def fileOf (pool : Array CpInfo) (this : Nat) (attrs : Array Attribute := #[]) (ms : Array MethodInfo := #[]) (fl : Nat := 33) (sup : Nat := 0) (ifs : Array Nat := #[]) (fds : Array FieldInfo := #[]) : ClassFile where
  minorVersion := 0
  majorVersion := 65
  constantPool := pool
  accessFlags := fl
  thisClass := this
  superClass := sup
  interfaces := ifs
  fields := fds
  methods := ms
  attributes := attrs
def plain (name : String) (sup : Option ClassId) : Class where
  name := name
  kind := .ordinary
  loader := none
  accessFlags := 33
  super := sup
  interfaces := #[]
  cf := none
  fields := #[]
  methods := #[]
  instanceTypes := #[]
  staticTypes := #[]
  resolved := #[]
  callSites := []
  init := .initialized
  statics := none
  mirror := none

def pool0 : Array CpInfo := pool [(5, u "<init>"), (0, u "()V"), (1, .class_ 10), (1, u "java/lang/Object")] 113

def k0m0 : Method := { name := "<init>", desc := "()V", sig := { parameters := [], returnType := none }, accessFlags := 1, code := none }
/-- java/lang/Object -/
def k0 : Class := { plain "java/lang/Object" none with
  accessFlags := 33
  interfaces := #[]
  cf := some (fileOf pool0 8 #[] #[{ accessFlags := 1, nameIndex := 5, descriptorIndex := 6, attributes := #[] }] 33 0 #[] #[])
  fields := #[]
  methods := #[k0m0]
  instanceTypes := #[]
  staticTypes := #[]
  resolved := Array.replicate 124 none
  statics := none }

def pool1 : Array CpInfo := pool [(2, .class_ 4), (1, u "java/lang/Object"), (0, u "<init>"), (0, u "()V"), (0, .integer 2147483647), (0, .methodref 9 10), (0, .class_ 11), (0, .nameAndType 12 13), (0, u "com/example/grenze/grenze/PropagationParticipationPinLaw"), (0, u "pick"), (0, u "(I)Lcom/example/grenze/grenze/Propagation;"), (0, .methodref 9 15), (0, .nameAndType 16 17), (0, u "withOpen"), (0, u "(I)Lcom/example/grenze/grenze/Participation;"), (0, .methodref 9 19), (0, .nameAndType 20 17), (0, u "withNoneOpen"), (0, .methodref 22 23), (0, .class_ 24), (0, .nameAndType 25 26), (0, u "com/example/grenze/grenze/Propagation"), (0, u "participation"), (0, u "(Z)Lcom/example/grenze/grenze/Participation;"), (0, .fieldref 22 28), (0, .nameAndType 29 30), (0, u "REQUIRED"), (0, u "Lcom/example/grenze/grenze/Propagation;"), (0, .fieldref 22 32), (0, .nameAndType 33 30), (0, u "SUPPORTS"), (0, .fieldref 22 35), (0, .nameAndType 36 30), (0, u "MANDATORY"), (0, .fieldref 22 38), (0, .nameAndType 39 30), (0, u "REQUIRES_NEW"), (0, .fieldref 22 41), (0, .nameAndType 42 30), (0, u "NOT_SUPPORTED"), (0, .fieldref 22 44), (0, .nameAndType 45 30), (0, u "NEVER"), (0, .fieldref 22 47), (0, .nameAndType 48 30), (0, u "NESTED"), (0, .fieldref 50 51), (0, .class_ 52), (0, .nameAndType 53 54), (0, u "com/example/grenze/grenze/Participation"), (0, u "JOIN"), (0, u "Lcom/example/grenze/grenze/Participation;"), (0, .fieldref 50 56), (0, .nameAndType 57 54), (0, u "BEGIN"), (0, .fieldref 50 59), (0, .nameAndType 60 54), (0, u "WITHOUT"), (0, .fieldref 50 62), (0, .nameAndType 63 54), (0, u "REFUSE"), (0, .fieldref 50 65), (0, .nameAndType 66 54), (0, u "NEST"), (2, u "law"), (0, u "(II)Z")] 3

def k1m0 : Method := { name := "<init>", desc := "()V", sig := { parameters := [], returnType := none }, accessFlags := 1, code := none }
def k1c1 : Code := { maxStack := 2, maxLocals := 6, code := code, exceptionTable := #[], attributes := #[] }
def k1m1 : Method := { name := "law", desc := "(II)Z", sig := { parameters := [.int, .int], returnType := some .boolean }, accessFlags := 9, code := some k1c1 }
def k1c2 : Code := { maxStack := 2, maxLocals := 1, code := method_3_code, exceptionTable := #[], attributes := #[] }
def k1m2 : Method := { name := "pick", desc := "(I)Lcom/example/grenze/grenze/Propagation;", sig := { parameters := [.int], returnType := some (.object "com/example/grenze/grenze/Propagation") }, accessFlags := 10, code := some k1c2 }
def k1c3 : Code := { maxStack := 2, maxLocals := 1, code := method_4_code, exceptionTable := #[], attributes := #[] }
def k1m3 : Method := { name := "withOpen", desc := "(I)Lcom/example/grenze/grenze/Participation;", sig := { parameters := [.int], returnType := some (.object "com/example/grenze/grenze/Participation") }, accessFlags := 10, code := some k1c3 }
def k1c4 : Code := { maxStack := 2, maxLocals := 1, code := method_5_code, exceptionTable := #[], attributes := #[] }
def k1m4 : Method := { name := "withNoneOpen", desc := "(I)Lcom/example/grenze/grenze/Participation;", sig := { parameters := [.int], returnType := some (.object "com/example/grenze/grenze/Participation") }, accessFlags := 10, code := some k1c4 }
/-- com/example/grenze/grenze/PropagationParticipationPinLaw -/
def k1 : Class := { plain "com/example/grenze/grenze/PropagationParticipationPinLaw" (some 0) with
  accessFlags := 49
  interfaces := #[]
  cf := some (fileOf pool1 9 #[] #[{ accessFlags := 1, nameIndex := 5, descriptorIndex := 6, attributes := #[] }, { accessFlags := 9, nameIndex := 69, descriptorIndex := 70, attributes := #[] }, { accessFlags := 10, nameIndex := 12, descriptorIndex := 13, attributes := #[] }, { accessFlags := 10, nameIndex := 16, descriptorIndex := 17, attributes := #[] }, { accessFlags := 10, nameIndex := 20, descriptorIndex := 17, attributes := #[] }] 49 2 #[] #[])
  fields := #[]
  methods := #[k1m0, k1m1, k1m2, k1m3, k1m4]
  instanceTypes := #[]
  staticTypes := #[]
  resolved := Array.replicate 74 none
  statics := none }

def pool2 : Array CpInfo := pool [(1, .class_ 2), (0, u "java/lang/constant/Constable"), (0, .class_ 4), (0, u "java/lang/Object")] 6

/-- java/lang/constant/Constable -/
def k2 : Class := { plain "java/lang/constant/Constable" (some 0) with
  accessFlags := 1537
  interfaces := #[]
  cf := some (fileOf pool2 1 #[] #[] 1537 3 #[] #[])
  fields := #[]
  methods := #[]
  instanceTypes := #[]
  staticTypes := #[]
  resolved := Array.replicate 11 none
  statics := none }

def pool3 : Array CpInfo := pool [(1, .class_ 2), (0, u "java/lang/Comparable"), (0, .class_ 4), (0, u "java/lang/Object")] 7

/-- java/lang/Comparable -/
def k3 : Class := { plain "java/lang/Comparable" (some 0) with
  accessFlags := 1537
  interfaces := #[]
  cf := some (fileOf pool3 1 #[] #[] 1537 3 #[] #[])
  fields := #[]
  methods := #[]
  instanceTypes := #[]
  staticTypes := #[]
  resolved := Array.replicate 12 none
  statics := none }

def pool4 : Array CpInfo := pool [(1, .class_ 2), (0, u "java/io/Serializable"), (0, .class_ 4), (0, u "java/lang/Object")] 2

/-- java/io/Serializable -/
def k4 : Class := { plain "java/io/Serializable" (some 0) with
  accessFlags := 1537
  interfaces := #[]
  cf := some (fileOf pool4 1 #[] #[] 1537 3 #[] #[])
  fields := #[]
  methods := #[]
  instanceTypes := #[]
  staticTypes := #[]
  resolved := Array.replicate 7 none
  statics := none }

def pool5 : Array CpInfo := pool [(2, .class_ 4), (1, u "java/lang/Enum"), (0, u "name"), (0, u "Ljava/lang/String;"), (2, u "ordinal"), (0, u "I"), (1, .class_ 14), (1, u "java/lang/Object"), (4, u "hash"), (86, .class_ 108), (1, u "java/lang/Enum$EnumDesc"), (2, .class_ 112), (0, u "java/lang/constant/Constable"), (0, .class_ 114), (0, u "java/lang/Comparable"), (0, .class_ 116), (0, u "java/io/Serializable")] 87

/-- java/lang/Enum -/
def k5 : Class := { plain "java/lang/Enum" (some 0) with
  accessFlags := 1057
  interfaces := #[2, 3, 4]
  cf := some (fileOf pool5 2 #[.nestMembers #[106]] #[] 1057 12 #[111, 113, 115] #[{ accessFlags := 18, nameIndex := 5, descriptorIndex := 6, attributes := #[] }, { accessFlags := 18, nameIndex := 9, descriptorIndex := 10, attributes := #[] }, { accessFlags := 2, nameIndex := 19, descriptorIndex := 10, attributes := #[] }])
  fields := #[{ name := "name", type := (.object "java/lang/String"), accessFlags := 18, slot := 0, constantValue := 0 }, { name := "ordinal", type := .int, accessFlags := 18, slot := 1, constantValue := 0 }, { name := "hash", type := .int, accessFlags := 2, slot := 2, constantValue := 0 }]
  methods := #[]
  instanceTypes := #[(.object "java/lang/String"), .int, .int]
  staticTypes := #[]
  resolved := Array.replicate 204 none
  statics := none }

def pool6 : Array CpInfo := pool [(1, .class_ 2), (0, u "com/example/grenze/grenze/Propagation"), (2, u "REQUIRED"), (0, u "Lcom/example/grenze/grenze/Propagation;"), (2, u "SUPPORTS"), (2, u "MANDATORY"), (2, u "REQUIRES_NEW"), (2, u "NOT_SUPPORTED"), (2, u "NEVER"), (2, u "NESTED"), (2, u "$VALUES"), (0, u "[Lcom/example/grenze/grenze/Propagation;"), (6, .class_ 37), (1, u "java/lang/Enum"), (6, .fieldref 1 45), (0, .nameAndType 46 47), (0, u "withTransaction"), (0, u "Lcom/example/grenze/grenze/Participation;"), (0, .fieldref 1 49), (0, .nameAndType 50 47), (0, u "withoutTransaction"), (2, u "participation"), (0, u "(Z)Lcom/example/grenze/grenze/Participation;")] 46

def k6c0 : Code := { maxStack := 1, maxLocals := 2, code := prog_9_method_5_code, exceptionTable := #[], attributes := #[] }
def k6m0 : Method := { name := "participation", desc := "(Z)Lcom/example/grenze/grenze/Participation;", sig := { parameters := [.boolean], returnType := some (.object "com/example/grenze/grenze/Participation") }, accessFlags := 0, code := some k6c0 }
/-- com/example/grenze/grenze/Propagation -/
def k6 : Class := { plain "com/example/grenze/grenze/Propagation" (some 5) with
  accessFlags := 16433
  interfaces := #[]
  cf := some (fileOf pool6 1 #[] #[{ accessFlags := 0, nameIndex := 53, descriptorIndex := 54, attributes := #[] }] 16433 35 #[] #[{ accessFlags := 16409, nameIndex := 5, descriptorIndex := 6, attributes := #[] }, { accessFlags := 16409, nameIndex := 9, descriptorIndex := 6, attributes := #[] }, { accessFlags := 16409, nameIndex := 12, descriptorIndex := 6, attributes := #[] }, { accessFlags := 16409, nameIndex := 15, descriptorIndex := 6, attributes := #[] }, { accessFlags := 16409, nameIndex := 18, descriptorIndex := 6, attributes := #[] }, { accessFlags := 16409, nameIndex := 21, descriptorIndex := 6, attributes := #[] }, { accessFlags := 16409, nameIndex := 24, descriptorIndex := 6, attributes := #[] }, { accessFlags := 18, nameIndex := 46, descriptorIndex := 47, attributes := #[] }, { accessFlags := 18, nameIndex := 50, descriptorIndex := 47, attributes := #[] }, { accessFlags := 4122, nameIndex := 27, descriptorIndex := 28, attributes := #[] }])
  fields := #[{ name := "REQUIRED", type := (.object "com/example/grenze/grenze/Propagation"), accessFlags := 16409, slot := 0, constantValue := 0 }, { name := "SUPPORTS", type := (.object "com/example/grenze/grenze/Propagation"), accessFlags := 16409, slot := 1, constantValue := 0 }, { name := "MANDATORY", type := (.object "com/example/grenze/grenze/Propagation"), accessFlags := 16409, slot := 2, constantValue := 0 }, { name := "REQUIRES_NEW", type := (.object "com/example/grenze/grenze/Propagation"), accessFlags := 16409, slot := 3, constantValue := 0 }, { name := "NOT_SUPPORTED", type := (.object "com/example/grenze/grenze/Propagation"), accessFlags := 16409, slot := 4, constantValue := 0 }, { name := "NEVER", type := (.object "com/example/grenze/grenze/Propagation"), accessFlags := 16409, slot := 5, constantValue := 0 }, { name := "NESTED", type := (.object "com/example/grenze/grenze/Propagation"), accessFlags := 16409, slot := 6, constantValue := 0 }, { name := "withTransaction", type := (.object "com/example/grenze/grenze/Participation"), accessFlags := 18, slot := 3, constantValue := 0 }, { name := "withoutTransaction", type := (.object "com/example/grenze/grenze/Participation"), accessFlags := 18, slot := 4, constantValue := 0 }, { name := "$VALUES", type := (.array (.object "com/example/grenze/grenze/Propagation")), accessFlags := 4122, slot := 7, constantValue := 0 }]
  methods := #[k6m0]
  instanceTypes := #[(.object "java/lang/String"), .int, .int, (.object "com/example/grenze/grenze/Participation"), (.object "com/example/grenze/grenze/Participation")]
  staticTypes := #[(.object "com/example/grenze/grenze/Propagation"), (.object "com/example/grenze/grenze/Propagation"), (.object "com/example/grenze/grenze/Propagation"), (.object "com/example/grenze/grenze/Propagation"), (.object "com/example/grenze/grenze/Propagation"), (.object "com/example/grenze/grenze/Propagation"), (.object "com/example/grenze/grenze/Propagation"), (.array (.object "com/example/grenze/grenze/Propagation"))]
  resolved := Array.replicate 101 none
  statics := some 0 }

def pool7 : Array CpInfo := pool [(1, .class_ 2), (0, u "com/example/grenze/grenze/Participation"), (2, u "JOIN"), (0, u "Lcom/example/grenze/grenze/Participation;"), (2, u "BEGIN"), (2, u "NEST"), (2, u "WITHOUT"), (2, u "REFUSE"), (2, u "$VALUES"), (0, u "[Lcom/example/grenze/grenze/Participation;"), (6, .class_ 31), (1, u "java/lang/Enum")] 27

/-- com/example/grenze/grenze/Participation -/
def k7 : Class := { plain "com/example/grenze/grenze/Participation" (some 5) with
  accessFlags := 16432
  interfaces := #[]
  cf := some (fileOf pool7 1 #[] #[] 16432 29 #[] #[{ accessFlags := 16409, nameIndex := 5, descriptorIndex := 6, attributes := #[] }, { accessFlags := 16409, nameIndex := 9, descriptorIndex := 6, attributes := #[] }, { accessFlags := 16409, nameIndex := 12, descriptorIndex := 6, attributes := #[] }, { accessFlags := 16409, nameIndex := 15, descriptorIndex := 6, attributes := #[] }, { accessFlags := 16409, nameIndex := 18, descriptorIndex := 6, attributes := #[] }, { accessFlags := 4122, nameIndex := 21, descriptorIndex := 22, attributes := #[] }])
  fields := #[{ name := "JOIN", type := (.object "com/example/grenze/grenze/Participation"), accessFlags := 16409, slot := 0, constantValue := 0 }, { name := "BEGIN", type := (.object "com/example/grenze/grenze/Participation"), accessFlags := 16409, slot := 1, constantValue := 0 }, { name := "NEST", type := (.object "com/example/grenze/grenze/Participation"), accessFlags := 16409, slot := 2, constantValue := 0 }, { name := "WITHOUT", type := (.object "com/example/grenze/grenze/Participation"), accessFlags := 16409, slot := 3, constantValue := 0 }, { name := "REFUSE", type := (.object "com/example/grenze/grenze/Participation"), accessFlags := 16409, slot := 4, constantValue := 0 }, { name := "$VALUES", type := (.array (.object "com/example/grenze/grenze/Participation")), accessFlags := 4122, slot := 5, constantValue := 0 }]
  methods := #[]
  instanceTypes := #[(.object "java/lang/String"), .int, .int]
  staticTypes := #[(.object "com/example/grenze/grenze/Participation"), (.object "com/example/grenze/grenze/Participation"), (.object "com/example/grenze/grenze/Participation"), (.object "com/example/grenze/grenze/Participation"), (.object "com/example/grenze/grenze/Participation"), (.array (.object "com/example/grenze/grenze/Participation"))]
  resolved := Array.replicate 59 none
  statics := some 1 }

def pool8 : Array CpInfo := pool [(1, u "java/lang/Cloneable"), (0, .class_ 1), (0, u "java/lang/Object"), (0, .class_ 3)] 3

/-- java/lang/Cloneable -/
def k8 : Class := { plain "java/lang/Cloneable" (some 0) with
  accessFlags := 1537
  interfaces := #[]
  cf := some (fileOf pool8 2 #[] #[] 1537 4 #[] #[])
  fields := #[]
  methods := #[]
  instanceTypes := #[]
  staticTypes := #[]
  resolved := Array.replicate 8 none
  statics := none }

/-- the primitive byte -/
def k9 : Class := { plain "byte" none with kind := .primitive 'B', accessFlags := 0x411 }
/-- [B -/
def k10 : Class := { plain "[B" (some 0) with kind := .array 9 .byte, interfaces := #[8, 4], accessFlags := 1041 }

/-- the primitive int -/
def k11 : Class := { plain "int" none with kind := .primitive 'I', accessFlags := 0x411 }
/-- [I -/
def k12 : Class := { plain "[I" (some 0) with kind := .array 11 .int, interfaces := #[8, 4], accessFlags := 1041 }

def heap : Heap := #[{ cls := 6, slots := #[.ref 2, .ref 6, .ref 12, .ref 4, .ref 8, .ref 10, .ref 9, .null], vm := .statics 6 },
  { cls := 7, slots := #[.ref 3, .ref 5, .ref 13, .ref 7, .ref 11, .null], vm := .statics 7 },
  { cls := 6, slots := #[.null, .int 0, .int 0, .ref 3, .ref 5], vm := .none },
  { cls := 7, slots := #[.null, .int 0, .int 0], vm := .none },
  { cls := 6, slots := #[.null, .int 0, .int 0, .ref 5, .ref 5], vm := .none },
  { cls := 7, slots := #[.null, .int 0, .int 0], vm := .none },
  { cls := 6, slots := #[.null, .int 0, .int 0, .ref 3, .ref 7], vm := .none },
  { cls := 7, slots := #[.null, .int 0, .int 0], vm := .none },
  { cls := 6, slots := #[.null, .int 0, .int 0, .ref 7, .ref 7], vm := .none },
  { cls := 6, slots := #[.null, .int 0, .int 0, .ref 13, .ref 5], vm := .none },
  { cls := 6, slots := #[.null, .int 0, .int 0, .ref 11, .ref 7], vm := .none },
  { cls := 7, slots := #[.null, .int 0, .int 0], vm := .none },
  { cls := 6, slots := #[.null, .int 0, .int 0, .ref 3, .ref 11], vm := .none },
  { cls := 7, slots := #[.null, .int 0, .int 0], vm := .none }]
def classes : Array Class := #[k0, k1, k2, k3, k4, k5, k6, k7, k8, k9, k10, k11, k12]
def interned : List (Array UInt16 × Addr) := []
def slotsUsed : Nat := 64
def theMethod : MethodId := ⟨1, 1⟩
def args0 : Array Value := #[.int 5, .int 1]
def aboutOver (below : List Frame) : State where
  vm := { classes := classes, interned := interned.toArray }
  heap := heap
  slotsUsed := slotsUsed
  threads := #[{ frames := .invoking theMethod args0 :: below }]
def below0 : List Frame := [.native { method := ⟨0, 0⟩, args := #[] }]
def about1 : State := aboutOver below0
def p0 : Program := .bare "" "" ""
def e0 : Env := launch0.env 0 0 0
theorem w_frames : about1.frames = Frame.invoking theMethod args0 :: below0 := rfl
set_option maxRecDepth 65536 in
theorem w_args : argsFit about1.vm theMethod args0 = true := by decide +kernel
set_option maxRecDepth 65536 in
theorem w_heap : heapFits about1 = true := by decide +kernel
set_option maxRecDepth 65536 in
theorem w_runnable : about1.curStatus? = some .runnable := by decide +kernel
set_option maxRecDepth 65536 in
theorem w_alone : about1.alone = true := by decide +kernel
set_option maxRecDepth 65536 in
theorem w_named : about1.methodNamed? x = some theMethod := by decide +kernel
set_option maxRecDepth 65536 in
theorem w_hears : about1.hears theMethod below0 = true := by decide +kernel
set_option maxRecDepth 65536 in
theorem w_ripe : about1.ripe theMethod args0 below0 = true := by decide +kernel
theorem w_running : about1.status = .running := rfl
set_option maxRecDepth 65536 in
theorem w_room : about1.hasRoom e0.platform room_1 = true :=
  launch0.hasRoom_least _ room_1 (by decide +kernel) (by decide +kernel) (by decide +kernel) (by decide +kernel) (by decide +kernel) (by decide +kernel)
theorem allAtoms_all (ts : List Jvm.Cond) (a : Array Jvm.Value) (st : Jvm.State) : (allAtoms ts).before a st = ts.all (fun c => c.before a st) := by
  induction ts with
  | nil => rfl
  | cons c t ih =>
    show (Jvm.Cond.and c (allAtoms t)).before a st = _
    rw [Jvm.Cond.before_and, ih, List.all_cons]
def words1 : List Jvm.Cond := Jvm.Cond.code x code maxLocals ret :: tables_1
/-- a 'code' word, met by the world's own term for the bytes: nothing is compared byte by byte -/
theorem code_word {y : MethodName} {bytes : ByteArray} {mx : Nat} {rt : Option FieldType} {a : Array Value} {s : State} {m : MethodId} {meth : Method} {c : Code} (h1 : s.methodNamed? y = some m) (h2 : s.vm.method? m = some meth) (h3 : meth.code = some c) (h4 : c.code = bytes)
    (h5 : (c.maxLocals == mx && c.exceptionTable.isEmpty && decide (c.maxStack ≤ mostOperands) && decide (meth.sig.returnType = rt) && !meth.locks && decide (parseMethodDescriptor y.desc = some meth.sig)) = true) : (Jvm.Cond.code y bytes mx rt).before a s = true := by
  simp only [Bool.and_eq_true, beq_iff_eq, Bool.not_eq_true', decide_eq_true_eq] at h5
  obtain ⟨⟨⟨⟨⟨g1, g2⟩, g3⟩, g4⟩, g5⟩, g6⟩ := h5
  simp [Cond.before, Cond.holds, Cond.value, h1, h2, h3, h4, g1, g2, g3, g4, g5, g6]
def isCode : Jvm.Cond → Bool
  | .code _ _ _ _ => true
  | _ => false
theorem all_split {L : List Jvm.Cond} {P : Jvm.Cond → Bool} (h1 : L.all (fun c => isCode c || P c) = true) (h2 : ∀ c ∈ L.filter isCode, P c = true) : L.all P = true := by
  refine List.all_eq_true.mpr fun c hc => ?_
  have h := List.all_eq_true.mp h1 c hc
  rcases Bool.eq_false_or_eq_true (isCode c) with hi | hi
  · exact h2 c (List.mem_filter.mpr ⟨hc, hi⟩)
  · simpa [hi] using h
set_option maxRecDepth 65536 in
theorem w_c0 : (Jvm.Cond.code x code maxLocals ret).before args0 about1 = true := code_word (m := ⟨1, 1⟩) (meth := k1m1) (c := k1c1) (by decide +kernel) rfl rfl rfl (by decide +kernel)
set_option maxRecDepth 65536 in
theorem w_c1 : (Jvm.Cond.code ({ cls := "com/example/grenze/grenze/PropagationParticipationPinLaw", name := "pick", desc := "(I)Lcom/example/grenze/grenze/Propagation;" } : Jvm.MethodName) method_3_code (1 : Nat) (Option.some (Jvm.ClassFile.FieldType.object "com/example/grenze/grenze/Propagation"))).before args0 about1 = true := code_word (m := ⟨1, 2⟩) (meth := k1m2) (c := k1c2) (by decide +kernel) rfl rfl rfl (by decide +kernel)
set_option maxRecDepth 65536 in
theorem w_c2 : (Jvm.Cond.code ({ cls := "com/example/grenze/grenze/PropagationParticipationPinLaw", name := "withOpen", desc := "(I)Lcom/example/grenze/grenze/Participation;" } : Jvm.MethodName) method_4_code (1 : Nat) (Option.some (Jvm.ClassFile.FieldType.object "com/example/grenze/grenze/Participation"))).before args0 about1 = true := code_word (m := ⟨1, 3⟩) (meth := k1m3) (c := k1c3) (by decide +kernel) rfl rfl rfl (by decide +kernel)
set_option maxRecDepth 65536 in
theorem w_c3 : (Jvm.Cond.code ({ cls := "com/example/grenze/grenze/Propagation", name := "participation", desc := "(Z)Lcom/example/grenze/grenze/Participation;" } : Jvm.MethodName) prog_9_method_5_code (2 : Nat) (Option.some (Jvm.ClassFile.FieldType.object "com/example/grenze/grenze/Participation"))).before args0 about1 = true := code_word (m := ⟨6, 0⟩) (meth := k6m0) (c := k6c0) (by decide +kernel) rfl rfl rfl (by decide +kernel)
set_option maxRecDepth 65536 in
theorem w_c4 : (Jvm.Cond.code ({ cls := "com/example/grenze/grenze/PropagationParticipationPinLaw", name := "withNoneOpen", desc := "(I)Lcom/example/grenze/grenze/Participation;" } : Jvm.MethodName) method_5_code (1 : Nat) (Option.some (Jvm.ClassFile.FieldType.object "com/example/grenze/grenze/Participation"))).before args0 about1 = true := code_word (m := ⟨1, 4⟩) (meth := k1m4) (c := k1c4) (by decide +kernel) rfl rfl rfl (by decide +kernel)
def codes1 : List Jvm.Cond := [Jvm.Cond.code x code maxLocals ret, Jvm.Cond.code ({ cls := "com/example/grenze/grenze/PropagationParticipationPinLaw", name := "pick", desc := "(I)Lcom/example/grenze/grenze/Propagation;" } : Jvm.MethodName) method_3_code (1 : Nat) (Option.some (Jvm.ClassFile.FieldType.object "com/example/grenze/grenze/Propagation")), Jvm.Cond.code ({ cls := "com/example/grenze/grenze/PropagationParticipationPinLaw", name := "withOpen", desc := "(I)Lcom/example/grenze/grenze/Participation;" } : Jvm.MethodName) method_4_code (1 : Nat) (Option.some (Jvm.ClassFile.FieldType.object "com/example/grenze/grenze/Participation")), Jvm.Cond.code ({ cls := "com/example/grenze/grenze/Propagation", name := "participation", desc := "(Z)Lcom/example/grenze/grenze/Participation;" } : Jvm.MethodName) prog_9_method_5_code (2 : Nat) (Option.some (Jvm.ClassFile.FieldType.object "com/example/grenze/grenze/Participation")), Jvm.Cond.code ({ cls := "com/example/grenze/grenze/PropagationParticipationPinLaw", name := "withNoneOpen", desc := "(I)Lcom/example/grenze/grenze/Participation;" } : Jvm.MethodName) method_5_code (1 : Nat) (Option.some (Jvm.ClassFile.FieldType.object "com/example/grenze/grenze/Participation"))]
set_option maxRecDepth 65536 in
theorem codes_eq : words1.filter isCode = codes1 := rfl
theorem w_codes : ∀ c ∈ words1.filter isCode, c.before args0 about1 = true := by
  rw [codes_eq]
  intro c hc
  simp only [codes1, List.mem_cons, List.not_mem_nil, or_false] at hc
  rcases hc with rfl | rfl | rfl | rfl | rfl
  · exact w_c0
  · exact w_c1
  · exact w_c2
  · exact w_c3
  · exact w_c4
set_option maxRecDepth 65536 in
theorem w_t1 : (words1.take 24).all (fun c => isCode c || c.before args0 about1) = true := by decide +kernel
set_option maxRecDepth 65536 in
theorem w_t2 : (words1.drop 24).all (fun c => isCode c || c.before args0 about1) = true := by decide +kernel
theorem w_tables : (allAtoms (Jvm.Cond.code x code maxLocals ret :: tables_1)).before args0 about1 = true := by
  rw [allAtoms_all]
  show words1.all (fun c => c.before args0 about1) = true
  refine all_split ?_ w_codes
  rw [← List.take_append_drop 24 words1, List.all_append, w_t1, w_t2]
  rfl
set_option maxRecDepth 65536 in
theorem w_case : (Jvm.Cond.and given_1 narrow_1).before args0 about1 = true := by decide +kernel
theorem w_applies : (headSpec (Jvm.Cond.code x code maxLocals ret :: tables_1) room_1).applies x e0.platform about1 = true :=
  (Spec.applies_iff w_frames).mpr ⟨w_running, w_runnable, w_alone, w_named, w_hears, w_ripe, w_room, w_tables⟩
theorem atStart : AtStart classFile x code maxLocals ret World_1 tables_1 room_1 Calls_1 rest_1 Pre_1 launch0 p0 e0 about1 theMethod args0 below0 :=
  ⟨lists_1, trivial, launch0.admits_env _ _ _, launch0.least_env, fairChoices_fair.cas, fairChoices_fair.clock, w_frames, w_args, w_heap, w_applies, trivial, trivial, w_case⟩
end start1
theorem witness_1 : WitnessClaimed_1 := ⟨start1.p0, start1.e0, start1.about1, start1.theMethod, start1.args0, start1.below0, start1.atStart⟩
end Jvm.Pilot.@@N@@
