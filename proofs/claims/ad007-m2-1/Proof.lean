import JvmDerived
import JvmDerived.Pilot.@@N@@Statement
import JvmDerived.Pilot.@@N@@Code
set_option linter.unusedVariables false
set_option linter.unusedSimpArgs false
namespace Jvm.RoadKit
open Sem ClassFile Op Lib Jvm.Stand Jvm.Free Jvm.LawKit
section New
variable {p : Program} {l : Launch} {e : Env} {R : Room} {s : State} {m : MethodId} {args : Array Value} {below : List Frame} {meth : Method} {c : Code} {T : State} {locs : List Loc} {cells slots : Nat}
theorem retI (X : Stand p l e R s m args below meth c T locs cells slots) (hx : p.tables.exec = Jvm.exec) {pc : Nat} {Ls : Array Slot} {z : Int32} {rest : List Value} (hret : meth.sig.returnType = some .int) (hd : decode c.code pc = .ok (.ireturn, 1)) {fs : List Frame}
    (hl : ∀ (f : JFrame) (acts : List Action), f.method = m → f.locked = none → f.entered = [] → (doReturn e (T.setTop f) acts (some (.int z))).1 = T.setFrames fs) : Steps p.tables e below (T.setTop (mkF m pc Ls (.int z :: rest))) (T.setFrames fs) := by
  have hm' : T.vm.method? m = some meth := X.method'
  have hn : narrow .int (.int z) = .int z := rfl
  show Steps p.tables e below (T.setTop { method := m, pc := pc, locals := Ls, stack := _ :: rest, locked := none }) _
  jvm_step X.here [X.here.top, hx, hd, hm', hret, hn]
  first | (intro acts; rw [hl _ acts rfl rfl rfl]) | rw [hl _ _ rfl rfl rfl]
  exact Steps.refl _
theorem own_retR (X : Stand p l e R s m args below meth c T locs cells slots) (hx : p.tables.exec = Jvm.exec) {pc : Nat} {Ls : Array Slot} {w : Value} {t : FieldType} {rest : List Value} (hret : meth.sig.returnType = some t) (ht : t.isReference = true) (hw : w.isRef = true) (hd : decode c.code pc = .ok (.areturn, 1)) {fs : List Frame}
    (hl : ∀ (f : JFrame) (acts : List Action), f.method = m → f.locked = none → f.entered = [] → (doReturn e (T.setTop f) acts (some w)).1 = T.setFrames fs) : Steps p.tables e below (T.setTop (mkF m pc Ls (w :: rest))) (T.setFrames fs) :=
  retOut X hx hret (by rcases ref_cases hw with rfl | ⟨z, rfl⟩ <;> cases t <;> first | rfl | (cases ht; done)) (Or.inr (Or.inr (Or.inr (Or.inr ⟨rfl, ht, hw⟩)))) hd hl
theorem own_retJ (X : Stand p l e R s m args below meth c T locs cells slots) (hx : p.tables.exec = Jvm.exec) {pc : Nat} {Ls : Array Slot} {z : Int64} {rest : List Value} (hret : meth.sig.returnType = some .long) (hd : decode c.code pc = .ok (.lreturn, 1)) {fs : List Frame}
    (hl : ∀ (f : JFrame) (acts : List Action), f.method = m → f.locked = none → f.entered = [] → (doReturn e (T.setTop f) acts (some (.long z))).1 = T.setFrames fs) : Steps p.tables e below (T.setTop (mkF m pc Ls (.long z :: rest))) (T.setFrames fs) :=
  retOut X hx hret rfl (Or.inr (Or.inl ⟨rfl, rfl, z, rfl⟩)) hd hl
end New
theorem own_eqv {args : Array Value} {first s : State} {o : Option Outcome} {idx : List Nat} {a b : Term} {v : Value} (h : (Jvm.Cond.eq a b).value args first o s idx = some true) (hb : b.eval args first o idx s = some v) (hk : (match v with | .int _ => true | .ref _ => true | .long _ => true | _ => false) = true := by rfl) : a.eval args first o idx s = some v := by
  simp only [Cond.value, hb] at h
  cases ha : a.eval args first o idx s with
  | none => simp [ha] at h
  | some x => cases x <;> cases v <;> simp_all
theorem own_selP {Z s : State} {a0 args : Array Value} {y : MethodName} {n : Nat} (hZ : Z.Warmed39 s.vm) (wi : (Cond.instantiable y.cls n).before a0 Z = true) (wp : (Cond.privateMethod y).before a0 Z = true) (wm : (Cond.instanceMethod y).before a0 Z = true) (hy : y.cls ≠ "java/lang/invoke/MethodHandle" ∧ y.cls ≠ "java/lang/invoke/VarHandle") : (Cond.selects y.cls y y).before args s = true := by
  have wi' : (Cond.instantiable y.cls n).before args s = true := mvT hZ wi
  have wm' : (Cond.instanceMethod y).before args s = true := mvT hZ wm
  obtain ⟨c, k, h1, h2, -, h4, -⟩ := Cond.instantiable_spec wi'
  simp only [Bool.or_eq_false_iff] at h4
  exact selects_self_of_private h1 h2 h4.1 (Cond.privateMethod_at (mvP hZ wp (args := #[]))) wm' hy
theorem own_selQ {Z s : State} {a0 args : Array Value} {y : MethodName} {y' : MethodName} {n' d' : String} (hZ : Z.Warmed39 s.vm) (wi : (Cond.selects y.cls y' ⟨y.cls, n', d'⟩).before a0 Z = true) (wp : (Cond.privateMethod y).before a0 Z = true) (wm : (Cond.instanceMethod y).before a0 Z = true) (hy : y.cls ≠ "java/lang/invoke/MethodHandle" ∧ y.cls ≠ "java/lang/invoke/VarHandle") : (Cond.selects y.cls y y).before args s = true := by
  have wi' : (Cond.selects y.cls y' ⟨y.cls, n', d'⟩).before args s = true := mvT hZ wi
  have wm' : (Cond.instanceMethod y).before args s = true := mvT hZ wm
  obtain ⟨c2, r2, m2, -, -, q3, -, kP, hkP, hkPi⟩ := Cond.selects_spec wi'
  have hc := findClass_of_methodNamed q3
  exact selects_self_of_private (c := m2.cls) hc hkP hkPi (Cond.privateMethod_at (mvP hZ wp (args := #[]))) wm' hy
theorem own_len {args : Array Value} {s : State} {t : Term} {a : Addr} {cl : Cell} {ty : FieldType} {z : Int32} (ht : t.eval args s none [] s = some (.ref a)) (A : Arr s s.heap a cl ty) (h : (Term.length t).eval args s none [] s = some (.int z)) : cl.slots.size < 2 ^ 31 ∧ cl.slots.size.toInt32 = z := by
  have e := A.fin (Vm.Alike.refl _)
  simp only [Term.eval, ht, e, Option.bind_eq_bind, Option.bind_some] at h
  split at h <;> simp_all
end Jvm.RoadKit
namespace Jvm.Pilot.@@N@@
open Jvm Jvm.ClassFile Sem Op Lib Jvm.Free Jvm.Stand Jvm.LawKit Jvm.RoadKit Bundle Jvm.Pilot.@@N@@.Jvm.D
theorem tw {Z : State} {a0 : Array Value} (hw : ∀ d ∈ tables_1, d.before a0 Z = true) (i : Nat) {d : Jvm.Cond} (h : tables_1[i]? = some d) : d.before a0 Z = true := hw d (List.mem_of_getElem? h)
abbrev MF (l : Launch) (Z : State) (y : MethodName) (cd : Jvm.Cond) (ws : List Jvm.Cond) (rm : Room) (A : Array Value) (h0 : Heap) (Q : Option Value → Heap → List Loc → Prop) : Prop := MetFree l y (head1 (cd :: ws) rm) (fun a U => a = A ∧ Z.Warmed39 U.vm ∧ U.heap = h0) (fun _ _ _ _ _ => True) (fun _ U o U' => ∃ v L, o = .returned v ∧ Q v U'.heap L ∧ FrameEnd U o U' L rm.cells rm.slots)
def Fine (p : Program) (e : Env) (below : List Frame) (s : State) (n0 : Nat) (S0 : State) : Prop := ∃ s₂ o, Steps p.tables e below S0 s₂ ∧ s₂.status = .running ∧ Ended s₂ below o ∧ ∃ v L, o = .returned v ∧ (v = some (.int (1 : Int32)) ∧ Fr n0 L) ∧ FrameEnd s o s₂ L room_1.cells room_1.slots
theorem Fine.pre {p : Program} {e : Env} {below : List Frame} {s S0 S1 : State} {n0 : Nat} (k : ∀ t, Steps p.tables e below S1 t → Steps p.tables e below S0 t) (h : Fine p e below s n0 S1) : Fine p e below s n0 S0 := by
  obtain ⟨u, o, h1, h2⟩ := h; exact ⟨u, o, k _ h1, h2⟩
def FineW (p : Program) (e : Env) (below : List Frame) (s : State) (n0 : Nat) (S0 : State) : Prop := ∃ s₂ o, Steps p.tables e below S0 s₂ ∧ s₂.status = .running ∧ Ended s₂ below o ∧ ∃ v L, o = .returned v ∧ (v = some (.int (1 : Int32)) ∧ Fr n0 L) ∧ ReturnedEndW s o s₂ L room_1.cells room_1.slots
theorem FineW.pre {p : Program} {e : Env} {below : List Frame} {s S0 S1 : State} {n0 : Nat} (k : ∀ t, Steps p.tables e below S1 t → Steps p.tables e below S0 t) (h : FineW p e below s n0 S1) : FineW p e below s n0 S0 := by
  obtain ⟨u, o, h1, h2⟩ := h; exact ⟨u, o, k _ h1, h2⟩
abbrev MFW (l : Launch) (Z : State) (y : MethodName) (cd : Jvm.Cond) (ws : List Jvm.Cond) (rm : Room) (A : Array Value) (h0 : Heap) (Q : Option Value → Heap → List Loc → Prop) : Prop := MetFree l y (head1 (cd :: ws) rm) (fun a U => a = A ∧ Z.Warmed39 U.vm ∧ U.heap = h0) (fun _ _ _ _ _ => True) (fun _ U o U' => ∃ v L, o = .returned v ∧ Q v U'.heap L ∧ ReturnedEndW U o U' L rm.cells rm.slots)
abbrev SF (p : Program) (e : Env) (below : List Frame) (T : State) (g : JFrame) (t : State) : Prop := Steps p.tables e below (T.setTop g) t
abbrev HW (Z : State) (a0 : Array Value) : Prop := ∀ d ∈ tables_1, d.before a0 Z = true
theorem own_lt64 {a b : Int32} : ((a.toInt64) - (b.toInt64)) < (0 : Int64) ↔ a < b := by
  have r1 := rng32 a; have r2 := rng32 b; have s := c_lsub a.toInt64 b.toInt64; have r3 := rng64 (a.toInt64 - b.toInt64)
  have e : (0 : Int64).toInt = 0 := rfl
  rw [c_i2l, c_i2l] at s
  rw [Int64.lt_iff_toInt_lt, Int32.lt_iff_toInt_lt, e]
  omega
theorem own_lt64b {a b : Int32} : ((b.toInt64) - (a.toInt64)) < (1 : Int64) ↔ ¬ a < b := by
  have r1 := rng32 a; have r2 := rng32 b; have s := c_lsub b.toInt64 a.toInt64; have r3 := rng64 (b.toInt64 - a.toInt64)
  have e : (1 : Int64).toInt = 1 := rfl
  rw [c_i2l, c_i2l] at s
  rw [Int64.lt_iff_toInt_lt, Int32.lt_iff_toInt_lt, e]
  omega
theorem d1_0 : decode prog_72_method_1_code 0 = .ok (.aload_n 0, 1) := by decide +kernel
theorem d1_1 : decode prog_72_method_1_code 1 = .ok (.invokespecial 1, 3) := by decide +kernel
theorem d2_0 : decode jdk_30_method_1_code 0 = .ok (.aload_n 0, 1) := by decide +kernel
theorem d2_1 : decode jdk_30_method_1_code 1 = .ok (.invokespecial 1, 3) := by decide +kernel
theorem d2_4 : decode jdk_30_method_1_code 4 = .ok (.return_, 1) := by decide +kernel
theorem pn_0 : plainName "java/lang/Record" = true := by first | (simp [plainName, overriddenIn]; done) | decide +kernel
theorem ef_0 (m : MethodId) (x0 : Addr) : entryFrame m #[(.ref x0)] 1 = mkF m 0 #[.val (.ref x0)] [] := by first | (simp [entryFrame, mkF, argsToLocals, Value.category]; done) | rfl
-- Record.init 
def Q2_1 (Z : State) (u1 : Addr) (h0 : Heap) (n0 : Nat) (v : Option Value) (h : Heap) (L : List Loc) : Prop := v = none ∧ Fr n0 L ∧ h = h0
set_option maxRecDepth 65536 in
set_option maxHeartbeats 40000000 in
theorem rm2_1 (l : Launch) (Z : State) (a0 : Array Value) (hw : HW Z a0) (ws : List Jvm.Cond) (u1 : Addr) (h0 : Heap) (n0 : Nat) (Z0 : n0 ≤ h0.size) :
    MF l Z (⟨"java/lang/Record", "<init>", "()V"⟩ : MethodName) (Jvm.Cond.code (⟨"java/lang/Record", "<init>", "()V"⟩ : MethodName) jdk_30_method_1_code 1 none) ws ({ frames := 1, cells := 0, slots := 0, locals := 12 } : Room) #[(.ref u1)] h0 (Q2_1 Z u1 h0 n0) := by
  refine MetFree.of_bodySF (plainFor_of_name pn_0) hisR ?_
  intro p e s m args below meth c s₁ Bd hml0 hP hK
  obtain ⟨rfl, hZ, hh⟩ := hP
  have hx := Bd.exec
  have hby := Bd.bytes
  have hml : c.maxLocals = 1 := hml0
  have hown : s.vm.findClass "java/lang/Record" = some m.cls := findClass_of_methodNamed Bd.named
  have hnm := (name_of_methodNamed Bd.named Bd.method).1
  have X0 : Stand p l e ({ frames := 1, cells := 0, slots := 0, locals := 12 } : Room) s m #[(.ref u1)] below meth c s₁ [] 0 0 := Stand.of_body Bd
  have e0 : s₁.heap = h0 := by rw [← hh, Bd.state]; rfl
  have N0 := Fr.nil n0
  have pre0 : ∀ t, SF p e below s₁ (mkF m 0 #[rv u1] []) t → SF p e below s₁ (entryFrame m #[(.ref u1)] 1) t := fun t k => castTop (ef_0 m u1) k
  obtain ⟨T1, X1, e1, st1⟩ := initO X0 hx hZ hown (tw hw 11 rfl) (tw hw 12 rfl) (tw hw 13 rfl) e0 (g := (mkF m 1 #[rv u1] [(.ref u1)])) rfl (by rw [hml]; rfl) rfl (hb hby d2_1) (by decide) (W := 0) (by show 2 * 0 + _ ≤ _; exact Nat.le_of_eq rfl) (by decide)
  obtain ⟨fs, hr, hrun, hended, hW, hsame⟩ := X1.leave (v := none) (fun _ => rfl)
  refine ⟨_, _, pre0 _ ?_, hrun, hended, _, _, rfl, ?_, ⟨_, rfl⟩, hW, hsame.mono (by decide) (by decide)⟩
  · show SF p e below s₁ (mkF m 0 #[rv u1] []) _
    refine XS.aloadN X0.here hx rfl (hb hby d2_0) rfl rfl ?_
    show SF p e below s₁ (mkF m 1 #[rv u1] [(.ref u1)]) _
    refine st1 _ ?_
    show SF p e below T1 (mkF m 4 #[rv u1] []) _
    exact X1.returnOut hx Bd.returns (hb hby d2_4) hr
  · show Q2_1 Z u1 h0 n0 _ T1.heap _
    rw [e1]
    exact ⟨rfl, N0, rfl⟩
theorem pd_0 : parseMethodDescriptor "()V" = some ⟨[], none⟩ := by decide +kernel
theorem d1_4 : decode prog_72_method_1_code 4 = .ok (.aload_n 0, 1) := by decide +kernel
theorem d1_5 : decode prog_72_method_1_code 5 = .ok (.iload_n 1, 1) := by decide +kernel
theorem d1_6 : decode prog_72_method_1_code 6 = .ok (.putfield 7, 3) := by decide +kernel
theorem d1_9 : decode prog_72_method_1_code 9 = .ok (.aload_n 0, 1) := by decide +kernel
theorem d1_10 : decode prog_72_method_1_code 10 = .ok (.iload_n 2, 1) := by decide +kernel
theorem d1_11 : decode prog_72_method_1_code 11 = .ok (.putfield 13, 3) := by decide +kernel
theorem d1_14 : decode prog_72_method_1_code 14 = .ok (.aload_n 0, 1) := by decide +kernel
theorem d1_15 : decode prog_72_method_1_code 15 = .ok (.iload_n 3, 1) := by decide +kernel
theorem d1_16 : decode prog_72_method_1_code 16 = .ok (.putfield 16, 3) := by decide +kernel
theorem d1_19 : decode prog_72_method_1_code 19 = .ok (.return_, 1) := by decide +kernel
theorem pn_1 : plainName "com/example/clausewright/clausewright/TableOfContentsReader$Table" = true := by first | (simp [plainName, overriddenIn]; done) | decide +kernel
theorem ef_1 (m : MethodId) (x0 : Addr) (x1 : Int32) (x2 : Int32) (x3 : Int32) : entryFrame m #[(.ref x0), (.int x1), (.int x2), (.int x3)] 4 = mkF m 0 #[.val (.ref x0), .val (.int x1), .val (.int x2), .val (.int x3)] [] := by first | (simp [entryFrame, mkF, argsToLocals, Value.category]; done) | rfl
-- TableOfContentsReader$Table.init 
def Q1_2 (Z : State) (u1 : Addr) (u2 : Int32) (u3 : Int32) (u4 : Int32) (h0 : Heap) (n0 : Nat) (v : Option Value) (h : Heap) (L : List Loc) : Prop := v = none ∧ Fr n0 L ∧ Keep h0 h [u1] ∧ Exa Z h u1 "com/example/clausewright/clausewright/TableOfContentsReader$Table" ∧ Fld Z h u1 "com/example/clausewright/clausewright/TableOfContentsReader$Table" "title" "I" (.int u2) ∧ Fld Z h u1 "com/example/clausewright/clausewright/TableOfContentsReader$Table" "firstEntry" "I" (.int u3) ∧ Fld Z h u1 "com/example/clausewright/clausewright/TableOfContentsReader$Table" "end" "I" (.int u4)
set_option maxRecDepth 65536 in
set_option maxHeartbeats 40000000 in
theorem rm1_2 (l : Launch) (Z : State) (a0 : Array Value) (hw : HW Z a0) (ws : List Jvm.Cond) (u1 : Addr) (u2 : Int32) (u3 : Int32) (u4 : Int32) (h0 : Heap) (n0 : Nat) (Z0 : n0 ≤ h0.size) (P1 : Exa Z h0 u1 "com/example/clausewright/clausewright/TableOfContentsReader$Table") (P2 : Fld Z h0 u1 "com/example/clausewright/clausewright/TableOfContentsReader$Table" "title" "I" (.int 0)) (P3 : Fld Z h0 u1 "com/example/clausewright/clausewright/TableOfContentsReader$Table" "firstEntry" "I" (.int 0)) (P4 : Fld Z h0 u1 "com/example/clausewright/clausewright/TableOfContentsReader$Table" "end" "I" (.int 0)) (P5 : n0 ≤ u1) :
    MF l Z (⟨"com/example/clausewright/clausewright/TableOfContentsReader$Table", "<init>", "(III)V"⟩ : MethodName) (Jvm.Cond.code (⟨"com/example/clausewright/clausewright/TableOfContentsReader$Table", "<init>", "(III)V"⟩ : MethodName) prog_72_method_1_code 4 none) ws ({ frames := 2, cells := 0, slots := 0, locals := 24 } : Room) #[(.ref u1), (.int u2), (.int u3), (.int u4)] h0 (Q1_2 Z u1 u2 u3 u4 h0 n0) := by
  refine MetFree.of_bodySF (plainFor_of_name pn_1) hisR ?_
  intro p e s m args below meth c s₁ Bd hml0 hP hK
  obtain ⟨rfl, hZ, hh⟩ := hP
  have hx := Bd.exec
  have hby := Bd.bytes
  have hml : c.maxLocals = 4 := hml0
  have hown : s.vm.findClass "com/example/clausewright/clausewright/TableOfContentsReader$Table" = some m.cls := findClass_of_methodNamed Bd.named
  have hnm := (name_of_methodNamed Bd.named Bd.method).1
  have X0 : Stand p l e ({ frames := 2, cells := 0, slots := 0, locals := 24 } : Room) s m #[(.ref u1), (.int u2), (.int u3), (.int u4)] below meth c s₁ [] 0 0 := Stand.of_body Bd
  have e0 : s₁.heap = h0 := by rw [← hh, Bd.state]; rfl
  have N0 := Fr.nil n0
  have pre0 : ∀ t, SF p e below s₁ (mkF m 0 #[rv u1, iv u2, iv u3, iv u4] []) t → SF p e below s₁ (entryFrame m #[(.ref u1), (.int u2), (.int u3), (.int u4)] 4) t := fun t k => castTop (ef_1 m u1 u2 u3 u4) k
  obtain ⟨_, _, ⟨T1, L1, k1x, n1⟩, -, X1, ⟨Lc1, hQ1, l1, y1, z1⟩, st1⟩ := X0.specialBack hx (y := (⟨"java/lang/Record", "<init>", "()V"⟩ : MethodName)) rfl hown (mvT hZ (tw hw 6 rfl)) (mvT hZ (tw hw 7 rfl)) (mvT hZ (tw hw 10 rfl)) (by decide) (backOf (W := 0) (rm2_1 l Z a0 hw [] u1 h0 n0 Z0 ) hZ (tw hw 10 rfl) (tw hw 9 rfl) (by decide) (by decide)) (g := (mkF m 1 #[rv u1, iv u2, iv u3, iv u4] [(.ref u1)])) rfl (by rw [hml]; rfl) (Steps.refl _) (a := u1) (argsL := []) (rest := []) (lenOf pd_0 rfl) rfl (by show 2 * 0 + _ ≤ _; exact Nat.le_of_eq rfl) (hb hby d1_1) (fun _ _ => ⟨rfl, e0, (by decide : 0 + 0 ≤ _), (by decide : 0 + 0 ≤ _)⟩)
  dsimp only [Pt.U, Pt.locs, Pt.cells, Pt.slots] at X1 l1 y1 z1 st1 hQ1
  subst l1 y1 z1
  obtain ⟨rfl, N1q, e1⟩ := hQ1
  have N1 := Fr.app N0 N1q
  obtain ⟨T2, h2, X2, e2, W2, st2⟩ := putF X1 hx hZ hown (host := "") (Or.inl (tw hw 14 rfl)) Via.refl e1 P2 P1 (Or.inr ⟨(tw hw 15 rfl), rfl, hnm⟩) (tw hw 1 rfl) (ty := .int) (by decide) rfl rfl (g := (mkF m 6 #[rv u1, iv u2, iv u3, iv u4] [(.int u2), (.ref u1)])) rfl rfl (hb hby d1_6)
  have K2 : Keep h0 h2 [u1] := (Keep.refl h0 [u1]).wr W2 (Or.inl (List.mem_of_getElem? (i := 0) rfl))
  have N2 := Fr.snoc X2 N1 P5
  have Fw2 : Fld Z h2 u1 "com/example/clausewright/clausewright/TableOfContentsReader$Table" "title" "I" (.int u2) := P2.same W2
  have F1_3 : Exa Z h2 u1 "com/example/clausewright/clausewright/TableOfContentsReader$Table" := P1.wr W2
  have F1_4 : Fld Z h2 u1 "com/example/clausewright/clausewright/TableOfContentsReader$Table" "firstEntry" "I" (.int 0) := P3.other W2 (Or.inr (slot_ne (Or.inr (tw hw 17 rfl)) (Or.inr (tw hw 15 rfl)) (by decide) (t := .int) (t' := .int) (by decide) (by decide)))
  have F1_5 : Fld Z h2 u1 "com/example/clausewright/clausewright/TableOfContentsReader$Table" "end" "I" (.int 0) := P4.other W2 (Or.inr (slot_ne (Or.inr (tw hw 19 rfl)) (Or.inr (tw hw 15 rfl)) (by decide) (t := .int) (t' := .int) (by decide) (by decide)))
  obtain ⟨T6, h6, X6, e6, W6, st6⟩ := putF X2 hx hZ hown (host := "") (Or.inl (tw hw 16 rfl)) Via.refl e2 F1_4 F1_3 (Or.inr ⟨(tw hw 17 rfl), rfl, hnm⟩) (tw hw 1 rfl) (ty := .int) (by decide) rfl rfl (g := (mkF m 11 #[rv u1, iv u2, iv u3, iv u4] [(.int u3), (.ref u1)])) rfl rfl (hb hby d1_11)
  have K6 : Keep h0 h6 [u1] := K2.wr W6 (Or.inl (List.mem_of_getElem? (i := 0) rfl))
  have N6 := Fr.snoc X6 N2 P5
  have Fw6 : Fld Z h6 u1 "com/example/clausewright/clausewright/TableOfContentsReader$Table" "firstEntry" "I" (.int u3) := F1_4.same W6
  have F2_7 : Exa Z h6 u1 "com/example/clausewright/clausewright/TableOfContentsReader$Table" := F1_3.wr W6
  have F2_8 : Fld Z h6 u1 "com/example/clausewright/clausewright/TableOfContentsReader$Table" "end" "I" (.int 0) := F1_5.other W6 (Or.inr (slot_ne (Or.inr (tw hw 19 rfl)) (Or.inr (tw hw 17 rfl)) (by decide) (t := .int) (t' := .int) (by decide) (by decide)))
  have F2_9 : Fld Z h6 u1 "com/example/clausewright/clausewright/TableOfContentsReader$Table" "title" "I" (.int u2) := Fw2.other W6 (Or.inr (slot_ne (Or.inr (tw hw 15 rfl)) (Or.inr (tw hw 17 rfl)) (by decide) (t := .int) (t' := .int) (by decide) (by decide)))
  obtain ⟨T10, h10, X10, e10, W10, st10⟩ := putF X6 hx hZ hown (host := "") (Or.inl (tw hw 18 rfl)) Via.refl e6 F2_8 F2_7 (Or.inr ⟨(tw hw 19 rfl), rfl, hnm⟩) (tw hw 1 rfl) (ty := .int) (by decide) rfl rfl (g := (mkF m 16 #[rv u1, iv u2, iv u3, iv u4] [(.int u4), (.ref u1)])) rfl rfl (hb hby d1_16)
  have K10 : Keep h0 h10 [u1] := K6.wr W10 (Or.inl (List.mem_of_getElem? (i := 0) rfl))
  have N10 := Fr.snoc X10 N6 P5
  have Fw10 : Fld Z h10 u1 "com/example/clausewright/clausewright/TableOfContentsReader$Table" "end" "I" (.int u4) := F2_8.same W10
  have F3_11 : Exa Z h10 u1 "com/example/clausewright/clausewright/TableOfContentsReader$Table" := F2_7.wr W10
  have F3_12 : Fld Z h10 u1 "com/example/clausewright/clausewright/TableOfContentsReader$Table" "title" "I" (.int u2) := F2_9.other W10 (Or.inr (slot_ne (Or.inr (tw hw 15 rfl)) (Or.inr (tw hw 19 rfl)) (by decide) (t := .int) (t' := .int) (by decide) (by decide)))
  have F3_13 : Fld Z h10 u1 "com/example/clausewright/clausewright/TableOfContentsReader$Table" "firstEntry" "I" (.int u3) := Fw6.other W10 (Or.inr (slot_ne (Or.inr (tw hw 17 rfl)) (Or.inr (tw hw 19 rfl)) (by decide) (t := .int) (t' := .int) (by decide) (by decide)))
  obtain ⟨fs, hr, hrun, hended, hW, hsame⟩ := X10.leave (v := none) (fun _ => rfl)
  refine ⟨_, _, pre0 _ ?_, hrun, hended, _, _, rfl, ?_, ⟨_, rfl⟩, hW, hsame.mono (by decide) (by decide)⟩
  · show SF p e below s₁ (mkF m 0 #[rv u1, iv u2, iv u3, iv u4] []) _
    refine XS.aloadN X0.here hx rfl (hb hby d1_0) rfl rfl ?_
    show SF p e below s₁ (mkF m 1 #[rv u1, iv u2, iv u3, iv u4] [(.ref u1)]) _
    refine st1.trans ?_
    show SF p e below T1 (mkF m 4 #[rv u1, iv u2, iv u3, iv u4] []) _
    refine XS.aloadN X1.here hx rfl (hb hby d1_4) rfl rfl ?_
    show SF p e below T1 (mkF m 5 #[rv u1, iv u2, iv u3, iv u4] [(.ref u1)]) _
    refine XS.iloadN X1.here hx rfl (hb hby d1_5) rfl ?_
    show SF p e below T1 (mkF m 6 #[rv u1, iv u2, iv u3, iv u4] [(.int u2), (.ref u1)]) _
    refine st2 _ ?_
    show SF p e below T2 (mkF m 9 #[rv u1, iv u2, iv u3, iv u4] []) _
    refine XS.aloadN X2.here hx rfl (hb hby d1_9) rfl rfl ?_
    show SF p e below T2 (mkF m 10 #[rv u1, iv u2, iv u3, iv u4] [(.ref u1)]) _
    refine XS.iloadN X2.here hx rfl (hb hby d1_10) rfl ?_
    show SF p e below T2 (mkF m 11 #[rv u1, iv u2, iv u3, iv u4] [(.int u3), (.ref u1)]) _
    refine st6 _ ?_
    show SF p e below T6 (mkF m 14 #[rv u1, iv u2, iv u3, iv u4] []) _
    refine XS.aloadN X6.here hx rfl (hb hby d1_14) rfl rfl ?_
    show SF p e below T6 (mkF m 15 #[rv u1, iv u2, iv u3, iv u4] [(.ref u1)]) _
    refine XS.iloadN X6.here hx rfl (hb hby d1_15) rfl ?_
    show SF p e below T6 (mkF m 16 #[rv u1, iv u2, iv u3, iv u4] [(.int u4), (.ref u1)]) _
    refine st10 _ ?_
    show SF p e below T10 (mkF m 19 #[rv u1, iv u2, iv u3, iv u4] []) _
    exact X10.returnOut hx Bd.returns (hb hby d1_19) hr
  · show Q1_2 Z u1 u2 u3 u4 h0 n0 _ T10.heap _
    rw [e10]
    exact ⟨rfl, N10, K10, F3_11, F3_12, F3_13, Fw10⟩
theorem pd_1 : parseMethodDescriptor "(III)V" = some ⟨[.int, .int, .int], none⟩ := by decide +kernel
theorem own_strA : ∀ d ∈ Bundle.stringAtoms, d ∈ tables_1 := by decide +kernel
theorem d4_0 : decode prog_53_method_1_code 0 = .ok (.aload_n 0, 1) := by decide +kernel
theorem d4_1 : decode prog_53_method_1_code 1 = .ok (.invokespecial 1, 3) := by decide +kernel
theorem d4_4 : decode prog_53_method_1_code 4 = .ok (.aload_n 0, 1) := by decide +kernel
theorem d4_5 : decode prog_53_method_1_code 5 = .ok (.aload_n 1, 1) := by decide +kernel
theorem d4_6 : decode prog_53_method_1_code 6 = .ok (.putfield 7, 3) := by decide +kernel
theorem d4_9 : decode prog_53_method_1_code 9 = .ok (.aload_n 0, 1) := by decide +kernel
theorem d4_10 : decode prog_53_method_1_code 10 = .ok (.aload_n 2, 1) := by decide +kernel
theorem d4_11 : decode prog_53_method_1_code 11 = .ok (.putfield 13, 3) := by decide +kernel
theorem d4_14 : decode prog_53_method_1_code 14 = .ok (.aload_n 0, 1) := by decide +kernel
theorem d4_15 : decode prog_53_method_1_code 15 = .ok (.iload_n 3, 1) := by decide +kernel
theorem d4_16 : decode prog_53_method_1_code 16 = .ok (.putfield 17, 3) := by decide +kernel
theorem d4_19 : decode prog_53_method_1_code 19 = .ok (.aload_n 0, 1) := by decide +kernel
theorem d4_20 : decode prog_53_method_1_code 20 = .ok (.iload 4, 2) := by decide +kernel
theorem d4_22 : decode prog_53_method_1_code 22 = .ok (.putfield 21, 3) := by decide +kernel
theorem d4_25 : decode prog_53_method_1_code 25 = .ok (.return_, 1) := by decide +kernel
theorem pn_2 : plainName "com/example/clausewright/clausewright/Start" = true := by first | (simp [plainName, overriddenIn]; done) | decide +kernel
theorem ef_2 (m : MethodId) (x0 : Addr) (x1 : Addr) (x2 : Addr) (x3 : Int32) (x4 : Int32) : entryFrame m #[(.ref x0), (.ref x1), (.ref x2), (.int x3), (.int x4)] 5 = mkF m 0 #[.val (.ref x0), .val (.ref x1), .val (.ref x2), .val (.int x3), .val (.int x4)] [] := by first | (simp [entryFrame, mkF, argsToLocals, Value.category]; done) | rfl
-- Start.init 
def Q4_3 (Z : State) (u1 : Addr) (w1 : Addr) (u2 : Addr) (u3 : Int32) (u4 : Int32) (h0 : Heap) (n0 : Nat) (v : Option Value) (h : Heap) (L : List Loc) : Prop := v = none ∧ Fr n0 L ∧ Keep h0 h [u1] ∧ Exa Z h u1 "com/example/clausewright/clausewright/Start" ∧ Fld Z h u1 "com/example/clausewright/clausewright/Start" "kind" "Lcom/example/clausewright/clausewright/Division$Kind;" (.ref w1) ∧ Fld Z h u1 "com/example/clausewright/clausewright/Start" "number" "Ljava/lang/String;" (.ref u2) ∧ Fld Z h u1 "com/example/clausewright/clausewright/Start" "offset" "I" (.int u3) ∧ Fld Z h u1 "com/example/clausewright/clausewright/Start" "headingStart" "I" (.int u4)
set_option maxRecDepth 65536 in
set_option maxHeartbeats 40000000 in
theorem rm4_3 (l : Launch) (Z : State) (a0 : Array Value) (hw : HW Z a0) (ws : List Jvm.Cond) (u1 : Addr) (w1 : Addr) (u2 : Addr) (u3 : Int32) (u4 : Int32) (h0 : Heap) (n0 : Nat) (Z0 : n0 ≤ h0.size) (P1 : Exa Z h0 u1 "com/example/clausewright/clausewright/Start") (P2 : Fld Z h0 u1 "com/example/clausewright/clausewright/Start" "kind" "Lcom/example/clausewright/clausewright/Division$Kind;" .null) (P3 : Fld Z h0 u1 "com/example/clausewright/clausewright/Start" "number" "Ljava/lang/String;" .null) (P4 : Fld Z h0 u1 "com/example/clausewright/clausewright/Start" "offset" "I" (.int 0)) (P5 : Fld Z h0 u1 "com/example/clausewright/clausewright/Start" "headingStart" "I" (.int 0)) (P6 : n0 ≤ u1) :
    MF l Z (⟨"com/example/clausewright/clausewright/Start", "<init>", "(Lcom/example/clausewright/clausewright/Division$Kind;Ljava/lang/String;II)V"⟩ : MethodName) (Jvm.Cond.code (⟨"com/example/clausewright/clausewright/Start", "<init>", "(Lcom/example/clausewright/clausewright/Division$Kind;Ljava/lang/String;II)V"⟩ : MethodName) prog_53_method_1_code 5 none) ws ({ frames := 2, cells := 0, slots := 0, locals := 24 } : Room) #[(.ref u1), (.ref w1), (.ref u2), (.int u3), (.int u4)] h0 (Q4_3 Z u1 w1 u2 u3 u4 h0 n0) := by
  refine MetFree.of_bodySF (plainFor_of_name pn_2) hisR ?_
  intro p e s m args below meth c s₁ Bd hml0 hP hK
  obtain ⟨rfl, hZ, hh⟩ := hP
  have hx := Bd.exec
  have hby := Bd.bytes
  have hml : c.maxLocals = 5 := hml0
  have hown : s.vm.findClass "com/example/clausewright/clausewright/Start" = some m.cls := findClass_of_methodNamed Bd.named
  have hnm := (name_of_methodNamed Bd.named Bd.method).1
  have X0 : Stand p l e ({ frames := 2, cells := 0, slots := 0, locals := 24 } : Room) s m #[(.ref u1), (.ref w1), (.ref u2), (.int u3), (.int u4)] below meth c s₁ [] 0 0 := Stand.of_body Bd
  have e0 : s₁.heap = h0 := by rw [← hh, Bd.state]; rfl
  have N0 := Fr.nil n0
  have pre0 : ∀ t, SF p e below s₁ (mkF m 0 #[rv u1, rv w1, rv u2, iv u3, iv u4] []) t → SF p e below s₁ (entryFrame m #[(.ref u1), (.ref w1), (.ref u2), (.int u3), (.int u4)] 5) t := fun t k => castTop (ef_2 m u1 w1 u2 u3 u4) k
  obtain ⟨_, _, ⟨T1, L1, k1x, n1⟩, -, X1, ⟨Lc1, hQ1, l1, y1, z1⟩, st1⟩ := X0.specialBack hx (y := (⟨"java/lang/Record", "<init>", "()V"⟩ : MethodName)) rfl hown (mvT hZ (tw hw 37 rfl)) (mvT hZ (tw hw 7 rfl)) (mvT hZ (tw hw 10 rfl)) (by decide) (backOf (W := 0) (rm2_1 l Z a0 hw [] u1 h0 n0 Z0 ) hZ (tw hw 10 rfl) (tw hw 9 rfl) (by decide) (by decide)) (g := (mkF m 1 #[rv u1, rv w1, rv u2, iv u3, iv u4] [(.ref u1)])) rfl (by rw [hml]; rfl) (Steps.refl _) (a := u1) (argsL := []) (rest := []) (lenOf pd_0 rfl) rfl (by show 2 * 0 + _ ≤ _; exact Nat.le_of_eq rfl) (hb hby d4_1) (fun _ _ => ⟨rfl, e0, (by decide : 0 + 0 ≤ _), (by decide : 0 + 0 ≤ _)⟩)
  dsimp only [Pt.U, Pt.locs, Pt.cells, Pt.slots] at X1 l1 y1 z1 st1 hQ1
  subst l1 y1 z1
  obtain ⟨rfl, N1q, e1⟩ := hQ1
  have N1 := Fr.app N0 N1q
  obtain ⟨T2, h2, X2, e2, W2, st2⟩ := putF X1 hx hZ hown (host := "") (Or.inl (tw hw 38 rfl)) Via.refl e1 P2 P1 (Or.inr ⟨(tw hw 39 rfl), rfl, hnm⟩) (tw hw 21 rfl) (ty := (.object "com/example/clausewright/clausewright/Division$Kind")) (by decide) rfl rfl (g := (mkF m 6 #[rv u1, rv w1, rv u2, iv u3, iv u4] [(.ref w1), (.ref u1)])) rfl rfl (hb hby d4_6)
  have K2 : Keep h0 h2 [u1] := (Keep.refl h0 [u1]).wr W2 (Or.inl (List.mem_of_getElem? (i := 0) rfl))
  have N2 := Fr.snoc X2 N1 P6
  have Fw2 : Fld Z h2 u1 "com/example/clausewright/clausewright/Start" "kind" "Lcom/example/clausewright/clausewright/Division$Kind;" (.ref w1) := P2.same W2
  have F1_3 : Exa Z h2 u1 "com/example/clausewright/clausewright/Start" := P1.wr W2
  have F1_4 : Fld Z h2 u1 "com/example/clausewright/clausewright/Start" "number" "Ljava/lang/String;" .null := P3.other W2 (Or.inr (slot_ne (Or.inr (tw hw 41 rfl)) (Or.inr (tw hw 39 rfl)) (by decide) (t := (.object "java/lang/String")) (t' := (.object "com/example/clausewright/clausewright/Division$Kind")) (by decide) (by decide)))
  have F1_5 : Fld Z h2 u1 "com/example/clausewright/clausewright/Start" "offset" "I" (.int 0) := P4.other W2 (Or.inr (slot_ne (Or.inr (tw hw 43 rfl)) (Or.inr (tw hw 39 rfl)) (by decide) (t := .int) (t' := (.object "com/example/clausewright/clausewright/Division$Kind")) (by decide) (by decide)))
  have F1_6 : Fld Z h2 u1 "com/example/clausewright/clausewright/Start" "headingStart" "I" (.int 0) := P5.other W2 (Or.inr (slot_ne (Or.inr (tw hw 45 rfl)) (Or.inr (tw hw 39 rfl)) (by decide) (t := .int) (t' := (.object "com/example/clausewright/clausewright/Division$Kind")) (by decide) (by decide)))
  obtain ⟨T7, h7, X7, e7, W7, st7⟩ := putF X2 hx hZ hown (host := "") (Or.inl (tw hw 40 rfl)) Via.refl e2 F1_4 F1_3 (Or.inr ⟨(tw hw 41 rfl), rfl, hnm⟩) (tw hw 21 rfl) (ty := (.object "java/lang/String")) (by decide) rfl rfl (g := (mkF m 11 #[rv u1, rv w1, rv u2, iv u3, iv u4] [(.ref u2), (.ref u1)])) rfl rfl (hb hby d4_11)
  have K7 : Keep h0 h7 [u1] := K2.wr W7 (Or.inl (List.mem_of_getElem? (i := 0) rfl))
  have N7 := Fr.snoc X7 N2 P6
  have Fw7 : Fld Z h7 u1 "com/example/clausewright/clausewright/Start" "number" "Ljava/lang/String;" (.ref u2) := F1_4.same W7
  have F2_8 : Exa Z h7 u1 "com/example/clausewright/clausewright/Start" := F1_3.wr W7
  have F2_9 : Fld Z h7 u1 "com/example/clausewright/clausewright/Start" "offset" "I" (.int 0) := F1_5.other W7 (Or.inr (slot_ne (Or.inr (tw hw 43 rfl)) (Or.inr (tw hw 41 rfl)) (by decide) (t := .int) (t' := (.object "java/lang/String")) (by decide) (by decide)))
  have F2_10 : Fld Z h7 u1 "com/example/clausewright/clausewright/Start" "kind" "Lcom/example/clausewright/clausewright/Division$Kind;" (.ref w1) := Fw2.other W7 (Or.inr (slot_ne (Or.inr (tw hw 39 rfl)) (Or.inr (tw hw 41 rfl)) (by decide) (t := (.object "com/example/clausewright/clausewright/Division$Kind")) (t' := (.object "java/lang/String")) (by decide) (by decide)))
  have F2_11 : Fld Z h7 u1 "com/example/clausewright/clausewright/Start" "headingStart" "I" (.int 0) := F1_6.other W7 (Or.inr (slot_ne (Or.inr (tw hw 45 rfl)) (Or.inr (tw hw 41 rfl)) (by decide) (t := .int) (t' := (.object "java/lang/String")) (by decide) (by decide)))
  obtain ⟨T12, h12, X12, e12, W12, st12⟩ := putF X7 hx hZ hown (host := "") (Or.inl (tw hw 42 rfl)) Via.refl e7 F2_9 F2_8 (Or.inr ⟨(tw hw 43 rfl), rfl, hnm⟩) (tw hw 21 rfl) (ty := .int) (by decide) rfl rfl (g := (mkF m 16 #[rv u1, rv w1, rv u2, iv u3, iv u4] [(.int u3), (.ref u1)])) rfl rfl (hb hby d4_16)
  have K12 : Keep h0 h12 [u1] := K7.wr W12 (Or.inl (List.mem_of_getElem? (i := 0) rfl))
  have N12 := Fr.snoc X12 N7 P6
  have Fw12 : Fld Z h12 u1 "com/example/clausewright/clausewright/Start" "offset" "I" (.int u3) := F2_9.same W12
  have F3_13 : Exa Z h12 u1 "com/example/clausewright/clausewright/Start" := F2_8.wr W12
  have F3_14 : Fld Z h12 u1 "com/example/clausewright/clausewright/Start" "headingStart" "I" (.int 0) := F2_11.other W12 (Or.inr (slot_ne (Or.inr (tw hw 45 rfl)) (Or.inr (tw hw 43 rfl)) (by decide) (t := .int) (t' := .int) (by decide) (by decide)))
  have F3_15 : Fld Z h12 u1 "com/example/clausewright/clausewright/Start" "kind" "Lcom/example/clausewright/clausewright/Division$Kind;" (.ref w1) := F2_10.other W12 (Or.inr (slot_ne (Or.inr (tw hw 39 rfl)) (Or.inr (tw hw 43 rfl)) (by decide) (t := (.object "com/example/clausewright/clausewright/Division$Kind")) (t' := .int) (by decide) (by decide)))
  have F3_16 : Fld Z h12 u1 "com/example/clausewright/clausewright/Start" "number" "Ljava/lang/String;" (.ref u2) := Fw7.other W12 (Or.inr (slot_ne (Or.inr (tw hw 41 rfl)) (Or.inr (tw hw 43 rfl)) (by decide) (t := (.object "java/lang/String")) (t' := .int) (by decide) (by decide)))
  obtain ⟨T17, h17, X17, e17, W17, st17⟩ := putF X12 hx hZ hown (host := "") (Or.inl (tw hw 44 rfl)) Via.refl e12 F3_14 F3_13 (Or.inr ⟨(tw hw 45 rfl), rfl, hnm⟩) (tw hw 21 rfl) (ty := .int) (by decide) rfl rfl (g := (mkF m 22 #[rv u1, rv w1, rv u2, iv u3, iv u4] [(.int u4), (.ref u1)])) rfl rfl (hb hby d4_22)
  have K17 : Keep h0 h17 [u1] := K12.wr W17 (Or.inl (List.mem_of_getElem? (i := 0) rfl))
  have N17 := Fr.snoc X17 N12 P6
  have Fw17 : Fld Z h17 u1 "com/example/clausewright/clausewright/Start" "headingStart" "I" (.int u4) := F3_14.same W17
  have F4_18 : Exa Z h17 u1 "com/example/clausewright/clausewright/Start" := F3_13.wr W17
  have F4_19 : Fld Z h17 u1 "com/example/clausewright/clausewright/Start" "kind" "Lcom/example/clausewright/clausewright/Division$Kind;" (.ref w1) := F3_15.other W17 (Or.inr (slot_ne (Or.inr (tw hw 39 rfl)) (Or.inr (tw hw 45 rfl)) (by decide) (t := (.object "com/example/clausewright/clausewright/Division$Kind")) (t' := .int) (by decide) (by decide)))
  have F4_20 : Fld Z h17 u1 "com/example/clausewright/clausewright/Start" "number" "Ljava/lang/String;" (.ref u2) := F3_16.other W17 (Or.inr (slot_ne (Or.inr (tw hw 41 rfl)) (Or.inr (tw hw 45 rfl)) (by decide) (t := (.object "java/lang/String")) (t' := .int) (by decide) (by decide)))
  have F4_21 : Fld Z h17 u1 "com/example/clausewright/clausewright/Start" "offset" "I" (.int u3) := Fw12.other W17 (Or.inr (slot_ne (Or.inr (tw hw 43 rfl)) (Or.inr (tw hw 45 rfl)) (by decide) (t := .int) (t' := .int) (by decide) (by decide)))
  obtain ⟨fs, hr, hrun, hended, hW, hsame⟩ := X17.leave (v := none) (fun _ => rfl)
  refine ⟨_, _, pre0 _ ?_, hrun, hended, _, _, rfl, ?_, ⟨_, rfl⟩, hW, hsame.mono (by decide) (by decide)⟩
  · show SF p e below s₁ (mkF m 0 #[rv u1, rv w1, rv u2, iv u3, iv u4] []) _
    refine XS.aloadN X0.here hx rfl (hb hby d4_0) rfl rfl ?_
    show SF p e below s₁ (mkF m 1 #[rv u1, rv w1, rv u2, iv u3, iv u4] [(.ref u1)]) _
    refine st1.trans ?_
    show SF p e below T1 (mkF m 4 #[rv u1, rv w1, rv u2, iv u3, iv u4] []) _
    refine XS.aloadN X1.here hx rfl (hb hby d4_4) rfl rfl ?_
    show SF p e below T1 (mkF m 5 #[rv u1, rv w1, rv u2, iv u3, iv u4] [(.ref u1)]) _
    refine XS.aloadN X1.here hx rfl (hb hby d4_5) rfl rfl ?_
    show SF p e below T1 (mkF m 6 #[rv u1, rv w1, rv u2, iv u3, iv u4] [(.ref w1), (.ref u1)]) _
    refine st2 _ ?_
    show SF p e below T2 (mkF m 9 #[rv u1, rv w1, rv u2, iv u3, iv u4] []) _
    refine XS.aloadN X2.here hx rfl (hb hby d4_9) rfl rfl ?_
    show SF p e below T2 (mkF m 10 #[rv u1, rv w1, rv u2, iv u3, iv u4] [(.ref u1)]) _
    refine XS.aloadN X2.here hx rfl (hb hby d4_10) rfl rfl ?_
    show SF p e below T2 (mkF m 11 #[rv u1, rv w1, rv u2, iv u3, iv u4] [(.ref u2), (.ref u1)]) _
    refine st7 _ ?_
    show SF p e below T7 (mkF m 14 #[rv u1, rv w1, rv u2, iv u3, iv u4] []) _
    refine XS.aloadN X7.here hx rfl (hb hby d4_14) rfl rfl ?_
    show SF p e below T7 (mkF m 15 #[rv u1, rv w1, rv u2, iv u3, iv u4] [(.ref u1)]) _
    refine XS.iloadN X7.here hx rfl (hb hby d4_15) rfl ?_
    show SF p e below T7 (mkF m 16 #[rv u1, rv w1, rv u2, iv u3, iv u4] [(.int u3), (.ref u1)]) _
    refine st12 _ ?_
    show SF p e below T12 (mkF m 19 #[rv u1, rv w1, rv u2, iv u3, iv u4] []) _
    refine XS.aloadN X12.here hx rfl (hb hby d4_19) rfl rfl ?_
    show SF p e below T12 (mkF m 20 #[rv u1, rv w1, rv u2, iv u3, iv u4] [(.ref u1)]) _
    refine XS.iload X12.here hx rfl (hb hby d4_20) rfl ?_
    show SF p e below T12 (mkF m 22 #[rv u1, rv w1, rv u2, iv u3, iv u4] [(.int u4), (.ref u1)]) _
    refine st17 _ ?_
    show SF p e below T17 (mkF m 25 #[rv u1, rv w1, rv u2, iv u3, iv u4] []) _
    exact X17.returnOut hx Bd.returns (hb hby d4_25) hr
  · show Q4_3 Z u1 w1 u2 u3 u4 h0 n0 _ T17.heap _
    rw [e17]
    exact ⟨rfl, N17, K17, F4_18, F4_19, F4_20, F4_21, Fw17⟩
theorem pd_2 : parseMethodDescriptor "(Lcom/example/clausewright/clausewright/Division$Kind;Ljava/lang/String;II)V" = some ⟨[(.object "com/example/clausewright/clausewright/Division$Kind"), (.object "java/lang/String"), .int, .int], none⟩ := by decide +kernel
theorem d5_0 : decode prog_72_method_2_code 0 = .ok (.aload_n 1, 1) := by decide +kernel
theorem d5_1 : decode prog_72_method_2_code 1 = .ok (.invokevirtual 19, 3) := by decide +kernel
theorem d6_0 : decode prog_53_method_17_code 0 = .ok (.aload_n 0, 1) := by decide +kernel
theorem d6_1 : decode prog_53_method_17_code 1 = .ok (.getfield 17, 3) := by decide +kernel
theorem d6_4 : decode prog_53_method_17_code 4 = .ok (.ireturn, 1) := by decide +kernel
theorem ef_3 (m : MethodId) (x0 : Addr) : entryFrame m #[(.ref x0)] 1 = mkF m 0 #[.val (.ref x0)] [] := by first | (simp [entryFrame, mkF, argsToLocals, Value.category]; done) | rfl
-- Start.offset 
def Q6_4 (Z : State) (u1 : Addr) (u2 : Int32) (h0 : Heap) (n0 : Nat) (v : Option Value) (h : Heap) (L : List Loc) : Prop := v = some (.int u2) ∧ Fr n0 L ∧ h = h0
set_option maxRecDepth 65536 in
set_option maxHeartbeats 40000000 in
theorem rm6_4 (l : Launch) (Z : State) (a0 : Array Value) (hw : HW Z a0) (ws : List Jvm.Cond) (u1 : Addr) (u2 : Int32) (h0 : Heap) (n0 : Nat) (Z0 : n0 ≤ h0.size) (P1 : Fld Z h0 u1 "com/example/clausewright/clausewright/Start" "offset" "I" (.int u2)) :
    MF l Z (⟨"com/example/clausewright/clausewright/Start", "offset", "()I"⟩ : MethodName) (Jvm.Cond.code (⟨"com/example/clausewright/clausewright/Start", "offset", "()I"⟩ : MethodName) prog_53_method_17_code 1 (some .int)) ws ({ frames := 0, cells := 0, slots := 0, locals := 0 } : Room) #[(.ref u1)] h0 (Q6_4 Z u1 u2 h0 n0) := by
  refine MetFree.of_bodySF (plainFor_of_name pn_2) hisR ?_
  intro p e s m args below meth c s₁ Bd hml0 hP hK
  obtain ⟨rfl, hZ, hh⟩ := hP
  have hx := Bd.exec
  have hby := Bd.bytes
  have hml : c.maxLocals = 1 := hml0
  have hown : s.vm.findClass "com/example/clausewright/clausewright/Start" = some m.cls := findClass_of_methodNamed Bd.named
  have hnm := (name_of_methodNamed Bd.named Bd.method).1
  have X0 : Stand p l e ({ frames := 0, cells := 0, slots := 0, locals := 0 } : Room) s m #[(.ref u1)] below meth c s₁ [] 0 0 := Stand.of_body Bd
  have e0 : s₁.heap = h0 := by rw [← hh, Bd.state]; rfl
  have N0 := Fr.nil n0
  have pre0 : ∀ t, SF p e below s₁ (mkF m 0 #[rv u1] []) t → SF p e below s₁ (entryFrame m #[(.ref u1)] 1) t := fun t k => castTop (ef_3 m u1) k
  obtain ⟨T1, X1, e1, st1⟩ := getF X0 hx hZ hown (host := "") (Or.inl (tw hw 42 rfl)) Via.refl e0 P1 (g := (mkF m 1 #[rv u1] [(.ref u1)])) rfl rfl (hb hby d6_1)
  obtain ⟨fs, hr, hrun, hended, hW, hsame⟩ := X1.leave (v := some (.int u2)) (fun h => by rw [Bd.returns] at h; cases h)
  refine ⟨_, _, pre0 _ ?_, hrun, hended, _, _, rfl, ?_, ⟨_, rfl⟩, hW, hsame.mono (by decide) (by decide)⟩
  · show SF p e below s₁ (mkF m 0 #[rv u1] []) _
    refine XS.aloadN X0.here hx rfl (hb hby d6_0) rfl rfl ?_
    show SF p e below s₁ (mkF m 1 #[rv u1] [(.ref u1)]) _
    refine st1 _ ?_
    show SF p e below T1 (mkF m 4 #[rv u1] [(.int u2)]) _
    exact retI X1 hx Bd.returns (hb hby d6_4) hr
  · show Q6_4 Z u1 u2 h0 n0 _ T1.heap _
    rw [e1]
    exact ⟨rfl, N0, rfl⟩
theorem pd_3 : parseMethodDescriptor "()I" = some ⟨[], some .int⟩ := by decide +kernel
theorem d5_4 : decode prog_72_method_2_code 4 = .ok (.aload_n 0, 1) := by decide +kernel
theorem d5_5 : decode prog_72_method_2_code 5 = .ok (.getfield 7, 3) := by decide +kernel
theorem d5_8 : decode prog_72_method_2_code 8 = .ok (.if_icmp .lt 18, 3) := by decide +kernel
theorem d5_26 : decode prog_72_method_2_code 26 = .ok (.iconst 0, 1) := by decide +kernel
theorem d5_27 : decode prog_72_method_2_code 27 = .ok (.ireturn, 1) := by decide +kernel
theorem ef_4 (m : MethodId) (x0 : Addr) (x1 : Addr) : entryFrame m #[(.ref x0), (.ref x1)] 2 = mkF m 0 #[.val (.ref x0), .val (.ref x1)] [] := by first | (simp [entryFrame, mkF, argsToLocals, Value.category]; done) | rfl
-- TableOfContentsReader$Table.holds 
def Q5_5 (Z : State) (u1 : Addr) (u2 : Addr) (u3 : Int32) (u4 : Int32) (h0 : Heap) (n0 : Nat) (v : Option Value) (h : Heap) (L : List Loc) : Prop := v = some (.int 0) ∧ Fr n0 L ∧ h = h0
set_option maxRecDepth 65536 in
set_option maxHeartbeats 40000000 in
theorem rm5_5 (l : Launch) (Z : State) (a0 : Array Value) (hw : HW Z a0) (ws : List Jvm.Cond) (u1 : Addr) (u2 : Addr) (u3 : Int32) (u4 : Int32) (h0 : Heap) (n0 : Nat) (Z0 : n0 ≤ h0.size) (P1 : Exa Z h0 u2 "com/example/clausewright/clausewright/Start") (P2 : Fld Z h0 u2 "com/example/clausewright/clausewright/Start" "offset" "I" (.int u3)) (P3 : Fld Z h0 u1 "com/example/clausewright/clausewright/TableOfContentsReader$Table" "title" "I" (.int u4)) (P4 : u3 < u4) :
    MF l Z (⟨"com/example/clausewright/clausewright/TableOfContentsReader$Table", "holds", "(Lcom/example/clausewright/clausewright/Start;)Z"⟩ : MethodName) (Jvm.Cond.code (⟨"com/example/clausewright/clausewright/TableOfContentsReader$Table", "holds", "(Lcom/example/clausewright/clausewright/Start;)Z"⟩ : MethodName) prog_72_method_2_code 2 (some .boolean)) ws ({ frames := 1, cells := 0, slots := 0, locals := 12 } : Room) #[(.ref u1), (.ref u2)] h0 (Q5_5 Z u1 u2 u3 u4 h0 n0) := by
  refine MetFree.of_bodySF (plainFor_of_name pn_1) hisR ?_
  intro p e s m args below meth c s₁ Bd hml0 hP hK
  obtain ⟨rfl, hZ, hh⟩ := hP
  have hx := Bd.exec
  have hby := Bd.bytes
  have hml : c.maxLocals = 2 := hml0
  have hown : s.vm.findClass "com/example/clausewright/clausewright/TableOfContentsReader$Table" = some m.cls := findClass_of_methodNamed Bd.named
  have hnm := (name_of_methodNamed Bd.named Bd.method).1
  have X0 : Stand p l e ({ frames := 1, cells := 0, slots := 0, locals := 12 } : Room) s m #[(.ref u1), (.ref u2)] below meth c s₁ [] 0 0 := Stand.of_body Bd
  have e0 : s₁.heap = h0 := by rw [← hh, Bd.state]; rfl
  have N0 := Fr.nil n0
  have pre0 : ∀ t, SF p e below s₁ (mkF m 0 #[rv u1, rv u2] []) t → SF p e below s₁ (entryFrame m #[(.ref u1), (.ref u2)] 2) t := fun t k => castTop (ef_4 m u1 u2) k
  obtain ⟨cq1, kq1, q1a, q1b, q1c⟩ := isOf hZ e0 P1
  obtain ⟨_, _, ⟨T1, L1, k1x, n1⟩, -, X1, ⟨Lc1, hQ1, l1, y1, z1⟩, st1⟩ := X0.virtualBack hx (y := (⟨"com/example/clausewright/clausewright/Start", "offset", "()I"⟩ : MethodName)) (z := (⟨"com/example/clausewright/clausewright/Start", "offset", "()I"⟩ : MethodName)) hown (mvT hZ (tw hw 51 rfl)) (mvT hZ (tw hw 52 rfl)) (notFace_of_selects (args := #[]) (mvT hZ (tw hw 54 rfl))) (mvT hZ (tw hw 54 rfl)) (mvT hZ (tw hw 53 rfl)) (by decide) (backOf (W := 0) (rm6_4 l Z a0 hw [] u2 u3 h0 n0 Z0 P2) hZ (tw hw 55 rfl) (tw hw 22 rfl) (by decide) (by decide)) q1a q1c (g := (mkF m 1 #[rv u1, rv u2] [(.ref u2)])) rfl (by rw [hml]; rfl) (Steps.refl _) (argsL := []) (rest := []) (lenOf pd_3 rfl) rfl (by show 2 * 0 + _ ≤ _; exact Nat.le_of_eq rfl) (hb hby d5_1) (fun _ _ => ⟨rfl, e0, (by decide : 0 + 0 ≤ _), (by decide : 0 + 0 ≤ _)⟩)
  dsimp only [Pt.U, Pt.locs, Pt.cells, Pt.slots] at X1 l1 y1 z1 st1 hQ1
  subst l1 y1 z1
  obtain ⟨rfl, N1q, e1⟩ := hQ1
  have N1 := Fr.app N0 N1q
  obtain ⟨T2, X2, e2, st2⟩ := getF X1 hx hZ hown (host := "") (Or.inl (tw hw 14 rfl)) Via.refl e1 P3 (g := (mkF m 5 #[rv u1, rv u2] [(.ref u1), (.int u3)])) rfl rfl (hb hby d5_5)
  obtain ⟨fs, hr, hrun, hended, hW, hsame⟩ := X2.leave (v := some (.int 0)) (fun h => by rw [Bd.returns] at h; cases h)
  refine ⟨_, _, pre0 _ ?_, hrun, hended, _, _, rfl, ?_, ⟨_, rfl⟩, hW, hsame.mono (by decide) (by decide)⟩
  · show SF p e below s₁ (mkF m 0 #[rv u1, rv u2] []) _
    refine XS.aloadN X0.here hx rfl (hb hby d5_0) rfl rfl ?_
    show SF p e below s₁ (mkF m 1 #[rv u1, rv u2] [(.ref u2)]) _
    refine st1.trans ?_
    show SF p e below T1 (mkF m 4 #[rv u1, rv u2] [(.int u3)]) _
    refine XS.aloadN X1.here hx rfl (hb hby d5_4) rfl rfl ?_
    show SF p e below T1 (mkF m 5 #[rv u1, rv u2] [(.ref u1), (.int u3)]) _
    refine st2 _ ?_
    show SF p e below T2 (mkF m 8 #[rv u1, rv u2] [(.int u4), (.int u3)]) _
    refine XS.icmpYes X2.here hx rfl (pc0 := 8) (pc' := 26) rfl (hb hby d5_8) rfl (tlt P4).1 (by decide) (by decide) ?_
    show SF p e below T2 (mkF m 26 #[rv u1, rv u2] []) _
    refine XS.iconst X2.here hx rfl (hb hby d5_26) ?_
    show SF p e below T2 (mkF m 27 #[rv u1, rv u2] [(.int 0)]) _
    exact retN X2 hx (t := .boolean) Bd.returns (by simp) (hb hby d5_27) hr
  · show Q5_5 Z u1 u2 u3 u4 h0 n0 _ T2.heap _
    rw [e2]
    exact ⟨rfl, N1, rfl⟩
theorem pd_4 : parseMethodDescriptor "(Lcom/example/clausewright/clausewright/Start;)Z" = some ⟨[(.object "com/example/clausewright/clausewright/Start")], some .boolean⟩ := by decide +kernel
theorem d5_11 : decode prog_72_method_2_code 11 = .ok (.aload_n 1, 1) := by decide +kernel
theorem d5_12 : decode prog_72_method_2_code 12 = .ok (.invokevirtual 19, 3) := by decide +kernel
theorem d5_15 : decode prog_72_method_2_code 15 = .ok (.aload_n 0, 1) := by decide +kernel
theorem d5_16 : decode prog_72_method_2_code 16 = .ok (.getfield 16, 3) := by decide +kernel
theorem d5_19 : decode prog_72_method_2_code 19 = .ok (.if_icmp .ge 7, 3) := by decide +kernel
theorem d5_22 : decode prog_72_method_2_code 22 = .ok (.iconst 1, 1) := by decide +kernel
theorem d5_23 : decode prog_72_method_2_code 23 = .ok (.goto 4, 3) := by decide +kernel
-- TableOfContentsReader$Table.holds 
def Q5_6 (Z : State) (u1 : Addr) (u2 : Addr) (u3 : Int32) (u4 : Int32) (u5 : Int32) (h0 : Heap) (n0 : Nat) (v : Option Value) (h : Heap) (L : List Loc) : Prop := v = some (.int 1) ∧ Fr n0 L ∧ h = h0
set_option maxRecDepth 65536 in
set_option maxHeartbeats 40000000 in
theorem rm5_6 (l : Launch) (Z : State) (a0 : Array Value) (hw : HW Z a0) (ws : List Jvm.Cond) (u1 : Addr) (u2 : Addr) (u3 : Int32) (u4 : Int32) (u5 : Int32) (h0 : Heap) (n0 : Nat) (Z0 : n0 ≤ h0.size) (P1 : Exa Z h0 u2 "com/example/clausewright/clausewright/Start") (P2 : Fld Z h0 u2 "com/example/clausewright/clausewright/Start" "offset" "I" (.int u3)) (P3 : Fld Z h0 u1 "com/example/clausewright/clausewright/TableOfContentsReader$Table" "title" "I" (.int u4)) (P4 : ¬ (u3 < u4)) (P5 : Fld Z h0 u1 "com/example/clausewright/clausewright/TableOfContentsReader$Table" "end" "I" (.int u5)) (P6 : u3 < u5) :
    MF l Z (⟨"com/example/clausewright/clausewright/TableOfContentsReader$Table", "holds", "(Lcom/example/clausewright/clausewright/Start;)Z"⟩ : MethodName) (Jvm.Cond.code (⟨"com/example/clausewright/clausewright/TableOfContentsReader$Table", "holds", "(Lcom/example/clausewright/clausewright/Start;)Z"⟩ : MethodName) prog_72_method_2_code 2 (some .boolean)) ws ({ frames := 1, cells := 0, slots := 0, locals := 12 } : Room) #[(.ref u1), (.ref u2)] h0 (Q5_6 Z u1 u2 u3 u4 u5 h0 n0) := by
  refine MetFree.of_bodySF (plainFor_of_name pn_1) hisR ?_
  intro p e s m args below meth c s₁ Bd hml0 hP hK
  obtain ⟨rfl, hZ, hh⟩ := hP
  have hx := Bd.exec
  have hby := Bd.bytes
  have hml : c.maxLocals = 2 := hml0
  have hown : s.vm.findClass "com/example/clausewright/clausewright/TableOfContentsReader$Table" = some m.cls := findClass_of_methodNamed Bd.named
  have hnm := (name_of_methodNamed Bd.named Bd.method).1
  have X0 : Stand p l e ({ frames := 1, cells := 0, slots := 0, locals := 12 } : Room) s m #[(.ref u1), (.ref u2)] below meth c s₁ [] 0 0 := Stand.of_body Bd
  have e0 : s₁.heap = h0 := by rw [← hh, Bd.state]; rfl
  have N0 := Fr.nil n0
  have pre0 : ∀ t, SF p e below s₁ (mkF m 0 #[rv u1, rv u2] []) t → SF p e below s₁ (entryFrame m #[(.ref u1), (.ref u2)] 2) t := fun t k => castTop (ef_4 m u1 u2) k
  obtain ⟨cq1, kq1, q1a, q1b, q1c⟩ := isOf hZ e0 P1
  obtain ⟨_, _, ⟨T1, L1, k1x, n1⟩, -, X1, ⟨Lc1, hQ1, l1, y1, z1⟩, st1⟩ := X0.virtualBack hx (y := (⟨"com/example/clausewright/clausewright/Start", "offset", "()I"⟩ : MethodName)) (z := (⟨"com/example/clausewright/clausewright/Start", "offset", "()I"⟩ : MethodName)) hown (mvT hZ (tw hw 51 rfl)) (mvT hZ (tw hw 52 rfl)) (notFace_of_selects (args := #[]) (mvT hZ (tw hw 54 rfl))) (mvT hZ (tw hw 54 rfl)) (mvT hZ (tw hw 53 rfl)) (by decide) (backOf (W := 0) (rm6_4 l Z a0 hw [] u2 u3 h0 n0 Z0 P2) hZ (tw hw 55 rfl) (tw hw 22 rfl) (by decide) (by decide)) q1a q1c (g := (mkF m 1 #[rv u1, rv u2] [(.ref u2)])) rfl (by rw [hml]; rfl) (Steps.refl _) (argsL := []) (rest := []) (lenOf pd_3 rfl) rfl (by show 2 * 0 + _ ≤ _; exact Nat.le_of_eq rfl) (hb hby d5_1) (fun _ _ => ⟨rfl, e0, (by decide : 0 + 0 ≤ _), (by decide : 0 + 0 ≤ _)⟩)
  dsimp only [Pt.U, Pt.locs, Pt.cells, Pt.slots] at X1 l1 y1 z1 st1 hQ1
  subst l1 y1 z1
  obtain ⟨rfl, N1q, e1⟩ := hQ1
  have N1 := Fr.app N0 N1q
  obtain ⟨T2, X2, e2, st2⟩ := getF X1 hx hZ hown (host := "") (Or.inl (tw hw 14 rfl)) Via.refl e1 P3 (g := (mkF m 5 #[rv u1, rv u2] [(.ref u1), (.int u3)])) rfl rfl (hb hby d5_5)
  obtain ⟨cq3, kq3, q3a, q3b, q3c⟩ := isOf hZ e2 P1
  obtain ⟨_, _, ⟨T3, L3, k3x, n3⟩, -, X3, ⟨Lc3, hQ3, l3, y3, z3⟩, st3⟩ := X2.virtualBack hx (y := (⟨"com/example/clausewright/clausewright/Start", "offset", "()I"⟩ : MethodName)) (z := (⟨"com/example/clausewright/clausewright/Start", "offset", "()I"⟩ : MethodName)) hown (mvT hZ (tw hw 51 rfl)) (mvT hZ (tw hw 52 rfl)) (notFace_of_selects (args := #[]) (mvT hZ (tw hw 54 rfl))) (mvT hZ (tw hw 54 rfl)) (mvT hZ (tw hw 53 rfl)) (by decide) (backOf (W := 0) (rm6_4 l Z a0 hw [] u2 u3 h0 n0 Z0 P2) hZ (tw hw 55 rfl) (tw hw 22 rfl) (by decide) (by decide)) q3a q3c (g := (mkF m 12 #[rv u1, rv u2] [(.ref u2)])) rfl (by rw [hml]; rfl) (Steps.refl _) (argsL := []) (rest := []) (lenOf pd_3 rfl) rfl (by show 2 * 0 + _ ≤ _; exact Nat.le_of_eq rfl) (hb hby d5_12) (fun _ _ => ⟨rfl, e2, (by decide : 0 + 0 ≤ _), (by decide : 0 + 0 ≤ _)⟩)
  dsimp only [Pt.U, Pt.locs, Pt.cells, Pt.slots] at X3 l3 y3 z3 st3 hQ3
  subst l3 y3 z3
  obtain ⟨rfl, N3q, e3⟩ := hQ3
  have N3 := Fr.app N1 N3q
  obtain ⟨T4, X4, e4, st4⟩ := getF X3 hx hZ hown (host := "") (Or.inl (tw hw 18 rfl)) Via.refl e3 P5 (g := (mkF m 16 #[rv u1, rv u2] [(.ref u1), (.int u3)])) rfl rfl (hb hby d5_16)
  obtain ⟨fs, hr, hrun, hended, hW, hsame⟩ := X4.leave (v := some (.int 1)) (fun h => by rw [Bd.returns] at h; cases h)
  refine ⟨_, _, pre0 _ ?_, hrun, hended, _, _, rfl, ?_, ⟨_, rfl⟩, hW, hsame.mono (by decide) (by decide)⟩
  · show SF p e below s₁ (mkF m 0 #[rv u1, rv u2] []) _
    refine XS.aloadN X0.here hx rfl (hb hby d5_0) rfl rfl ?_
    show SF p e below s₁ (mkF m 1 #[rv u1, rv u2] [(.ref u2)]) _
    refine st1.trans ?_
    show SF p e below T1 (mkF m 4 #[rv u1, rv u2] [(.int u3)]) _
    refine XS.aloadN X1.here hx rfl (hb hby d5_4) rfl rfl ?_
    show SF p e below T1 (mkF m 5 #[rv u1, rv u2] [(.ref u1), (.int u3)]) _
    refine st2 _ ?_
    show SF p e below T2 (mkF m 8 #[rv u1, rv u2] [(.int u4), (.int u3)]) _
    refine XS.icmpNo X2.here hx rfl (hb hby d5_8) rfl (flt P4).1 ?_
    show SF p e below T2 (mkF m 11 #[rv u1, rv u2] []) _
    refine XS.aloadN X2.here hx rfl (hb hby d5_11) rfl rfl ?_
    show SF p e below T2 (mkF m 12 #[rv u1, rv u2] [(.ref u2)]) _
    refine st3.trans ?_
    show SF p e below T3 (mkF m 15 #[rv u1, rv u2] [(.int u3)]) _
    refine XS.aloadN X3.here hx rfl (hb hby d5_15) rfl rfl ?_
    show SF p e below T3 (mkF m 16 #[rv u1, rv u2] [(.ref u1), (.int u3)]) _
    refine st4 _ ?_
    show SF p e below T4 (mkF m 19 #[rv u1, rv u2] [(.int u5), (.int u3)]) _
    refine XS.icmpNo X4.here hx rfl (hb hby d5_19) rfl (tlt P6).2.1 ?_
    show SF p e below T4 (mkF m 22 #[rv u1, rv u2] []) _
    refine XS.iconst X4.here hx rfl (hb hby d5_22) ?_
    show SF p e below T4 (mkF m 23 #[rv u1, rv u2] [(.int 1)]) _
    refine XS.goto X4.here hx rfl (pc0 := 23) (pc' := 27) rfl (hb hby d5_23) (by decide) (by decide) ?_
    show SF p e below T4 (mkF m 27 #[rv u1, rv u2] [(.int 1)]) _
    exact retN X4 hx (t := .boolean) Bd.returns (by simp) (hb hby d5_27) hr
  · show Q5_6 Z u1 u2 u3 u4 u5 h0 n0 _ T4.heap _
    rw [e4]
    exact ⟨rfl, N3, rfl⟩
-- TableOfContentsReader$Table.holds 
def Q5_7 (Z : State) (u1 : Addr) (u2 : Addr) (u3 : Int32) (u4 : Int32) (u5 : Int32) (h0 : Heap) (n0 : Nat) (v : Option Value) (h : Heap) (L : List Loc) : Prop := v = some (.int 0) ∧ Fr n0 L ∧ h = h0
set_option maxRecDepth 65536 in
set_option maxHeartbeats 40000000 in
theorem rm5_7 (l : Launch) (Z : State) (a0 : Array Value) (hw : HW Z a0) (ws : List Jvm.Cond) (u1 : Addr) (u2 : Addr) (u3 : Int32) (u4 : Int32) (u5 : Int32) (h0 : Heap) (n0 : Nat) (Z0 : n0 ≤ h0.size) (P1 : Exa Z h0 u2 "com/example/clausewright/clausewright/Start") (P2 : Fld Z h0 u2 "com/example/clausewright/clausewright/Start" "offset" "I" (.int u3)) (P3 : Fld Z h0 u1 "com/example/clausewright/clausewright/TableOfContentsReader$Table" "title" "I" (.int u4)) (P4 : ¬ (u3 < u4)) (P5 : Fld Z h0 u1 "com/example/clausewright/clausewright/TableOfContentsReader$Table" "end" "I" (.int u5)) (P6 : ¬ (u3 < u5)) :
    MF l Z (⟨"com/example/clausewright/clausewright/TableOfContentsReader$Table", "holds", "(Lcom/example/clausewright/clausewright/Start;)Z"⟩ : MethodName) (Jvm.Cond.code (⟨"com/example/clausewright/clausewright/TableOfContentsReader$Table", "holds", "(Lcom/example/clausewright/clausewright/Start;)Z"⟩ : MethodName) prog_72_method_2_code 2 (some .boolean)) ws ({ frames := 1, cells := 0, slots := 0, locals := 12 } : Room) #[(.ref u1), (.ref u2)] h0 (Q5_7 Z u1 u2 u3 u4 u5 h0 n0) := by
  refine MetFree.of_bodySF (plainFor_of_name pn_1) hisR ?_
  intro p e s m args below meth c s₁ Bd hml0 hP hK
  obtain ⟨rfl, hZ, hh⟩ := hP
  have hx := Bd.exec
  have hby := Bd.bytes
  have hml : c.maxLocals = 2 := hml0
  have hown : s.vm.findClass "com/example/clausewright/clausewright/TableOfContentsReader$Table" = some m.cls := findClass_of_methodNamed Bd.named
  have hnm := (name_of_methodNamed Bd.named Bd.method).1
  have X0 : Stand p l e ({ frames := 1, cells := 0, slots := 0, locals := 12 } : Room) s m #[(.ref u1), (.ref u2)] below meth c s₁ [] 0 0 := Stand.of_body Bd
  have e0 : s₁.heap = h0 := by rw [← hh, Bd.state]; rfl
  have N0 := Fr.nil n0
  have pre0 : ∀ t, SF p e below s₁ (mkF m 0 #[rv u1, rv u2] []) t → SF p e below s₁ (entryFrame m #[(.ref u1), (.ref u2)] 2) t := fun t k => castTop (ef_4 m u1 u2) k
  obtain ⟨cq1, kq1, q1a, q1b, q1c⟩ := isOf hZ e0 P1
  obtain ⟨_, _, ⟨T1, L1, k1x, n1⟩, -, X1, ⟨Lc1, hQ1, l1, y1, z1⟩, st1⟩ := X0.virtualBack hx (y := (⟨"com/example/clausewright/clausewright/Start", "offset", "()I"⟩ : MethodName)) (z := (⟨"com/example/clausewright/clausewright/Start", "offset", "()I"⟩ : MethodName)) hown (mvT hZ (tw hw 51 rfl)) (mvT hZ (tw hw 52 rfl)) (notFace_of_selects (args := #[]) (mvT hZ (tw hw 54 rfl))) (mvT hZ (tw hw 54 rfl)) (mvT hZ (tw hw 53 rfl)) (by decide) (backOf (W := 0) (rm6_4 l Z a0 hw [] u2 u3 h0 n0 Z0 P2) hZ (tw hw 55 rfl) (tw hw 22 rfl) (by decide) (by decide)) q1a q1c (g := (mkF m 1 #[rv u1, rv u2] [(.ref u2)])) rfl (by rw [hml]; rfl) (Steps.refl _) (argsL := []) (rest := []) (lenOf pd_3 rfl) rfl (by show 2 * 0 + _ ≤ _; exact Nat.le_of_eq rfl) (hb hby d5_1) (fun _ _ => ⟨rfl, e0, (by decide : 0 + 0 ≤ _), (by decide : 0 + 0 ≤ _)⟩)
  dsimp only [Pt.U, Pt.locs, Pt.cells, Pt.slots] at X1 l1 y1 z1 st1 hQ1
  subst l1 y1 z1
  obtain ⟨rfl, N1q, e1⟩ := hQ1
  have N1 := Fr.app N0 N1q
  obtain ⟨T2, X2, e2, st2⟩ := getF X1 hx hZ hown (host := "") (Or.inl (tw hw 14 rfl)) Via.refl e1 P3 (g := (mkF m 5 #[rv u1, rv u2] [(.ref u1), (.int u3)])) rfl rfl (hb hby d5_5)
  obtain ⟨cq3, kq3, q3a, q3b, q3c⟩ := isOf hZ e2 P1
  obtain ⟨_, _, ⟨T3, L3, k3x, n3⟩, -, X3, ⟨Lc3, hQ3, l3, y3, z3⟩, st3⟩ := X2.virtualBack hx (y := (⟨"com/example/clausewright/clausewright/Start", "offset", "()I"⟩ : MethodName)) (z := (⟨"com/example/clausewright/clausewright/Start", "offset", "()I"⟩ : MethodName)) hown (mvT hZ (tw hw 51 rfl)) (mvT hZ (tw hw 52 rfl)) (notFace_of_selects (args := #[]) (mvT hZ (tw hw 54 rfl))) (mvT hZ (tw hw 54 rfl)) (mvT hZ (tw hw 53 rfl)) (by decide) (backOf (W := 0) (rm6_4 l Z a0 hw [] u2 u3 h0 n0 Z0 P2) hZ (tw hw 55 rfl) (tw hw 22 rfl) (by decide) (by decide)) q3a q3c (g := (mkF m 12 #[rv u1, rv u2] [(.ref u2)])) rfl (by rw [hml]; rfl) (Steps.refl _) (argsL := []) (rest := []) (lenOf pd_3 rfl) rfl (by show 2 * 0 + _ ≤ _; exact Nat.le_of_eq rfl) (hb hby d5_12) (fun _ _ => ⟨rfl, e2, (by decide : 0 + 0 ≤ _), (by decide : 0 + 0 ≤ _)⟩)
  dsimp only [Pt.U, Pt.locs, Pt.cells, Pt.slots] at X3 l3 y3 z3 st3 hQ3
  subst l3 y3 z3
  obtain ⟨rfl, N3q, e3⟩ := hQ3
  have N3 := Fr.app N1 N3q
  obtain ⟨T4, X4, e4, st4⟩ := getF X3 hx hZ hown (host := "") (Or.inl (tw hw 18 rfl)) Via.refl e3 P5 (g := (mkF m 16 #[rv u1, rv u2] [(.ref u1), (.int u3)])) rfl rfl (hb hby d5_16)
  obtain ⟨fs, hr, hrun, hended, hW, hsame⟩ := X4.leave (v := some (.int 0)) (fun h => by rw [Bd.returns] at h; cases h)
  refine ⟨_, _, pre0 _ ?_, hrun, hended, _, _, rfl, ?_, ⟨_, rfl⟩, hW, hsame.mono (by decide) (by decide)⟩
  · show SF p e below s₁ (mkF m 0 #[rv u1, rv u2] []) _
    refine XS.aloadN X0.here hx rfl (hb hby d5_0) rfl rfl ?_
    show SF p e below s₁ (mkF m 1 #[rv u1, rv u2] [(.ref u2)]) _
    refine st1.trans ?_
    show SF p e below T1 (mkF m 4 #[rv u1, rv u2] [(.int u3)]) _
    refine XS.aloadN X1.here hx rfl (hb hby d5_4) rfl rfl ?_
    show SF p e below T1 (mkF m 5 #[rv u1, rv u2] [(.ref u1), (.int u3)]) _
    refine st2 _ ?_
    show SF p e below T2 (mkF m 8 #[rv u1, rv u2] [(.int u4), (.int u3)]) _
    refine XS.icmpNo X2.here hx rfl (hb hby d5_8) rfl (flt P4).1 ?_
    show SF p e below T2 (mkF m 11 #[rv u1, rv u2] []) _
    refine XS.aloadN X2.here hx rfl (hb hby d5_11) rfl rfl ?_
    show SF p e below T2 (mkF m 12 #[rv u1, rv u2] [(.ref u2)]) _
    refine st3.trans ?_
    show SF p e below T3 (mkF m 15 #[rv u1, rv u2] [(.int u3)]) _
    refine XS.aloadN X3.here hx rfl (hb hby d5_15) rfl rfl ?_
    show SF p e below T3 (mkF m 16 #[rv u1, rv u2] [(.ref u1), (.int u3)]) _
    refine st4 _ ?_
    show SF p e below T4 (mkF m 19 #[rv u1, rv u2] [(.int u5), (.int u3)]) _
    refine XS.icmpYes X4.here hx rfl (pc0 := 19) (pc' := 26) rfl (hb hby d5_19) rfl (flt P6).2.1 (by decide) (by decide) ?_
    show SF p e below T4 (mkF m 26 #[rv u1, rv u2] []) _
    refine XS.iconst X4.here hx rfl (hb hby d5_26) ?_
    show SF p e below T4 (mkF m 27 #[rv u1, rv u2] [(.int 0)]) _
    exact retN X4 hx (t := .boolean) Bd.returns (by simp) (hb hby d5_27) hr
  · show Q5_7 Z u1 u2 u3 u4 u5 h0 n0 _ T4.heap _
    rw [e4]
    exact ⟨rfl, N3, rfl⟩
set_option maxRecDepth 65536 in
set_option maxHeartbeats 400000000 in
theorem pc_1 {p : Program} {l : Launch} {e : Env} {s : State} {m : MethodId} {below : List Frame} {meth : Method} {c : Code} {T0 : State} {locs : List Loc} {Z : State} {a0 : Array Value} {h0 : Heap} {n0 : Nat} {p0s : Int32} {p1s : Int32} {p2s : Int32} {p3s : Int32} {p4s : Int32} {p5s : Int32} {w1 : Addr} {dv7 : Int32} (X0 : Stand p l e room_1 s m #[(.int p0s), (.int p1s), (.int p2s), (.int p3s), (.int p4s), (.int p5s)] below meth c T0 locs 0 0) (hx : p.tables.exec = Jvm.exec) (hZ : Z.Warmed39 s.vm) (hw : HW Z a0) (hby : c.code = code) (hml : c.maxLocals = 17) (hown : s.vm.findClass "com/example/clausewright/clausewright/TableHoldsPinLaw" = some m.cls) (hre : meth.sig.returnType = some .boolean) (hlk : meth.locks = false) (e0 : T0.heap = h0) (N0 : Fr n0 locs) (Z0 : n0 ≤ h0.size) (O0 : Old Z n0 h0) (Sg0 : Sta Z Z.heap "com/example/clausewright/clausewright/Division$Kind" "SECTION" "Lcom/example/clausewright/clausewright/Division$Kind;" (.ref w1)) :
    FineW p e below s n0 (T0.setTop (mkF m 61 #[iv p0s, iv p1s, iv p2s, iv p3s, iv p4s, iv p5s, iv (p4s &&& (7 : Int32)), iv dv7, .unset, .unset, .unset, .unset, .unset, .unset, .unset, .unset, .unset] [])) := by
  obtain ⟨T1, h1, X1, e1, E1, A1, D1, -, st1⟩ := newO X0 hx hZ hown (tw hw 0 rfl) (tw hw 1 rfl) (tw hw 2 rfl) e0 (g := (mkF m 61 #[iv p0s, iv p1s, iv p2s, iv p3s, iv p4s, iv p5s, iv (p4s &&& (7 : Int32)), iv dv7, .unset, .unset, .unset, .unset, .unset, .unset, .unset, .unset, .unset] [])) rfl (hb hby at_61) (by decide) (by decide)
  obtain ⟨b1, g1⟩ : ∃ z, z = h0.size := ⟨_, rfl⟩
  rw [← g1] at A1 D1 st1
  have Fn2 : Fld Z h1 b1 "com/example/clausewright/clausewright/TableOfContentsReader$Table" "title" "I" (.int 0) := D1 (Or.inr (tw hw 15 rfl)) (ty := .int) (by decide)
  have Fn3 : Fld Z h1 b1 "com/example/clausewright/clausewright/TableOfContentsReader$Table" "firstEntry" "I" (.int 0) := D1 (Or.inr (tw hw 17 rfl)) (ty := .int) (by decide)
  have Fn4 : Fld Z h1 b1 "com/example/clausewright/clausewright/TableOfContentsReader$Table" "end" "I" (.int 0) := D1 (Or.inr (tw hw 19 rfl)) (ty := .int) (by decide)
  have g_b1 : n0 ≤ b1 := Nat.le_trans Z0 (Nat.le_of_eq g1.symm)
  have Z1 : n0 ≤ h1.size := Nat.le_trans Z0 E1.1
  obtain ⟨_, _, ⟨T5, L5, k5x, n5⟩, -, X5, ⟨Lc5, hQ5, l5, y5, z5⟩, st5⟩ := X1.specialBack hx (y := (⟨"com/example/clausewright/clausewright/TableOfContentsReader$Table", "<init>", "(III)V"⟩ : MethodName)) rfl hown (mvT hZ (tw hw 3 rfl)) (mvT hZ (tw hw 4 rfl)) (mvT hZ (tw hw 5 rfl)) (by decide) (backOf (W := 1) (rm1_2 l Z a0 hw [] b1 p0s p1s p2s h1 n0 Z1 A1 Fn2 Fn3 Fn4 g_b1) hZ (tw hw 5 rfl) (tw hw 2 rfl) (by decide) (by decide)) (g := (mkF m 68 #[iv p0s, iv p1s, iv p2s, iv p3s, iv p4s, iv p5s, iv (p4s &&& (7 : Int32)), iv dv7, .unset, .unset, .unset, .unset, .unset, .unset, .unset, .unset, .unset] [(.int p2s), (.int p1s), (.int p0s), (.ref b1), (.ref b1)])) rfl (by rw [hml]; rfl) (Steps.refl _) (a := b1) (argsL := [(.int p0s), (.int p1s), (.int p2s)]) (rest := [(.ref b1)]) (lenOf pd_1 rfl) rfl (by show 2 * 0 + _ ≤ _; exact Nat.le_of_eq rfl) (hb hby at_68) (fun _ _ => ⟨rfl, e1, (by decide : 1 + 0 ≤ _), (by decide : 3 + 0 ≤ _)⟩)
  dsimp only [Pt.U, Pt.locs, Pt.cells, Pt.slots] at X5 l5 y5 z5 st5 hQ5
  subst l5 y5 z5
  obtain ⟨rfl, N5q, K5c, Fq5_0, Fq5_1, Fq5_2, Fq5_3⟩ := hQ5
  have N5 := Fr.app N0 N5q
  obtain ⟨T6, h6, X6, e6, E6, A6, D6, -, st6⟩ := newO X5 hx hZ hown (tw hw 20 rfl) (tw hw 21 rfl) (tw hw 22 rfl) rfl (g := (mkF m 73 #[iv p0s, iv p1s, iv p2s, iv p3s, iv p4s, iv p5s, iv (p4s &&& (7 : Int32)), iv dv7, rv b1, .unset, .unset, .unset, .unset, .unset, .unset, .unset, .unset] [])) rfl (hb hby at_73) (by decide) (by decide)
  obtain ⟨b2, g6⟩ : ∃ z, z = T5.heap.size := ⟨_, rfl⟩
  rw [← g6] at A6 D6 st6
  have Fn7 : Fld Z h6 b2 "com/example/clausewright/clausewright/Start" "kind" "Lcom/example/clausewright/clausewright/Division$Kind;" .null := D6 (Or.inr (tw hw 39 rfl)) (ty := (.object "com/example/clausewright/clausewright/Division$Kind")) (by decide)
  have Fn8 : Fld Z h6 b2 "com/example/clausewright/clausewright/Start" "number" "Ljava/lang/String;" .null := D6 (Or.inr (tw hw 41 rfl)) (ty := (.object "java/lang/String")) (by decide)
  have Fn9 : Fld Z h6 b2 "com/example/clausewright/clausewright/Start" "offset" "I" (.int 0) := D6 (Or.inr (tw hw 43 rfl)) (ty := .int) (by decide)
  have Fn10 : Fld Z h6 b2 "com/example/clausewright/clausewright/Start" "headingStart" "I" (.int 0) := D6 (Or.inr (tw hw 45 rfl)) (ty := .int) (by decide)
  have O1 : Old Z n0 h1 := O0.ext E1
  have O5 : Old Z n0 T5.heap := O1.keep K5c (allS g_b1 all0)
  have O6 : Old Z n0 h6 := O5.ext E6
  obtain ⟨T11, X11, e11, st11⟩ := getS2 X6 hx hZ hown (host := "") (Or.inl (tw hw 23 rfl)) Via.refl e6 (Sg0.ext O6.2) (g := (mkF m 77 #[iv p0s, iv p1s, iv p2s, iv p3s, iv p4s, iv p5s, iv (p4s &&& (7 : Int32)), iv dv7, rv b1, .unset, .unset, .unset, .unset, .unset, .unset, .unset, .unset] [(.ref b2), (.ref b2)])) rfl (hb hby at_77)
  have hwSA : ∀ d ∈ Bundle.stringAtoms, d.before a0 Z = true := fun d hd => hw d (own_strA d hd)
  have hS0 : s.Since s.vm h6.size := State.WarmedH.since (State.WarmedH.refl s) _
  have hk0 : h6.size ≤ h6.size := Nat.le_refl _
  obtain ⟨b3, T12, h12, kq12, X12, e12, E12, hS12, hk12, hZ12, hown12, st12⟩ := ldcS (s := s) (vm0 := s.vm) X11 hx hZ hown (tw hw 26 rfl) hwSA e11 hS0 hk0 (g := (mkF m 80 #[iv p0s, iv p1s, iv p2s, iv p3s, iv p4s, iv p5s, iv (p4s &&& (7 : Int32)), iv dv7, rv b1, .unset, .unset, .unset, .unset, .unset, .unset, .unset, .unset] [(.ref w1), (.ref b2), (.ref b2)])) rfl (hb hby at_80) (n := 12) (by decide) (by decide) (by decide) (by decide)
  have F4_14 : Exa Z h12 b2 "com/example/clausewright/clausewright/Start" := A6.ext E12
  have F4_15 : Fld Z h12 b2 "com/example/clausewright/clausewright/Start" "kind" "Lcom/example/clausewright/clausewright/Division$Kind;" .null := Fn7.ext E12
  have F4_16 : Fld Z h12 b2 "com/example/clausewright/clausewright/Start" "number" "Ljava/lang/String;" .null := Fn8.ext E12
  have F4_17 : Fld Z h12 b2 "com/example/clausewright/clausewright/Start" "offset" "I" (.int 0) := Fn9.ext E12
  have F4_18 : Fld Z h12 b2 "com/example/clausewright/clausewright/Start" "headingStart" "I" (.int 0) := Fn10.ext E12
  have Z5 : n0 ≤ T5.heap.size := Nat.le_trans Z1 K5c.1
  have g_b2 : n0 ≤ b2 := Nat.le_trans Z5 (Nat.le_of_eq g6.symm)
  have Z6 : n0 ≤ h6.size := Nat.le_trans Z5 E6.1
  have Z12 : n0 ≤ h12.size := Nat.le_trans Z6 E12.1
  obtain ⟨_, _, ⟨T13, L13, k13x, n13⟩, -, X13, ⟨Lc13, hQ13, l13, y13, z13⟩, st13⟩ := X12.specialBack hx (y := (⟨"com/example/clausewright/clausewright/Start", "<init>", "(Lcom/example/clausewright/clausewright/Division$Kind;Ljava/lang/String;II)V"⟩ : MethodName)) rfl hown12 (mvT hZ12 (tw hw 34 rfl)) (mvT hZ12 (tw hw 35 rfl)) (mvT hZ12 (tw hw 36 rfl)) (by decide) (backOf (W := 1) (rm4_3 l Z a0 hw [] b2 w1 b3 dv7 p5s h12 n0 Z12 F4_14 F4_15 F4_16 F4_17 F4_18 g_b2) hZ12 (tw hw 36 rfl) (tw hw 22 rfl) (by decide) (by decide)) (g := (mkF m 86 #[iv p0s, iv p1s, iv p2s, iv p3s, iv p4s, iv p5s, iv (p4s &&& (7 : Int32)), iv dv7, rv b1, .unset, .unset, .unset, .unset, .unset, .unset, .unset, .unset] [(.int p5s), (.int dv7), (.ref b3), (.ref w1), (.ref b2), (.ref b2)])) rfl (by rw [hml]; rfl) (Steps.refl _) (a := b2) (argsL := [(.ref w1), (.ref b3), (.int dv7), (.int p5s)]) (rest := [(.ref b2)]) (lenOf pd_2 rfl) rfl (by show 2 * 0 + _ ≤ _; exact Nat.le_of_eq rfl) (hb hby at_86) (fun _ _ => ⟨rfl, e12, (by decide : 4 + 0 ≤ _), (by decide : 23 + 0 ≤ _)⟩)
  dsimp only [Pt.U, Pt.locs, Pt.cells, Pt.slots] at X13 l13 y13 z13 st13 hQ13
  subst l13 y13 z13
  obtain ⟨rfl, N13q, K13c, Fq13_0, Fq13_1, Fq13_2, Fq13_3, Fq13_4⟩ := hQ13
  have N13 := Fr.app N5 N13q
  have pre0 : ∀ t, SF p e below T13 (mkF m 111 #[iv p0s, iv p1s, iv p2s, iv p3s, iv p4s, iv p5s, iv (p4s &&& (7 : Int32)), iv dv7, rv b1, rv b2, .val (.long (dv7.toInt64)), .second, .val (.long (p0s.toInt64)), .second, .val (.long (p2s.toInt64)), .second, .unset] [(.int (lcmpW ((dv7.toInt64) - (p0s.toInt64)) (0 : Int64)))]) t → SF p e below T0 (mkF m 61 #[iv p0s, iv p1s, iv p2s, iv p3s, iv p4s, iv p5s, iv (p4s &&& (7 : Int32)), iv dv7, .unset, .unset, .unset, .unset, .unset, .unset, .unset, .unset, .unset] []) t := fun t k => by
    show SF p e below T0 (mkF m 61 #[iv p0s, iv p1s, iv p2s, iv p3s, iv p4s, iv p5s, iv (p4s &&& (7 : Int32)), iv dv7, .unset, .unset, .unset, .unset, .unset, .unset, .unset, .unset, .unset] []) _
    refine st1 _ ?_
    show SF p e below T1 (mkF m 64 #[iv p0s, iv p1s, iv p2s, iv p3s, iv p4s, iv p5s, iv (p4s &&& (7 : Int32)), iv dv7, .unset, .unset, .unset, .unset, .unset, .unset, .unset, .unset, .unset] [(.ref b1)]) _
    refine XS.dup X1.here hx rfl (hb hby at_64) rfl rfl ?_
    show SF p e below T1 (mkF m 65 #[iv p0s, iv p1s, iv p2s, iv p3s, iv p4s, iv p5s, iv (p4s &&& (7 : Int32)), iv dv7, .unset, .unset, .unset, .unset, .unset, .unset, .unset, .unset, .unset] [(.ref b1), (.ref b1)]) _
    refine XS.iloadN X1.here hx rfl (hb hby at_65) rfl ?_
    show SF p e below T1 (mkF m 66 #[iv p0s, iv p1s, iv p2s, iv p3s, iv p4s, iv p5s, iv (p4s &&& (7 : Int32)), iv dv7, .unset, .unset, .unset, .unset, .unset, .unset, .unset, .unset, .unset] [(.int p0s), (.ref b1), (.ref b1)]) _
    refine XS.iloadN X1.here hx rfl (hb hby at_66) rfl ?_
    show SF p e below T1 (mkF m 67 #[iv p0s, iv p1s, iv p2s, iv p3s, iv p4s, iv p5s, iv (p4s &&& (7 : Int32)), iv dv7, .unset, .unset, .unset, .unset, .unset, .unset, .unset, .unset, .unset] [(.int p1s), (.int p0s), (.ref b1), (.ref b1)]) _
    refine XS.iloadN X1.here hx rfl (hb hby at_67) rfl ?_
    show SF p e below T1 (mkF m 68 #[iv p0s, iv p1s, iv p2s, iv p3s, iv p4s, iv p5s, iv (p4s &&& (7 : Int32)), iv dv7, .unset, .unset, .unset, .unset, .unset, .unset, .unset, .unset, .unset] [(.int p2s), (.int p1s), (.int p0s), (.ref b1), (.ref b1)]) _
    refine st5.trans ?_
    show SF p e below T5 (mkF m 71 #[iv p0s, iv p1s, iv p2s, iv p3s, iv p4s, iv p5s, iv (p4s &&& (7 : Int32)), iv dv7, .unset, .unset, .unset, .unset, .unset, .unset, .unset, .unset, .unset] [(.ref b1)]) _
    refine XS.astore X5.here hx rfl (hb hby at_71) rfl rfl (l' := #[iv p0s, iv p1s, iv p2s, iv p3s, iv p4s, iv p5s, iv (p4s &&& (7 : Int32)), iv dv7, rv b1, .unset, .unset, .unset, .unset, .unset, .unset, .unset, .unset]) rfl ?_
    show SF p e below T5 (mkF m 73 #[iv p0s, iv p1s, iv p2s, iv p3s, iv p4s, iv p5s, iv (p4s &&& (7 : Int32)), iv dv7, rv b1, .unset, .unset, .unset, .unset, .unset, .unset, .unset, .unset] []) _
    refine st6 _ ?_
    show SF p e below T6 (mkF m 76 #[iv p0s, iv p1s, iv p2s, iv p3s, iv p4s, iv p5s, iv (p4s &&& (7 : Int32)), iv dv7, rv b1, .unset, .unset, .unset, .unset, .unset, .unset, .unset, .unset] [(.ref b2)]) _
    refine XS.dup X6.here hx rfl (hb hby at_76) rfl rfl ?_
    show SF p e below T6 (mkF m 77 #[iv p0s, iv p1s, iv p2s, iv p3s, iv p4s, iv p5s, iv (p4s &&& (7 : Int32)), iv dv7, rv b1, .unset, .unset, .unset, .unset, .unset, .unset, .unset, .unset] [(.ref b2), (.ref b2)]) _
    refine st11 _ ?_
    show SF p e below T11 (mkF m 80 #[iv p0s, iv p1s, iv p2s, iv p3s, iv p4s, iv p5s, iv (p4s &&& (7 : Int32)), iv dv7, rv b1, .unset, .unset, .unset, .unset, .unset, .unset, .unset, .unset] [(.ref w1), (.ref b2), (.ref b2)]) _
    refine st12 _ ?_
    show SF p e below T12 (mkF m 82 #[iv p0s, iv p1s, iv p2s, iv p3s, iv p4s, iv p5s, iv (p4s &&& (7 : Int32)), iv dv7, rv b1, .unset, .unset, .unset, .unset, .unset, .unset, .unset, .unset] [(.ref b3), (.ref w1), (.ref b2), (.ref b2)]) _
    refine XS.iload X12.here hx rfl (hb hby at_82) rfl ?_
    show SF p e below T12 (mkF m 84 #[iv p0s, iv p1s, iv p2s, iv p3s, iv p4s, iv p5s, iv (p4s &&& (7 : Int32)), iv dv7, rv b1, .unset, .unset, .unset, .unset, .unset, .unset, .unset, .unset] [(.int dv7), (.ref b3), (.ref w1), (.ref b2), (.ref b2)]) _
    refine XS.iload X12.here hx rfl (hb hby at_84) rfl ?_
    show SF p e below T12 (mkF m 86 #[iv p0s, iv p1s, iv p2s, iv p3s, iv p4s, iv p5s, iv (p4s &&& (7 : Int32)), iv dv7, rv b1, .unset, .unset, .unset, .unset, .unset, .unset, .unset, .unset] [(.int p5s), (.int dv7), (.ref b3), (.ref w1), (.ref b2), (.ref b2)]) _
    refine st13.trans ?_
    show SF p e below T13 (mkF m 89 #[iv p0s, iv p1s, iv p2s, iv p3s, iv p4s, iv p5s, iv (p4s &&& (7 : Int32)), iv dv7, rv b1, .unset, .unset, .unset, .unset, .unset, .unset, .unset, .unset] [(.ref b2)]) _
    refine XS.astore X13.here hx rfl (hb hby at_89) rfl rfl (l' := #[iv p0s, iv p1s, iv p2s, iv p3s, iv p4s, iv p5s, iv (p4s &&& (7 : Int32)), iv dv7, rv b1, rv b2, .unset, .unset, .unset, .unset, .unset, .unset, .unset]) rfl ?_
    show SF p e below T13 (mkF m 91 #[iv p0s, iv p1s, iv p2s, iv p3s, iv p4s, iv p5s, iv (p4s &&& (7 : Int32)), iv dv7, rv b1, rv b2, .unset, .unset, .unset, .unset, .unset, .unset, .unset] []) _
    refine XS.iload X13.here hx rfl (hb hby at_91) rfl ?_
    show SF p e below T13 (mkF m 93 #[iv p0s, iv p1s, iv p2s, iv p3s, iv p4s, iv p5s, iv (p4s &&& (7 : Int32)), iv dv7, rv b1, rv b2, .unset, .unset, .unset, .unset, .unset, .unset, .unset] [(.int dv7)]) _
    refine XS.i2l X13.here hx rfl (hb hby at_93) rfl ?_
    show SF p e below T13 (mkF m 94 #[iv p0s, iv p1s, iv p2s, iv p3s, iv p4s, iv p5s, iv (p4s &&& (7 : Int32)), iv dv7, rv b1, rv b2, .unset, .unset, .unset, .unset, .unset, .unset, .unset] [(.long (dv7.toInt64))]) _
    refine XS.lstore X13.here hx rfl (hb hby at_94) rfl (l' := #[iv p0s, iv p1s, iv p2s, iv p3s, iv p4s, iv p5s, iv (p4s &&& (7 : Int32)), iv dv7, rv b1, rv b2, .val (.long (dv7.toInt64)), .second, .unset, .unset, .unset, .unset, .unset]) rfl ?_
    show SF p e below T13 (mkF m 96 #[iv p0s, iv p1s, iv p2s, iv p3s, iv p4s, iv p5s, iv (p4s &&& (7 : Int32)), iv dv7, rv b1, rv b2, .val (.long (dv7.toInt64)), .second, .unset, .unset, .unset, .unset, .unset] []) _
    refine XS.iloadN X13.here hx rfl (hb hby at_96) rfl ?_
    show SF p e below T13 (mkF m 97 #[iv p0s, iv p1s, iv p2s, iv p3s, iv p4s, iv p5s, iv (p4s &&& (7 : Int32)), iv dv7, rv b1, rv b2, .val (.long (dv7.toInt64)), .second, .unset, .unset, .unset, .unset, .unset] [(.int p0s)]) _
    refine XS.i2l X13.here hx rfl (hb hby at_97) rfl ?_
    show SF p e below T13 (mkF m 98 #[iv p0s, iv p1s, iv p2s, iv p3s, iv p4s, iv p5s, iv (p4s &&& (7 : Int32)), iv dv7, rv b1, rv b2, .val (.long (dv7.toInt64)), .second, .unset, .unset, .unset, .unset, .unset] [(.long (p0s.toInt64))]) _
    refine XS.lstore X13.here hx rfl (hb hby at_98) rfl (l' := #[iv p0s, iv p1s, iv p2s, iv p3s, iv p4s, iv p5s, iv (p4s &&& (7 : Int32)), iv dv7, rv b1, rv b2, .val (.long (dv7.toInt64)), .second, .val (.long (p0s.toInt64)), .second, .unset, .unset, .unset]) rfl ?_
    show SF p e below T13 (mkF m 100 #[iv p0s, iv p1s, iv p2s, iv p3s, iv p4s, iv p5s, iv (p4s &&& (7 : Int32)), iv dv7, rv b1, rv b2, .val (.long (dv7.toInt64)), .second, .val (.long (p0s.toInt64)), .second, .unset, .unset, .unset] []) _
    refine XS.iloadN X13.here hx rfl (hb hby at_100) rfl ?_
    show SF p e below T13 (mkF m 101 #[iv p0s, iv p1s, iv p2s, iv p3s, iv p4s, iv p5s, iv (p4s &&& (7 : Int32)), iv dv7, rv b1, rv b2, .val (.long (dv7.toInt64)), .second, .val (.long (p0s.toInt64)), .second, .unset, .unset, .unset] [(.int p2s)]) _
    refine XS.i2l X13.here hx rfl (hb hby at_101) rfl ?_
    show SF p e below T13 (mkF m 102 #[iv p0s, iv p1s, iv p2s, iv p3s, iv p4s, iv p5s, iv (p4s &&& (7 : Int32)), iv dv7, rv b1, rv b2, .val (.long (dv7.toInt64)), .second, .val (.long (p0s.toInt64)), .second, .unset, .unset, .unset] [(.long (p2s.toInt64))]) _
    refine XS.lstore X13.here hx rfl (hb hby at_102) rfl (l' := #[iv p0s, iv p1s, iv p2s, iv p3s, iv p4s, iv p5s, iv (p4s &&& (7 : Int32)), iv dv7, rv b1, rv b2, .val (.long (dv7.toInt64)), .second, .val (.long (p0s.toInt64)), .second, .val (.long (p2s.toInt64)), .second, .unset]) rfl ?_
    show SF p e below T13 (mkF m 104 #[iv p0s, iv p1s, iv p2s, iv p3s, iv p4s, iv p5s, iv (p4s &&& (7 : Int32)), iv dv7, rv b1, rv b2, .val (.long (dv7.toInt64)), .second, .val (.long (p0s.toInt64)), .second, .val (.long (p2s.toInt64)), .second, .unset] []) _
    refine XS.lload X13.here hx rfl (hb hby at_104) rfl ?_
    show SF p e below T13 (mkF m 106 #[iv p0s, iv p1s, iv p2s, iv p3s, iv p4s, iv p5s, iv (p4s &&& (7 : Int32)), iv dv7, rv b1, rv b2, .val (.long (dv7.toInt64)), .second, .val (.long (p0s.toInt64)), .second, .val (.long (p2s.toInt64)), .second, .unset] [(.long (dv7.toInt64))]) _
    refine XS.lload X13.here hx rfl (hb hby at_106) rfl ?_
    show SF p e below T13 (mkF m 108 #[iv p0s, iv p1s, iv p2s, iv p3s, iv p4s, iv p5s, iv (p4s &&& (7 : Int32)), iv dv7, rv b1, rv b2, .val (.long (dv7.toInt64)), .second, .val (.long (p0s.toInt64)), .second, .val (.long (p2s.toInt64)), .second, .unset] [(.long (p0s.toInt64)), (.long (dv7.toInt64))]) _
    refine XS.lsub X13.here hx rfl (hb hby at_108) rfl ?_
    show SF p e below T13 (mkF m 109 #[iv p0s, iv p1s, iv p2s, iv p3s, iv p4s, iv p5s, iv (p4s &&& (7 : Int32)), iv dv7, rv b1, rv b2, .val (.long (dv7.toInt64)), .second, .val (.long (p0s.toInt64)), .second, .val (.long (p2s.toInt64)), .second, .unset] [(.long ((dv7.toInt64) - (p0s.toInt64)))]) _
    refine XS.lconst X13.here hx rfl (hb hby at_109) ?_
    show SF p e below T13 (mkF m 110 #[iv p0s, iv p1s, iv p2s, iv p3s, iv p4s, iv p5s, iv (p4s &&& (7 : Int32)), iv dv7, rv b1, rv b2, .val (.long (dv7.toInt64)), .second, .val (.long (p0s.toInt64)), .second, .val (.long (p2s.toInt64)), .second, .unset] [(.long 0), (.long ((dv7.toInt64) - (p0s.toInt64)))]) _
    refine XS.lcmp X13.here hx rfl (hb hby at_110) rfl ?_
    exact k
  by_cases hc1 : dv7 < p0s
  · have F3_19 : Exa Z h6 b1 "com/example/clausewright/clausewright/TableOfContentsReader$Table" := Fq5_0.ext E6
    have F4_20 : Exa Z h12 b1 "com/example/clausewright/clausewright/TableOfContentsReader$Table" := F3_19.ext E12
    have F5_21 : Exa Z T13.heap b1 "com/example/clausewright/clausewright/TableOfContentsReader$Table" := F4_20.keep K13c
    have F3_23 : Fld Z h6 b1 "com/example/clausewright/clausewright/TableOfContentsReader$Table" "title" "I" (.int p0s) := Fq5_1.ext E6
    have F4_24 : Fld Z h12 b1 "com/example/clausewright/clausewright/TableOfContentsReader$Table" "title" "I" (.int p0s) := F3_23.ext E12
    have lt_b1_2 : b1 < T5.heap.size := Nat.lt_of_lt_of_le A1.lt K5c.1
    have F5_25 : Fld Z T13.heap b1 "com/example/clausewright/clausewright/TableOfContentsReader$Table" "title" "I" (.int p0s) := F4_24.keep K13c (ninS (Nat.ne_of_lt (Nat.lt_of_lt_of_le lt_b1_2 (Nat.le_of_eq g6.symm))) nin0)
    have Z13 : n0 ≤ T13.heap.size := Nat.le_trans Z12 K13c.1
    obtain ⟨cq22, kq22, q22a, q22b, q22c⟩ := isOf hZ12 rfl F5_21
    obtain ⟨_, _, ⟨T22, L22, k22x, n22⟩, -, X22, ⟨Lc22, hQ22, l22, y22, z22⟩, st22⟩ := X13.virtualBack hx (y := (⟨"com/example/clausewright/clausewright/TableOfContentsReader$Table", "holds", "(Lcom/example/clausewright/clausewright/Start;)Z"⟩ : MethodName)) (z := (⟨"com/example/clausewright/clausewright/TableOfContentsReader$Table", "holds", "(Lcom/example/clausewright/clausewright/Start;)Z"⟩ : MethodName)) hown12 (mvT hZ12 (tw hw 46 rfl)) (mvT hZ12 (tw hw 47 rfl)) (notFace_of_selects (args := #[]) (mvT hZ12 (tw hw 49 rfl))) (mvT hZ12 (tw hw 49 rfl)) (mvT hZ12 (tw hw 48 rfl)) (by decide) (backOf (W := 0) (rm5_5 l Z a0 hw [] b1 b2 dv7 p0s T13.heap n0 Z13 Fq13_0 Fq13_3 F5_25 hc1) hZ12 (tw hw 50 rfl) (tw hw 2 rfl) (by decide) (by decide)) q22a q22c (g := (mkF m 135 #[iv p0s, iv p1s, iv p2s, iv p3s, iv p4s, iv p5s, iv (p4s &&& (7 : Int32)), iv dv7, rv b1, rv b2, .val (.long (dv7.toInt64)), .second, .val (.long (p0s.toInt64)), .second, .val (.long (p2s.toInt64)), .second, iv 0] [(.ref b2), (.ref b1)])) rfl (by rw [hml]; rfl) (Steps.refl _) (argsL := [(.ref b2)]) (rest := []) (lenOf pd_4 rfl) rfl (by show 2 * 0 + _ ≤ _; exact Nat.le_of_eq rfl) (hb hby at_135) (fun _ _ => ⟨rfl, rfl, (by decide : 4 + 0 ≤ _), (by decide : 23 + 0 ≤ _)⟩)
    dsimp only [Pt.U, Pt.locs, Pt.cells, Pt.slots] at X22 l22 y22 z22 st22 hQ22
    subst l22 y22 z22
    obtain ⟨rfl, N22q, e22⟩ := hQ22
    have N22 := Fr.app N13 N22q
    have hkk13_5 : kq12 ≤ T13.heap.size := Nat.le_trans hk12 K13c.1
    obtain ⟨fs, hr, hrun, hended, hRW⟩ := X22.leaveW hS12 (by rw [e22]; exact hkk13_5) (v := some (.int (1 : Int32))) (fun h => by rw [hre] at h; cases h)
    refine ⟨_, _, pre0 _ (?_), hrun, hended, _, _, rfl, ?_, hRW.1, hRW.2.1, hRW.2.2.1, hRW.2.2.2.mono (by decide) (by decide)⟩
    · show SF p e below T13 (mkF m 111 #[iv p0s, iv p1s, iv p2s, iv p3s, iv p4s, iv p5s, iv (p4s &&& (7 : Int32)), iv dv7, rv b1, rv b2, .val (.long (dv7.toInt64)), .second, .val (.long (p0s.toInt64)), .second, .val (.long (p2s.toInt64)), .second, .unset] [(.int (lcmpW ((dv7.toInt64) - (p0s.toInt64)) (0 : Int64)))]) _
      refine XS.ifYes X13.here hx rfl (pc0 := 111) (pc' := 128) rfl (hb hby at_111) rfl ((if0 _ _).trans (tlt ((lw_lt _ _).2 (own_lt64.2 hc1))).1) (by decide) (by decide) ?_
      show SF p e below T13 (mkF m 128 #[iv p0s, iv p1s, iv p2s, iv p3s, iv p4s, iv p5s, iv (p4s &&& (7 : Int32)), iv dv7, rv b1, rv b2, .val (.long (dv7.toInt64)), .second, .val (.long (p0s.toInt64)), .second, .val (.long (p2s.toInt64)), .second, .unset] []) _
      refine XS.iconst X13.here hx rfl (hb hby at_128) ?_
      show SF p e below T13 (mkF m 129 #[iv p0s, iv p1s, iv p2s, iv p3s, iv p4s, iv p5s, iv (p4s &&& (7 : Int32)), iv dv7, rv b1, rv b2, .val (.long (dv7.toInt64)), .second, .val (.long (p0s.toInt64)), .second, .val (.long (p2s.toInt64)), .second, .unset] [(.int 0)]) _
      refine XS.istore X13.here hx rfl (hb hby at_129) rfl (l' := #[iv p0s, iv p1s, iv p2s, iv p3s, iv p4s, iv p5s, iv (p4s &&& (7 : Int32)), iv dv7, rv b1, rv b2, .val (.long (dv7.toInt64)), .second, .val (.long (p0s.toInt64)), .second, .val (.long (p2s.toInt64)), .second, iv 0]) rfl ?_
      show SF p e below T13 (mkF m 131 #[iv p0s, iv p1s, iv p2s, iv p3s, iv p4s, iv p5s, iv (p4s &&& (7 : Int32)), iv dv7, rv b1, rv b2, .val (.long (dv7.toInt64)), .second, .val (.long (p0s.toInt64)), .second, .val (.long (p2s.toInt64)), .second, iv 0] []) _
      refine XS.aload X13.here hx rfl (hb hby at_131) rfl rfl ?_
      show SF p e below T13 (mkF m 133 #[iv p0s, iv p1s, iv p2s, iv p3s, iv p4s, iv p5s, iv (p4s &&& (7 : Int32)), iv dv7, rv b1, rv b2, .val (.long (dv7.toInt64)), .second, .val (.long (p0s.toInt64)), .second, .val (.long (p2s.toInt64)), .second, iv 0] [(.ref b1)]) _
      refine XS.aload X13.here hx rfl (hb hby at_133) rfl rfl ?_
      show SF p e below T13 (mkF m 135 #[iv p0s, iv p1s, iv p2s, iv p3s, iv p4s, iv p5s, iv (p4s &&& (7 : Int32)), iv dv7, rv b1, rv b2, .val (.long (dv7.toInt64)), .second, .val (.long (p0s.toInt64)), .second, .val (.long (p2s.toInt64)), .second, iv 0] [(.ref b2), (.ref b1)]) _
      refine st22.trans ?_
      show SF p e below T22 (mkF m 138 #[iv p0s, iv p1s, iv p2s, iv p3s, iv p4s, iv p5s, iv (p4s &&& (7 : Int32)), iv dv7, rv b1, rv b2, .val (.long (dv7.toInt64)), .second, .val (.long (p0s.toInt64)), .second, .val (.long (p2s.toInt64)), .second, iv 0] [(.int 0)]) _
      refine XS.iload X22.here hx rfl (hb hby at_138) rfl ?_
      show SF p e below T22 (mkF m 140 #[iv p0s, iv p1s, iv p2s, iv p3s, iv p4s, iv p5s, iv (p4s &&& (7 : Int32)), iv dv7, rv b1, rv b2, .val (.long (dv7.toInt64)), .second, .val (.long (p0s.toInt64)), .second, .val (.long (p2s.toInt64)), .second, iv 0] [(.int 0), (.int 0)]) _
      refine XS.icmpNo X22.here hx rfl (hb hby at_140) rfl (teq (by decide : (0 : Int32) = (0 : Int32))).2 ?_
      show SF p e below T22 (mkF m 143 #[iv p0s, iv p1s, iv p2s, iv p3s, iv p4s, iv p5s, iv (p4s &&& (7 : Int32)), iv dv7, rv b1, rv b2, .val (.long (dv7.toInt64)), .second, .val (.long (p0s.toInt64)), .second, .val (.long (p2s.toInt64)), .second, iv 0] []) _
      refine XS.iconst X22.here hx rfl (hb hby at_143) ?_
      show SF p e below T22 (mkF m 144 #[iv p0s, iv p1s, iv p2s, iv p3s, iv p4s, iv p5s, iv (p4s &&& (7 : Int32)), iv dv7, rv b1, rv b2, .val (.long (dv7.toInt64)), .second, .val (.long (p0s.toInt64)), .second, .val (.long (p2s.toInt64)), .second, iv 0] [(.int 1)]) _
      refine XS.goto X22.here hx rfl (pc0 := 144) (pc' := 148) rfl (hb hby at_144) (by decide) (by decide) ?_
      show SF p e below T22 (mkF m 148 #[iv p0s, iv p1s, iv p2s, iv p3s, iv p4s, iv p5s, iv (p4s &&& (7 : Int32)), iv dv7, rv b1, rv b2, .val (.long (dv7.toInt64)), .second, .val (.long (p0s.toInt64)), .second, .val (.long (p2s.toInt64)), .second, iv 0] [(.int 1)]) _
      exact retN X22 hx (t := .boolean) hre (by simp) (hb hby at_148) hr
    · exact ⟨rfl, N22⟩
  · have pre1 : ∀ t, SF p e below T13 (mkF m 121 #[iv p0s, iv p1s, iv p2s, iv p3s, iv p4s, iv p5s, iv (p4s &&& (7 : Int32)), iv dv7, rv b1, rv b2, .val (.long (dv7.toInt64)), .second, .val (.long (p0s.toInt64)), .second, .val (.long (p2s.toInt64)), .second, .unset] [(.int (lcmpW ((p2s.toInt64) - (dv7.toInt64)) (1 : Int64)))]) t → SF p e below T13 (mkF m 111 #[iv p0s, iv p1s, iv p2s, iv p3s, iv p4s, iv p5s, iv (p4s &&& (7 : Int32)), iv dv7, rv b1, rv b2, .val (.long (dv7.toInt64)), .second, .val (.long (p0s.toInt64)), .second, .val (.long (p2s.toInt64)), .second, .unset] [(.int (lcmpW ((dv7.toInt64) - (p0s.toInt64)) (0 : Int64)))]) t := fun t k => by
      show SF p e below T13 (mkF m 111 #[iv p0s, iv p1s, iv p2s, iv p3s, iv p4s, iv p5s, iv (p4s &&& (7 : Int32)), iv dv7, rv b1, rv b2, .val (.long (dv7.toInt64)), .second, .val (.long (p0s.toInt64)), .second, .val (.long (p2s.toInt64)), .second, .unset] [(.int (lcmpW ((dv7.toInt64) - (p0s.toInt64)) (0 : Int64)))]) _
      refine XS.ifNo X13.here hx rfl (hb hby at_111) rfl ((if0 _ _).trans (flt (fun q => (fun q => hc1 (own_lt64.1 q)) ((lw_lt _ _).1 q))).1) ?_
      show SF p e below T13 (mkF m 114 #[iv p0s, iv p1s, iv p2s, iv p3s, iv p4s, iv p5s, iv (p4s &&& (7 : Int32)), iv dv7, rv b1, rv b2, .val (.long (dv7.toInt64)), .second, .val (.long (p0s.toInt64)), .second, .val (.long (p2s.toInt64)), .second, .unset] []) _
      refine XS.lload X13.here hx rfl (hb hby at_114) rfl ?_
      show SF p e below T13 (mkF m 116 #[iv p0s, iv p1s, iv p2s, iv p3s, iv p4s, iv p5s, iv (p4s &&& (7 : Int32)), iv dv7, rv b1, rv b2, .val (.long (dv7.toInt64)), .second, .val (.long (p0s.toInt64)), .second, .val (.long (p2s.toInt64)), .second, .unset] [(.long (p2s.toInt64))]) _
      refine XS.lload X13.here hx rfl (hb hby at_116) rfl ?_
      show SF p e below T13 (mkF m 118 #[iv p0s, iv p1s, iv p2s, iv p3s, iv p4s, iv p5s, iv (p4s &&& (7 : Int32)), iv dv7, rv b1, rv b2, .val (.long (dv7.toInt64)), .second, .val (.long (p0s.toInt64)), .second, .val (.long (p2s.toInt64)), .second, .unset] [(.long (dv7.toInt64)), (.long (p2s.toInt64))]) _
      refine XS.lsub X13.here hx rfl (hb hby at_118) rfl ?_
      show SF p e below T13 (mkF m 119 #[iv p0s, iv p1s, iv p2s, iv p3s, iv p4s, iv p5s, iv (p4s &&& (7 : Int32)), iv dv7, rv b1, rv b2, .val (.long (dv7.toInt64)), .second, .val (.long (p0s.toInt64)), .second, .val (.long (p2s.toInt64)), .second, .unset] [(.long ((p2s.toInt64) - (dv7.toInt64)))]) _
      refine XS.lconst X13.here hx rfl (hb hby at_119) ?_
      show SF p e below T13 (mkF m 120 #[iv p0s, iv p1s, iv p2s, iv p3s, iv p4s, iv p5s, iv (p4s &&& (7 : Int32)), iv dv7, rv b1, rv b2, .val (.long (dv7.toInt64)), .second, .val (.long (p0s.toInt64)), .second, .val (.long (p2s.toInt64)), .second, .unset] [(.long 1), (.long ((p2s.toInt64) - (dv7.toInt64)))]) _
      refine XS.lcmp X13.here hx rfl (hb hby at_120) rfl ?_
      exact k
    by_cases hc2 : dv7 < p2s
    · have F3_19 : Exa Z h6 b1 "com/example/clausewright/clausewright/TableOfContentsReader$Table" := Fq5_0.ext E6
      have F4_20 : Exa Z h12 b1 "com/example/clausewright/clausewright/TableOfContentsReader$Table" := F3_19.ext E12
      have F5_21 : Exa Z T13.heap b1 "com/example/clausewright/clausewright/TableOfContentsReader$Table" := F4_20.keep K13c
      have F3_23 : Fld Z h6 b1 "com/example/clausewright/clausewright/TableOfContentsReader$Table" "title" "I" (.int p0s) := Fq5_1.ext E6
      have F4_24 : Fld Z h12 b1 "com/example/clausewright/clausewright/TableOfContentsReader$Table" "title" "I" (.int p0s) := F3_23.ext E12
      have lt_b1_2 : b1 < T5.heap.size := Nat.lt_of_lt_of_le A1.lt K5c.1
      have F5_25 : Fld Z T13.heap b1 "com/example/clausewright/clausewright/TableOfContentsReader$Table" "title" "I" (.int p0s) := F4_24.keep K13c (ninS (Nat.ne_of_lt (Nat.lt_of_lt_of_le lt_b1_2 (Nat.le_of_eq g6.symm))) nin0)
      have F3_26 : Fld Z h6 b1 "com/example/clausewright/clausewright/TableOfContentsReader$Table" "end" "I" (.int p2s) := Fq5_3.ext E6
      have F4_27 : Fld Z h12 b1 "com/example/clausewright/clausewright/TableOfContentsReader$Table" "end" "I" (.int p2s) := F3_26.ext E12
      have F5_28 : Fld Z T13.heap b1 "com/example/clausewright/clausewright/TableOfContentsReader$Table" "end" "I" (.int p2s) := F4_27.keep K13c (ninS (Nat.ne_of_lt (Nat.lt_of_lt_of_le lt_b1_2 (Nat.le_of_eq g6.symm))) nin0)
      have Z13 : n0 ≤ T13.heap.size := Nat.le_trans Z12 K13c.1
      obtain ⟨cq22, kq22, q22a, q22b, q22c⟩ := isOf hZ12 rfl F5_21
      obtain ⟨_, _, ⟨T22, L22, k22x, n22⟩, -, X22, ⟨Lc22, hQ22, l22, y22, z22⟩, st22⟩ := X13.virtualBack hx (y := (⟨"com/example/clausewright/clausewright/TableOfContentsReader$Table", "holds", "(Lcom/example/clausewright/clausewright/Start;)Z"⟩ : MethodName)) (z := (⟨"com/example/clausewright/clausewright/TableOfContentsReader$Table", "holds", "(Lcom/example/clausewright/clausewright/Start;)Z"⟩ : MethodName)) hown12 (mvT hZ12 (tw hw 46 rfl)) (mvT hZ12 (tw hw 47 rfl)) (notFace_of_selects (args := #[]) (mvT hZ12 (tw hw 49 rfl))) (mvT hZ12 (tw hw 49 rfl)) (mvT hZ12 (tw hw 48 rfl)) (by decide) (backOf (W := 0) (rm5_6 l Z a0 hw [] b1 b2 dv7 p0s p2s T13.heap n0 Z13 Fq13_0 Fq13_3 F5_25 hc1 F5_28 hc2) hZ12 (tw hw 50 rfl) (tw hw 2 rfl) (by decide) (by decide)) q22a q22c (g := (mkF m 135 #[iv p0s, iv p1s, iv p2s, iv p3s, iv p4s, iv p5s, iv (p4s &&& (7 : Int32)), iv dv7, rv b1, rv b2, .val (.long (dv7.toInt64)), .second, .val (.long (p0s.toInt64)), .second, .val (.long (p2s.toInt64)), .second, iv 1] [(.ref b2), (.ref b1)])) rfl (by rw [hml]; rfl) (Steps.refl _) (argsL := [(.ref b2)]) (rest := []) (lenOf pd_4 rfl) rfl (by show 2 * 0 + _ ≤ _; exact Nat.le_of_eq rfl) (hb hby at_135) (fun _ _ => ⟨rfl, rfl, (by decide : 4 + 0 ≤ _), (by decide : 23 + 0 ≤ _)⟩)
      dsimp only [Pt.U, Pt.locs, Pt.cells, Pt.slots] at X22 l22 y22 z22 st22 hQ22
      subst l22 y22 z22
      obtain ⟨rfl, N22q, e22⟩ := hQ22
      have N22 := Fr.app N13 N22q
      have hkk13_5 : kq12 ≤ T13.heap.size := Nat.le_trans hk12 K13c.1
      obtain ⟨fs, hr, hrun, hended, hRW⟩ := X22.leaveW hS12 (by rw [e22]; exact hkk13_5) (v := some (.int (1 : Int32))) (fun h => by rw [hre] at h; cases h)
      refine ⟨_, _, pre0 _ (pre1 _ (?_)), hrun, hended, _, _, rfl, ?_, hRW.1, hRW.2.1, hRW.2.2.1, hRW.2.2.2.mono (by decide) (by decide)⟩
      · show SF p e below T13 (mkF m 121 #[iv p0s, iv p1s, iv p2s, iv p3s, iv p4s, iv p5s, iv (p4s &&& (7 : Int32)), iv dv7, rv b1, rv b2, .val (.long (dv7.toInt64)), .second, .val (.long (p0s.toInt64)), .second, .val (.long (p2s.toInt64)), .second, .unset] [(.int (lcmpW ((p2s.toInt64) - (dv7.toInt64)) (1 : Int64)))]) _
        refine XS.ifNo X13.here hx rfl (hb hby at_121) rfl ((if0 _ _).trans (flt (fun q => (fun q => own_lt64b.1 q hc2) ((lw_lt _ _).1 q))).1) ?_
        show SF p e below T13 (mkF m 124 #[iv p0s, iv p1s, iv p2s, iv p3s, iv p4s, iv p5s, iv (p4s &&& (7 : Int32)), iv dv7, rv b1, rv b2, .val (.long (dv7.toInt64)), .second, .val (.long (p0s.toInt64)), .second, .val (.long (p2s.toInt64)), .second, .unset] []) _
        refine XS.iconst X13.here hx rfl (hb hby at_124) ?_
        show SF p e below T13 (mkF m 125 #[iv p0s, iv p1s, iv p2s, iv p3s, iv p4s, iv p5s, iv (p4s &&& (7 : Int32)), iv dv7, rv b1, rv b2, .val (.long (dv7.toInt64)), .second, .val (.long (p0s.toInt64)), .second, .val (.long (p2s.toInt64)), .second, .unset] [(.int 1)]) _
        refine XS.goto X13.here hx rfl (pc0 := 125) (pc' := 129) rfl (hb hby at_125) (by decide) (by decide) ?_
        show SF p e below T13 (mkF m 129 #[iv p0s, iv p1s, iv p2s, iv p3s, iv p4s, iv p5s, iv (p4s &&& (7 : Int32)), iv dv7, rv b1, rv b2, .val (.long (dv7.toInt64)), .second, .val (.long (p0s.toInt64)), .second, .val (.long (p2s.toInt64)), .second, .unset] [(.int 1)]) _
        refine XS.istore X13.here hx rfl (hb hby at_129) rfl (l' := #[iv p0s, iv p1s, iv p2s, iv p3s, iv p4s, iv p5s, iv (p4s &&& (7 : Int32)), iv dv7, rv b1, rv b2, .val (.long (dv7.toInt64)), .second, .val (.long (p0s.toInt64)), .second, .val (.long (p2s.toInt64)), .second, iv 1]) rfl ?_
        show SF p e below T13 (mkF m 131 #[iv p0s, iv p1s, iv p2s, iv p3s, iv p4s, iv p5s, iv (p4s &&& (7 : Int32)), iv dv7, rv b1, rv b2, .val (.long (dv7.toInt64)), .second, .val (.long (p0s.toInt64)), .second, .val (.long (p2s.toInt64)), .second, iv 1] []) _
        refine XS.aload X13.here hx rfl (hb hby at_131) rfl rfl ?_
        show SF p e below T13 (mkF m 133 #[iv p0s, iv p1s, iv p2s, iv p3s, iv p4s, iv p5s, iv (p4s &&& (7 : Int32)), iv dv7, rv b1, rv b2, .val (.long (dv7.toInt64)), .second, .val (.long (p0s.toInt64)), .second, .val (.long (p2s.toInt64)), .second, iv 1] [(.ref b1)]) _
        refine XS.aload X13.here hx rfl (hb hby at_133) rfl rfl ?_
        show SF p e below T13 (mkF m 135 #[iv p0s, iv p1s, iv p2s, iv p3s, iv p4s, iv p5s, iv (p4s &&& (7 : Int32)), iv dv7, rv b1, rv b2, .val (.long (dv7.toInt64)), .second, .val (.long (p0s.toInt64)), .second, .val (.long (p2s.toInt64)), .second, iv 1] [(.ref b2), (.ref b1)]) _
        refine st22.trans ?_
        show SF p e below T22 (mkF m 138 #[iv p0s, iv p1s, iv p2s, iv p3s, iv p4s, iv p5s, iv (p4s &&& (7 : Int32)), iv dv7, rv b1, rv b2, .val (.long (dv7.toInt64)), .second, .val (.long (p0s.toInt64)), .second, .val (.long (p2s.toInt64)), .second, iv 1] [(.int 1)]) _
        refine XS.iload X22.here hx rfl (hb hby at_138) rfl ?_
        show SF p e below T22 (mkF m 140 #[iv p0s, iv p1s, iv p2s, iv p3s, iv p4s, iv p5s, iv (p4s &&& (7 : Int32)), iv dv7, rv b1, rv b2, .val (.long (dv7.toInt64)), .second, .val (.long (p0s.toInt64)), .second, .val (.long (p2s.toInt64)), .second, iv 1] [(.int 1), (.int 1)]) _
        refine XS.icmpNo X22.here hx rfl (hb hby at_140) rfl (teq (by decide : (1 : Int32) = (1 : Int32))).2 ?_
        show SF p e below T22 (mkF m 143 #[iv p0s, iv p1s, iv p2s, iv p3s, iv p4s, iv p5s, iv (p4s &&& (7 : Int32)), iv dv7, rv b1, rv b2, .val (.long (dv7.toInt64)), .second, .val (.long (p0s.toInt64)), .second, .val (.long (p2s.toInt64)), .second, iv 1] []) _
        refine XS.iconst X22.here hx rfl (hb hby at_143) ?_
        show SF p e below T22 (mkF m 144 #[iv p0s, iv p1s, iv p2s, iv p3s, iv p4s, iv p5s, iv (p4s &&& (7 : Int32)), iv dv7, rv b1, rv b2, .val (.long (dv7.toInt64)), .second, .val (.long (p0s.toInt64)), .second, .val (.long (p2s.toInt64)), .second, iv 1] [(.int 1)]) _
        refine XS.goto X22.here hx rfl (pc0 := 144) (pc' := 148) rfl (hb hby at_144) (by decide) (by decide) ?_
        show SF p e below T22 (mkF m 148 #[iv p0s, iv p1s, iv p2s, iv p3s, iv p4s, iv p5s, iv (p4s &&& (7 : Int32)), iv dv7, rv b1, rv b2, .val (.long (dv7.toInt64)), .second, .val (.long (p0s.toInt64)), .second, .val (.long (p2s.toInt64)), .second, iv 1] [(.int 1)]) _
        exact retN X22 hx (t := .boolean) hre (by simp) (hb hby at_148) hr
      · exact ⟨rfl, N22⟩
    · have F3_19 : Exa Z h6 b1 "com/example/clausewright/clausewright/TableOfContentsReader$Table" := Fq5_0.ext E6
      have F4_20 : Exa Z h12 b1 "com/example/clausewright/clausewright/TableOfContentsReader$Table" := F3_19.ext E12
      have F5_21 : Exa Z T13.heap b1 "com/example/clausewright/clausewright/TableOfContentsReader$Table" := F4_20.keep K13c
      have F3_23 : Fld Z h6 b1 "com/example/clausewright/clausewright/TableOfContentsReader$Table" "title" "I" (.int p0s) := Fq5_1.ext E6
      have F4_24 : Fld Z h12 b1 "com/example/clausewright/clausewright/TableOfContentsReader$Table" "title" "I" (.int p0s) := F3_23.ext E12
      have lt_b1_2 : b1 < T5.heap.size := Nat.lt_of_lt_of_le A1.lt K5c.1
      have F5_25 : Fld Z T13.heap b1 "com/example/clausewright/clausewright/TableOfContentsReader$Table" "title" "I" (.int p0s) := F4_24.keep K13c (ninS (Nat.ne_of_lt (Nat.lt_of_lt_of_le lt_b1_2 (Nat.le_of_eq g6.symm))) nin0)
      have F3_26 : Fld Z h6 b1 "com/example/clausewright/clausewright/TableOfContentsReader$Table" "end" "I" (.int p2s) := Fq5_3.ext E6
      have F4_27 : Fld Z h12 b1 "com/example/clausewright/clausewright/TableOfContentsReader$Table" "end" "I" (.int p2s) := F3_26.ext E12
      have F5_28 : Fld Z T13.heap b1 "com/example/clausewright/clausewright/TableOfContentsReader$Table" "end" "I" (.int p2s) := F4_27.keep K13c (ninS (Nat.ne_of_lt (Nat.lt_of_lt_of_le lt_b1_2 (Nat.le_of_eq g6.symm))) nin0)
      have Z13 : n0 ≤ T13.heap.size := Nat.le_trans Z12 K13c.1
      obtain ⟨cq22, kq22, q22a, q22b, q22c⟩ := isOf hZ12 rfl F5_21
      obtain ⟨_, _, ⟨T22, L22, k22x, n22⟩, -, X22, ⟨Lc22, hQ22, l22, y22, z22⟩, st22⟩ := X13.virtualBack hx (y := (⟨"com/example/clausewright/clausewright/TableOfContentsReader$Table", "holds", "(Lcom/example/clausewright/clausewright/Start;)Z"⟩ : MethodName)) (z := (⟨"com/example/clausewright/clausewright/TableOfContentsReader$Table", "holds", "(Lcom/example/clausewright/clausewright/Start;)Z"⟩ : MethodName)) hown12 (mvT hZ12 (tw hw 46 rfl)) (mvT hZ12 (tw hw 47 rfl)) (notFace_of_selects (args := #[]) (mvT hZ12 (tw hw 49 rfl))) (mvT hZ12 (tw hw 49 rfl)) (mvT hZ12 (tw hw 48 rfl)) (by decide) (backOf (W := 0) (rm5_7 l Z a0 hw [] b1 b2 dv7 p0s p2s T13.heap n0 Z13 Fq13_0 Fq13_3 F5_25 hc1 F5_28 hc2) hZ12 (tw hw 50 rfl) (tw hw 2 rfl) (by decide) (by decide)) q22a q22c (g := (mkF m 135 #[iv p0s, iv p1s, iv p2s, iv p3s, iv p4s, iv p5s, iv (p4s &&& (7 : Int32)), iv dv7, rv b1, rv b2, .val (.long (dv7.toInt64)), .second, .val (.long (p0s.toInt64)), .second, .val (.long (p2s.toInt64)), .second, iv 0] [(.ref b2), (.ref b1)])) rfl (by rw [hml]; rfl) (Steps.refl _) (argsL := [(.ref b2)]) (rest := []) (lenOf pd_4 rfl) rfl (by show 2 * 0 + _ ≤ _; exact Nat.le_of_eq rfl) (hb hby at_135) (fun _ _ => ⟨rfl, rfl, (by decide : 4 + 0 ≤ _), (by decide : 23 + 0 ≤ _)⟩)
      dsimp only [Pt.U, Pt.locs, Pt.cells, Pt.slots] at X22 l22 y22 z22 st22 hQ22
      subst l22 y22 z22
      obtain ⟨rfl, N22q, e22⟩ := hQ22
      have N22 := Fr.app N13 N22q
      have hkk13_5 : kq12 ≤ T13.heap.size := Nat.le_trans hk12 K13c.1
      obtain ⟨fs, hr, hrun, hended, hRW⟩ := X22.leaveW hS12 (by rw [e22]; exact hkk13_5) (v := some (.int (1 : Int32))) (fun h => by rw [hre] at h; cases h)
      refine ⟨_, _, pre0 _ (pre1 _ (?_)), hrun, hended, _, _, rfl, ?_, hRW.1, hRW.2.1, hRW.2.2.1, hRW.2.2.2.mono (by decide) (by decide)⟩
      · show SF p e below T13 (mkF m 121 #[iv p0s, iv p1s, iv p2s, iv p3s, iv p4s, iv p5s, iv (p4s &&& (7 : Int32)), iv dv7, rv b1, rv b2, .val (.long (dv7.toInt64)), .second, .val (.long (p0s.toInt64)), .second, .val (.long (p2s.toInt64)), .second, .unset] [(.int (lcmpW ((p2s.toInt64) - (dv7.toInt64)) (1 : Int64)))]) _
        refine XS.ifYes X13.here hx rfl (pc0 := 121) (pc' := 128) rfl (hb hby at_121) rfl ((if0 _ _).trans (tlt ((lw_lt _ _).2 (own_lt64b.2 hc2))).1) (by decide) (by decide) ?_
        show SF p e below T13 (mkF m 128 #[iv p0s, iv p1s, iv p2s, iv p3s, iv p4s, iv p5s, iv (p4s &&& (7 : Int32)), iv dv7, rv b1, rv b2, .val (.long (dv7.toInt64)), .second, .val (.long (p0s.toInt64)), .second, .val (.long (p2s.toInt64)), .second, .unset] []) _
        refine XS.iconst X13.here hx rfl (hb hby at_128) ?_
        show SF p e below T13 (mkF m 129 #[iv p0s, iv p1s, iv p2s, iv p3s, iv p4s, iv p5s, iv (p4s &&& (7 : Int32)), iv dv7, rv b1, rv b2, .val (.long (dv7.toInt64)), .second, .val (.long (p0s.toInt64)), .second, .val (.long (p2s.toInt64)), .second, .unset] [(.int 0)]) _
        refine XS.istore X13.here hx rfl (hb hby at_129) rfl (l' := #[iv p0s, iv p1s, iv p2s, iv p3s, iv p4s, iv p5s, iv (p4s &&& (7 : Int32)), iv dv7, rv b1, rv b2, .val (.long (dv7.toInt64)), .second, .val (.long (p0s.toInt64)), .second, .val (.long (p2s.toInt64)), .second, iv 0]) rfl ?_
        show SF p e below T13 (mkF m 131 #[iv p0s, iv p1s, iv p2s, iv p3s, iv p4s, iv p5s, iv (p4s &&& (7 : Int32)), iv dv7, rv b1, rv b2, .val (.long (dv7.toInt64)), .second, .val (.long (p0s.toInt64)), .second, .val (.long (p2s.toInt64)), .second, iv 0] []) _
        refine XS.aload X13.here hx rfl (hb hby at_131) rfl rfl ?_
        show SF p e below T13 (mkF m 133 #[iv p0s, iv p1s, iv p2s, iv p3s, iv p4s, iv p5s, iv (p4s &&& (7 : Int32)), iv dv7, rv b1, rv b2, .val (.long (dv7.toInt64)), .second, .val (.long (p0s.toInt64)), .second, .val (.long (p2s.toInt64)), .second, iv 0] [(.ref b1)]) _
        refine XS.aload X13.here hx rfl (hb hby at_133) rfl rfl ?_
        show SF p e below T13 (mkF m 135 #[iv p0s, iv p1s, iv p2s, iv p3s, iv p4s, iv p5s, iv (p4s &&& (7 : Int32)), iv dv7, rv b1, rv b2, .val (.long (dv7.toInt64)), .second, .val (.long (p0s.toInt64)), .second, .val (.long (p2s.toInt64)), .second, iv 0] [(.ref b2), (.ref b1)]) _
        refine st22.trans ?_
        show SF p e below T22 (mkF m 138 #[iv p0s, iv p1s, iv p2s, iv p3s, iv p4s, iv p5s, iv (p4s &&& (7 : Int32)), iv dv7, rv b1, rv b2, .val (.long (dv7.toInt64)), .second, .val (.long (p0s.toInt64)), .second, .val (.long (p2s.toInt64)), .second, iv 0] [(.int 0)]) _
        refine XS.iload X22.here hx rfl (hb hby at_138) rfl ?_
        show SF p e below T22 (mkF m 140 #[iv p0s, iv p1s, iv p2s, iv p3s, iv p4s, iv p5s, iv (p4s &&& (7 : Int32)), iv dv7, rv b1, rv b2, .val (.long (dv7.toInt64)), .second, .val (.long (p0s.toInt64)), .second, .val (.long (p2s.toInt64)), .second, iv 0] [(.int 0), (.int 0)]) _
        refine XS.icmpNo X22.here hx rfl (hb hby at_140) rfl (teq (by decide : (0 : Int32) = (0 : Int32))).2 ?_
        show SF p e below T22 (mkF m 143 #[iv p0s, iv p1s, iv p2s, iv p3s, iv p4s, iv p5s, iv (p4s &&& (7 : Int32)), iv dv7, rv b1, rv b2, .val (.long (dv7.toInt64)), .second, .val (.long (p0s.toInt64)), .second, .val (.long (p2s.toInt64)), .second, iv 0] []) _
        refine XS.iconst X22.here hx rfl (hb hby at_143) ?_
        show SF p e below T22 (mkF m 144 #[iv p0s, iv p1s, iv p2s, iv p3s, iv p4s, iv p5s, iv (p4s &&& (7 : Int32)), iv dv7, rv b1, rv b2, .val (.long (dv7.toInt64)), .second, .val (.long (p0s.toInt64)), .second, .val (.long (p2s.toInt64)), .second, iv 0] [(.int 1)]) _
        refine XS.goto X22.here hx rfl (pc0 := 144) (pc' := 148) rfl (hb hby at_144) (by decide) (by decide) ?_
        show SF p e below T22 (mkF m 148 #[iv p0s, iv p1s, iv p2s, iv p3s, iv p4s, iv p5s, iv (p4s &&& (7 : Int32)), iv dv7, rv b1, rv b2, .val (.long (dv7.toInt64)), .second, .val (.long (p0s.toInt64)), .second, .val (.long (p2s.toInt64)), .second, iv 0] [(.int 1)]) _
        exact retN X22 hx (t := .boolean) hre (by simp) (hb hby at_148) hr
      · exact ⟨rfl, N22⟩
theorem pn_3 : plainName "com/example/clausewright/clausewright/TableHoldsPinLaw" = true := by first | (simp [plainName, overriddenIn]; done) | decide +kernel
theorem ef_5 (m : MethodId) (x0 : Int32) (x1 : Int32) (x2 : Int32) (x3 : Int32) (x4 : Int32) (x5 : Int32) : entryFrame m #[(.int x0), (.int x1), (.int x2), (.int x3), (.int x4), (.int x5)] maxLocals = mkF m 0 #[.val (.int x0), .val (.int x1), .val (.int x2), .val (.int x3), .val (.int x4), .val (.int x5), .unset, .unset, .unset, .unset, .unset, .unset, .unset, .unset, .unset, .unset, .unset] [] := by first | (simp [entryFrame, mkF, argsToLocals, Value.category, maxLocals]; done) | rfl
set_option maxRecDepth 65536 in
set_option maxHeartbeats 400000000 in
theorem rm0 (l : Launch) (Z : State) (a0 : Array Value) (hw : HW Z a0) (ws : List Jvm.Cond) (p0s : Int32) (p1s : Int32) (p2s : Int32) (p3s : Int32) (p4s : Int32) (p5s : Int32) (w1 : Addr) (h0 : Heap) (n0 : Nat) (Z0 : n0 ≤ h0.size) (O0 : Old Z n0 h0) (Sg0 : Sta Z Z.heap "com/example/clausewright/clausewright/Division$Kind" "SECTION" "Lcom/example/clausewright/clausewright/Division$Kind;" (.ref w1)) (E_w1 : Exa Z Z.heap w1 "com/example/clausewright/clausewright/Division$Kind") :
    MFW l Z x (Jvm.Cond.code x code maxLocals ret) ws room_1 #[(.int p0s), (.int p1s), (.int p2s), (.int p3s), (.int p4s), (.int p5s)] h0 (fun v _ L => v = some (.int (1 : Int32)) ∧ Fr n0 L) := by
  refine MetFree.of_bodySF (plainFor_of_name pn_3) hisR ?_
  intro p e s m args below meth c s₁ Bd hml0 hP hK
  obtain ⟨rfl, hZ, hh⟩ := hP
  have hx := Bd.exec
  have hby := Bd.bytes
  have hml : c.maxLocals = 17 := hml0
  have hown : s.vm.findClass "com/example/clausewright/clausewright/TableHoldsPinLaw" = some m.cls := findClass_of_methodNamed Bd.named
  have hnm := (name_of_methodNamed Bd.named Bd.method).1
  have X0 : Stand p l e room_1 s m #[(.int p0s), (.int p1s), (.int p2s), (.int p3s), (.int p4s), (.int p5s)] below meth c s₁ [] 0 0 := Stand.of_body Bd
  have e0 : s₁.heap = h0 := by rw [← hh, Bd.state]; rfl
  have N0 := Fr.nil n0
  have pre0 : ∀ t, SF p e below s₁ (mkF m 0 #[iv p0s, iv p1s, iv p2s, iv p3s, iv p4s, iv p5s, .unset, .unset, .unset, .unset, .unset, .unset, .unset, .unset, .unset, .unset, .unset] []) t → SF p e below s₁ (entryFrame m #[(.int p0s), (.int p1s), (.int p2s), (.int p3s), (.int p4s), (.int p5s)] maxLocals) t := fun t k => castTop (ef_5 m p0s p1s p2s p3s p4s p5s) k
  have hre := Bd.returns
  have hlk : meth.locks = false := by first | assumption | exact BodyLoose.notSynchronized Bd | exact Body.notSynchronized Bd
  show FineW p e below s n0 _
  have pre1 : ∀ t, SF p e below s₁ (mkF m 9 #[iv p0s, iv p1s, iv p2s, iv p3s, iv p4s, iv p5s, iv (p4s &&& (7 : Int32)), .unset, .unset, .unset, .unset, .unset, .unset, .unset, .unset, .unset, .unset] [(.int (p4s &&& (7 : Int32)))]) t → SF p e below s₁ (mkF m 0 #[iv p0s, iv p1s, iv p2s, iv p3s, iv p4s, iv p5s, .unset, .unset, .unset, .unset, .unset, .unset, .unset, .unset, .unset, .unset, .unset] []) t := fun t k => by
    show SF p e below s₁ (mkF m 0 #[iv p0s, iv p1s, iv p2s, iv p3s, iv p4s, iv p5s, .unset, .unset, .unset, .unset, .unset, .unset, .unset, .unset, .unset, .unset, .unset] []) _
    refine XS.iload X0.here hx rfl (hb hby at_0) rfl ?_
    show SF p e below s₁ (mkF m 2 #[iv p0s, iv p1s, iv p2s, iv p3s, iv p4s, iv p5s, .unset, .unset, .unset, .unset, .unset, .unset, .unset, .unset, .unset, .unset, .unset] [(.int p4s)]) _
    refine XS.bipush X0.here hx rfl (hb hby at_2) ?_
    show SF p e below s₁ (mkF m 4 #[iv p0s, iv p1s, iv p2s, iv p3s, iv p4s, iv p5s, .unset, .unset, .unset, .unset, .unset, .unset, .unset, .unset, .unset, .unset, .unset] [(.int 7), (.int p4s)]) _
    refine XS.iand X0.here hx rfl (hb hby at_4) rfl ?_
    show SF p e below s₁ (mkF m 5 #[iv p0s, iv p1s, iv p2s, iv p3s, iv p4s, iv p5s, .unset, .unset, .unset, .unset, .unset, .unset, .unset, .unset, .unset, .unset, .unset] [(.int (p4s &&& (7 : Int32)))]) _
    refine XS.istore X0.here hx rfl (hb hby at_5) rfl (l' := #[iv p0s, iv p1s, iv p2s, iv p3s, iv p4s, iv p5s, iv (p4s &&& (7 : Int32)), .unset, .unset, .unset, .unset, .unset, .unset, .unset, .unset, .unset, .unset]) rfl ?_
    show SF p e below s₁ (mkF m 7 #[iv p0s, iv p1s, iv p2s, iv p3s, iv p4s, iv p5s, iv (p4s &&& (7 : Int32)), .unset, .unset, .unset, .unset, .unset, .unset, .unset, .unset, .unset, .unset] []) _
    refine XS.iload X0.here hx rfl (hb hby at_7) rfl ?_
    exact k
  by_cases hc1 : (p4s &&& (7 : Int32)) = (0 : Int32)
  · refine FineW.pre (fun t k => pre0 _ (pre1 _ (?_))) (pc_1 (dv7 := p0s) X0 hx hZ hw hby hml hown hre hlk e0 N0 Z0 O0 Sg0 )
    show SF p e below s₁ (mkF m 9 #[iv p0s, iv p1s, iv p2s, iv p3s, iv p4s, iv p5s, iv (p4s &&& (7 : Int32)), .unset, .unset, .unset, .unset, .unset, .unset, .unset, .unset, .unset, .unset] [(.int (p4s &&& (7 : Int32)))]) _
    refine XS.ifNo X0.here hx rfl (hb hby at_9) rfl ((if0 _ _).trans (teq hc1).2) ?_
    show SF p e below s₁ (mkF m 12 #[iv p0s, iv p1s, iv p2s, iv p3s, iv p4s, iv p5s, iv (p4s &&& (7 : Int32)), .unset, .unset, .unset, .unset, .unset, .unset, .unset, .unset, .unset, .unset] []) _
    refine XS.iloadN X0.here hx rfl (hb hby at_12) rfl ?_
    show SF p e below s₁ (mkF m 13 #[iv p0s, iv p1s, iv p2s, iv p3s, iv p4s, iv p5s, iv (p4s &&& (7 : Int32)), .unset, .unset, .unset, .unset, .unset, .unset, .unset, .unset, .unset, .unset] [(.int p0s)]) _
    refine XS.istore X0.here hx rfl (hb hby at_13) rfl (l' := #[iv p0s, iv p1s, iv p2s, iv p3s, iv p4s, iv p5s, iv (p4s &&& (7 : Int32)), iv p0s, .unset, .unset, .unset, .unset, .unset, .unset, .unset, .unset, .unset]) rfl ?_
    show SF p e below s₁ (mkF m 15 #[iv p0s, iv p1s, iv p2s, iv p3s, iv p4s, iv p5s, iv (p4s &&& (7 : Int32)), iv p0s, .unset, .unset, .unset, .unset, .unset, .unset, .unset, .unset, .unset] []) _
    refine XS.goto X0.here hx rfl (pc0 := 15) (pc' := 61) rfl (hb hby at_15) (by decide) (by decide) ?_
    exact k
  · have pre2 : ∀ t, SF p e below s₁ (mkF m 21 #[iv p0s, iv p1s, iv p2s, iv p3s, iv p4s, iv p5s, iv (p4s &&& (7 : Int32)), .unset, .unset, .unset, .unset, .unset, .unset, .unset, .unset, .unset, .unset] [(.int 1), (.int (p4s &&& (7 : Int32)))]) t → SF p e below s₁ (mkF m 9 #[iv p0s, iv p1s, iv p2s, iv p3s, iv p4s, iv p5s, iv (p4s &&& (7 : Int32)), .unset, .unset, .unset, .unset, .unset, .unset, .unset, .unset, .unset, .unset] [(.int (p4s &&& (7 : Int32)))]) t := fun t k => by
      show SF p e below s₁ (mkF m 9 #[iv p0s, iv p1s, iv p2s, iv p3s, iv p4s, iv p5s, iv (p4s &&& (7 : Int32)), .unset, .unset, .unset, .unset, .unset, .unset, .unset, .unset, .unset, .unset] [(.int (p4s &&& (7 : Int32)))]) _
      refine XS.ifYes X0.here hx rfl (pc0 := 9) (pc' := 18) rfl (hb hby at_9) rfl ((if0 _ _).trans (feq hc1).2) (by decide) (by decide) ?_
      show SF p e below s₁ (mkF m 18 #[iv p0s, iv p1s, iv p2s, iv p3s, iv p4s, iv p5s, iv (p4s &&& (7 : Int32)), .unset, .unset, .unset, .unset, .unset, .unset, .unset, .unset, .unset, .unset] []) _
      refine XS.iload X0.here hx rfl (hb hby at_18) rfl ?_
      show SF p e below s₁ (mkF m 20 #[iv p0s, iv p1s, iv p2s, iv p3s, iv p4s, iv p5s, iv (p4s &&& (7 : Int32)), .unset, .unset, .unset, .unset, .unset, .unset, .unset, .unset, .unset, .unset] [(.int (p4s &&& (7 : Int32)))]) _
      refine XS.iconst X0.here hx rfl (hb hby at_20) ?_
      exact k
    by_cases hc2 : (p4s &&& (7 : Int32)) = (1 : Int32)
    · refine FineW.pre (fun t k => pre0 _ (pre1 _ (pre2 _ (?_)))) (pc_1 (dv7 := (p0s - (1 : Int32))) X0 hx hZ hw hby hml hown hre hlk e0 N0 Z0 O0 Sg0 )
      show SF p e below s₁ (mkF m 21 #[iv p0s, iv p1s, iv p2s, iv p3s, iv p4s, iv p5s, iv (p4s &&& (7 : Int32)), .unset, .unset, .unset, .unset, .unset, .unset, .unset, .unset, .unset, .unset] [(.int 1), (.int (p4s &&& (7 : Int32)))]) _
      refine XS.icmpNo X0.here hx rfl (hb hby at_21) rfl (teq hc2).2 ?_
      show SF p e below s₁ (mkF m 24 #[iv p0s, iv p1s, iv p2s, iv p3s, iv p4s, iv p5s, iv (p4s &&& (7 : Int32)), .unset, .unset, .unset, .unset, .unset, .unset, .unset, .unset, .unset, .unset] []) _
      refine XS.iloadN X0.here hx rfl (hb hby at_24) rfl ?_
      show SF p e below s₁ (mkF m 25 #[iv p0s, iv p1s, iv p2s, iv p3s, iv p4s, iv p5s, iv (p4s &&& (7 : Int32)), .unset, .unset, .unset, .unset, .unset, .unset, .unset, .unset, .unset, .unset] [(.int p0s)]) _
      refine XS.iconst X0.here hx rfl (hb hby at_25) ?_
      show SF p e below s₁ (mkF m 26 #[iv p0s, iv p1s, iv p2s, iv p3s, iv p4s, iv p5s, iv (p4s &&& (7 : Int32)), .unset, .unset, .unset, .unset, .unset, .unset, .unset, .unset, .unset, .unset] [(.int 1), (.int p0s)]) _
      refine XS.isub X0.here hx rfl (hb hby at_26) rfl ?_
      show SF p e below s₁ (mkF m 27 #[iv p0s, iv p1s, iv p2s, iv p3s, iv p4s, iv p5s, iv (p4s &&& (7 : Int32)), .unset, .unset, .unset, .unset, .unset, .unset, .unset, .unset, .unset, .unset] [(.int (p0s - (1 : Int32)))]) _
      refine XS.istore X0.here hx rfl (hb hby at_27) rfl (l' := #[iv p0s, iv p1s, iv p2s, iv p3s, iv p4s, iv p5s, iv (p4s &&& (7 : Int32)), iv (p0s - (1 : Int32)), .unset, .unset, .unset, .unset, .unset, .unset, .unset, .unset, .unset]) rfl ?_
      show SF p e below s₁ (mkF m 29 #[iv p0s, iv p1s, iv p2s, iv p3s, iv p4s, iv p5s, iv (p4s &&& (7 : Int32)), iv (p0s - (1 : Int32)), .unset, .unset, .unset, .unset, .unset, .unset, .unset, .unset, .unset] []) _
      refine XS.goto X0.here hx rfl (pc0 := 29) (pc' := 61) rfl (hb hby at_29) (by decide) (by decide) ?_
      exact k
    · have pre3 : ∀ t, SF p e below s₁ (mkF m 35 #[iv p0s, iv p1s, iv p2s, iv p3s, iv p4s, iv p5s, iv (p4s &&& (7 : Int32)), .unset, .unset, .unset, .unset, .unset, .unset, .unset, .unset, .unset, .unset] [(.int 2), (.int (p4s &&& (7 : Int32)))]) t → SF p e below s₁ (mkF m 21 #[iv p0s, iv p1s, iv p2s, iv p3s, iv p4s, iv p5s, iv (p4s &&& (7 : Int32)), .unset, .unset, .unset, .unset, .unset, .unset, .unset, .unset, .unset, .unset] [(.int 1), (.int (p4s &&& (7 : Int32)))]) t := fun t k => by
        show SF p e below s₁ (mkF m 21 #[iv p0s, iv p1s, iv p2s, iv p3s, iv p4s, iv p5s, iv (p4s &&& (7 : Int32)), .unset, .unset, .unset, .unset, .unset, .unset, .unset, .unset, .unset, .unset] [(.int 1), (.int (p4s &&& (7 : Int32)))]) _
        refine XS.icmpYes X0.here hx rfl (pc0 := 21) (pc' := 32) rfl (hb hby at_21) rfl (feq hc2).2 (by decide) (by decide) ?_
        show SF p e below s₁ (mkF m 32 #[iv p0s, iv p1s, iv p2s, iv p3s, iv p4s, iv p5s, iv (p4s &&& (7 : Int32)), .unset, .unset, .unset, .unset, .unset, .unset, .unset, .unset, .unset, .unset] []) _
        refine XS.iload X0.here hx rfl (hb hby at_32) rfl ?_
        show SF p e below s₁ (mkF m 34 #[iv p0s, iv p1s, iv p2s, iv p3s, iv p4s, iv p5s, iv (p4s &&& (7 : Int32)), .unset, .unset, .unset, .unset, .unset, .unset, .unset, .unset, .unset, .unset] [(.int (p4s &&& (7 : Int32)))]) _
        refine XS.iconst X0.here hx rfl (hb hby at_34) ?_
        exact k
      by_cases hc3 : (p4s &&& (7 : Int32)) = (2 : Int32)
      · refine FineW.pre (fun t k => pre0 _ (pre1 _ (pre2 _ (pre3 _ (?_))))) (pc_1 (dv7 := p2s) X0 hx hZ hw hby hml hown hre hlk e0 N0 Z0 O0 Sg0 )
        show SF p e below s₁ (mkF m 35 #[iv p0s, iv p1s, iv p2s, iv p3s, iv p4s, iv p5s, iv (p4s &&& (7 : Int32)), .unset, .unset, .unset, .unset, .unset, .unset, .unset, .unset, .unset, .unset] [(.int 2), (.int (p4s &&& (7 : Int32)))]) _
        refine XS.icmpNo X0.here hx rfl (hb hby at_35) rfl (teq hc3).2 ?_
        show SF p e below s₁ (mkF m 38 #[iv p0s, iv p1s, iv p2s, iv p3s, iv p4s, iv p5s, iv (p4s &&& (7 : Int32)), .unset, .unset, .unset, .unset, .unset, .unset, .unset, .unset, .unset, .unset] []) _
        refine XS.iloadN X0.here hx rfl (hb hby at_38) rfl ?_
        show SF p e below s₁ (mkF m 39 #[iv p0s, iv p1s, iv p2s, iv p3s, iv p4s, iv p5s, iv (p4s &&& (7 : Int32)), .unset, .unset, .unset, .unset, .unset, .unset, .unset, .unset, .unset, .unset] [(.int p2s)]) _
        refine XS.istore X0.here hx rfl (hb hby at_39) rfl (l' := #[iv p0s, iv p1s, iv p2s, iv p3s, iv p4s, iv p5s, iv (p4s &&& (7 : Int32)), iv p2s, .unset, .unset, .unset, .unset, .unset, .unset, .unset, .unset, .unset]) rfl ?_
        show SF p e below s₁ (mkF m 41 #[iv p0s, iv p1s, iv p2s, iv p3s, iv p4s, iv p5s, iv (p4s &&& (7 : Int32)), iv p2s, .unset, .unset, .unset, .unset, .unset, .unset, .unset, .unset, .unset] []) _
        refine XS.goto X0.here hx rfl (pc0 := 41) (pc' := 61) rfl (hb hby at_41) (by decide) (by decide) ?_
        exact k
      · have pre4 : ∀ t, SF p e below s₁ (mkF m 47 #[iv p0s, iv p1s, iv p2s, iv p3s, iv p4s, iv p5s, iv (p4s &&& (7 : Int32)), .unset, .unset, .unset, .unset, .unset, .unset, .unset, .unset, .unset, .unset] [(.int 3), (.int (p4s &&& (7 : Int32)))]) t → SF p e below s₁ (mkF m 35 #[iv p0s, iv p1s, iv p2s, iv p3s, iv p4s, iv p5s, iv (p4s &&& (7 : Int32)), .unset, .unset, .unset, .unset, .unset, .unset, .unset, .unset, .unset, .unset] [(.int 2), (.int (p4s &&& (7 : Int32)))]) t := fun t k => by
          show SF p e below s₁ (mkF m 35 #[iv p0s, iv p1s, iv p2s, iv p3s, iv p4s, iv p5s, iv (p4s &&& (7 : Int32)), .unset, .unset, .unset, .unset, .unset, .unset, .unset, .unset, .unset, .unset] [(.int 2), (.int (p4s &&& (7 : Int32)))]) _
          refine XS.icmpYes X0.here hx rfl (pc0 := 35) (pc' := 44) rfl (hb hby at_35) rfl (feq hc3).2 (by decide) (by decide) ?_
          show SF p e below s₁ (mkF m 44 #[iv p0s, iv p1s, iv p2s, iv p3s, iv p4s, iv p5s, iv (p4s &&& (7 : Int32)), .unset, .unset, .unset, .unset, .unset, .unset, .unset, .unset, .unset, .unset] []) _
          refine XS.iload X0.here hx rfl (hb hby at_44) rfl ?_
          show SF p e below s₁ (mkF m 46 #[iv p0s, iv p1s, iv p2s, iv p3s, iv p4s, iv p5s, iv (p4s &&& (7 : Int32)), .unset, .unset, .unset, .unset, .unset, .unset, .unset, .unset, .unset, .unset] [(.int (p4s &&& (7 : Int32)))]) _
          refine XS.iconst X0.here hx rfl (hb hby at_46) ?_
          exact k
        by_cases hc4 : (p4s &&& (7 : Int32)) = (3 : Int32)
        · refine FineW.pre (fun t k => pre0 _ (pre1 _ (pre2 _ (pre3 _ (pre4 _ (?_)))))) (pc_1 (dv7 := (p2s - (1 : Int32))) X0 hx hZ hw hby hml hown hre hlk e0 N0 Z0 O0 Sg0 )
          show SF p e below s₁ (mkF m 47 #[iv p0s, iv p1s, iv p2s, iv p3s, iv p4s, iv p5s, iv (p4s &&& (7 : Int32)), .unset, .unset, .unset, .unset, .unset, .unset, .unset, .unset, .unset, .unset] [(.int 3), (.int (p4s &&& (7 : Int32)))]) _
          refine XS.icmpNo X0.here hx rfl (hb hby at_47) rfl (teq hc4).2 ?_
          show SF p e below s₁ (mkF m 50 #[iv p0s, iv p1s, iv p2s, iv p3s, iv p4s, iv p5s, iv (p4s &&& (7 : Int32)), .unset, .unset, .unset, .unset, .unset, .unset, .unset, .unset, .unset, .unset] []) _
          refine XS.iloadN X0.here hx rfl (hb hby at_50) rfl ?_
          show SF p e below s₁ (mkF m 51 #[iv p0s, iv p1s, iv p2s, iv p3s, iv p4s, iv p5s, iv (p4s &&& (7 : Int32)), .unset, .unset, .unset, .unset, .unset, .unset, .unset, .unset, .unset, .unset] [(.int p2s)]) _
          refine XS.iconst X0.here hx rfl (hb hby at_51) ?_
          show SF p e below s₁ (mkF m 52 #[iv p0s, iv p1s, iv p2s, iv p3s, iv p4s, iv p5s, iv (p4s &&& (7 : Int32)), .unset, .unset, .unset, .unset, .unset, .unset, .unset, .unset, .unset, .unset] [(.int 1), (.int p2s)]) _
          refine XS.isub X0.here hx rfl (hb hby at_52) rfl ?_
          show SF p e below s₁ (mkF m 53 #[iv p0s, iv p1s, iv p2s, iv p3s, iv p4s, iv p5s, iv (p4s &&& (7 : Int32)), .unset, .unset, .unset, .unset, .unset, .unset, .unset, .unset, .unset, .unset] [(.int (p2s - (1 : Int32)))]) _
          refine XS.istore X0.here hx rfl (hb hby at_53) rfl (l' := #[iv p0s, iv p1s, iv p2s, iv p3s, iv p4s, iv p5s, iv (p4s &&& (7 : Int32)), iv (p2s - (1 : Int32)), .unset, .unset, .unset, .unset, .unset, .unset, .unset, .unset, .unset]) rfl ?_
          show SF p e below s₁ (mkF m 55 #[iv p0s, iv p1s, iv p2s, iv p3s, iv p4s, iv p5s, iv (p4s &&& (7 : Int32)), iv (p2s - (1 : Int32)), .unset, .unset, .unset, .unset, .unset, .unset, .unset, .unset, .unset] []) _
          refine XS.goto X0.here hx rfl (pc0 := 55) (pc' := 61) rfl (hb hby at_55) (by decide) (by decide) ?_
          exact k
        · refine FineW.pre (fun t k => pre0 _ (pre1 _ (pre2 _ (pre3 _ (pre4 _ (?_)))))) (pc_1 (dv7 := p3s) X0 hx hZ hw hby hml hown hre hlk e0 N0 Z0 O0 Sg0 )
          show SF p e below s₁ (mkF m 47 #[iv p0s, iv p1s, iv p2s, iv p3s, iv p4s, iv p5s, iv (p4s &&& (7 : Int32)), .unset, .unset, .unset, .unset, .unset, .unset, .unset, .unset, .unset, .unset] [(.int 3), (.int (p4s &&& (7 : Int32)))]) _
          refine XS.icmpYes X0.here hx rfl (pc0 := 47) (pc' := 58) rfl (hb hby at_47) rfl (feq hc4).2 (by decide) (by decide) ?_
          show SF p e below s₁ (mkF m 58 #[iv p0s, iv p1s, iv p2s, iv p3s, iv p4s, iv p5s, iv (p4s &&& (7 : Int32)), .unset, .unset, .unset, .unset, .unset, .unset, .unset, .unset, .unset, .unset] []) _
          refine XS.iloadN X0.here hx rfl (hb hby at_58) rfl ?_
          show SF p e below s₁ (mkF m 59 #[iv p0s, iv p1s, iv p2s, iv p3s, iv p4s, iv p5s, iv (p4s &&& (7 : Int32)), .unset, .unset, .unset, .unset, .unset, .unset, .unset, .unset, .unset, .unset] [(.int p3s)]) _
          refine XS.istore X0.here hx rfl (hb hby at_59) rfl (l' := #[iv p0s, iv p1s, iv p2s, iv p3s, iv p4s, iv p5s, iv (p4s &&& (7 : Int32)), iv p3s, .unset, .unset, .unset, .unset, .unset, .unset, .unset, .unset, .unset]) rfl ?_
          exact k
set_option maxRecDepth 65536 in
set_option maxHeartbeats 40000000 in
theorem comes_1 {Post : Tables → Env → Array Value → State → Outcome → State → Prop} (hpost : ∀ tb e args s v u, (limb_1_1.after args s (.returned v) u = true ∧ limb_1_2.after args s (.returned v) u = true ∧ True) → ReturnedEndW s (.returned v) u (Jvm.fieldLocs frame_1_writes args s ++ Jvm.arrayLocs frame_1_arrays args s ++ Jvm.staticLocs frame_1_statics s) 16 1152 → Post tb e args s (.returned v) u) :
    ArmFor flags0 classFile x code maxLocals ret World_1 tables_1 room_1 Calls_1 rest_1 Pre_1 Post := by
  intro l hfl _ _ p e ha hc hk s m args below hf hA hF happ hP
  obtain ⟨hcalls, hrest, hpre⟩ := hP
  obtain ⟨-, -, -, hnamed, -, -, -, hat⟩ := (Spec.applies_iff hf).mp happ
  obtain ⟨hg, hn⟩ := and_e (Cond.before_iff.mp (show (Jvm.Cond.and given_1 narrow_1).before args s = true from hpre))
  obtain ⟨gv0, gr0⟩ := and_e hg
  obtain ⟨gv1, gr1⟩ := and_e gr0
  obtain ⟨gv2, gr2⟩ := and_e gr1
  obtain ⟨gv3, gr3⟩ := and_e gr2
  obtain ⟨gv4, gr4⟩ := and_e gr3
  obtain ⟨gv5, gr5⟩ := and_e gr4
  have gv6 := gr5
  obtain ⟨av0, av1, av2, av3, av4, av5, rfl⟩ : ∃ av0 av1 av2 av3 av4 av5 : Value, args = #[av0, av1, av2, av3, av4, av5] := by
    have hs : args.size = 6 := by simpa [Cond.value, given_1] using gv0
    obtain ⟨L⟩ := args
    match L, hs with
    | [av0, av1, av2, av3, av4, av5], _ => exact ⟨av0, av1, av2, av3, av4, av5, rfl⟩
  have hw := fun d (hd : d ∈ tables_1) => atoms_spec (ws := Jvm.Cond.code x code maxLocals ret :: tables_1) hat d (List.mem_cons_of_mem _ hd)
  have hfit : Fit s := fun {y c} hc i hi => by
    obtain ⟨ha, rfl⟩ := Array.getElem?_eq_some_iff.mp hc
    have q := List.all_eq_true.mp ((Array.all_eq_true_iff_forall_mem.mp hF) _ (Array.getElem_mem ha)) i (List.mem_range.mpr hi)
    simpa [Array.getElem?_eq_getElem hi] using q
  obtain ⟨p0s, ei0⟩ := is_v gv1
  obtain rfl : av0 = (.int p0s) := Option.some.inj ei0
  obtain ⟨p1s, ei1⟩ := is_v gv2
  obtain rfl : av1 = (.int p1s) := Option.some.inj ei1
  obtain ⟨p2s, ei2⟩ := is_v gv3
  obtain rfl : av2 = (.int p2s) := Option.some.inj ei2
  obtain ⟨p3s, ei3⟩ := is_v gv4
  obtain rfl : av3 = (.int p3s) := Option.some.inj ei3
  obtain ⟨p4s, ei4⟩ := is_v gv5
  obtain rfl : av4 = (.int p4s) := Option.some.inj ei4
  obtain ⟨p5s, ei5⟩ := is_v gv6
  obtain rfl : av5 = (.int p5s) := Option.some.inj ei5
  obtain ⟨w1, ev_w1⟩ := exa_v hn
  have Sg0 : Sta s s.heap "com/example/clausewright/clausewright/Division$Kind" "SECTION" "Lcom/example/clausewright/clausewright/Division$Kind;" (.ref w1) := Sta.start ev_w1 (Or.inr ⟨(tw hw 24 rfl), (tw hw 25 rfl)⟩)
  have E_w1 : Exa s s.heap w1 "com/example/clausewright/clausewright/Division$Kind" := Exa.start ev_w1 hn
  have O0 := Old.start s
  obtain ⟨n, o, h1, h2, h3, _, L, rfl, ⟨rfl, N⟩, hq⟩ := rm0 l s _ hw tables_1 p0s p1s p2s p3s p4s p5s w1 s.heap s.heap.size (Nat.le_refl _) O0 Sg0 E_w1 p e ha hc hk s m _ below hf ((Spec.applies_iff_loose hf).mp happ).1 ⟨rfl, State.Warmed39.refl s, rfl⟩ trivial
  refine ⟨n, _, h1, h2, h3, hpost _ _ _ _ _ _ ⟨Cond.after_iff.mpr rfl, Cond.after_iff.mpr (eq_i res_at (Term.int_eval (1)) rfl), trivial⟩ ⟨hq.1, hq.2.1, hq.2.2.1, (hq.2.2.2.sift fun y hy => Or.inr (N y hy)).mono (by decide) (by decide)⟩⟩
theorem main_1_1 : Claimed_1_1 := comes_1 fun _ _ _ _ _ _ h hF => ⟨h.1, hF⟩
theorem main_1_2 : Claimed_1_2 := comes_1 fun _ _ _ _ _ _ h hF => ⟨h.2.1, hF⟩
end Jvm.Pilot.@@N@@
namespace Jvm.Pilot.@@N@@
open Jvm Jvm.ClassFile Sem Op Lib Jvm.Free Jvm.Stand Jvm.Pilot.@@N@@.Jvm.D
/-! MADE BY PROGRAM (witnessworld.py) out of the Statement's table words and the real class files: 19 classes; the members and pool entries that the words name. The judged class is class 1, her method 1. -/
namespace start1
open Jvm.ClassFile
def u (s : String) : CpInfo := .utf8 (stringToUtf16 s)
/-- a pool by its gaps: so many unusable entries, then the entry; so many at the end -/
def gap : Nat → List CpInfo → List CpInfo
  | 0, r => r
  | n + 1, r => .unusable :: gap n r
def poolList (es : List (Nat × CpInfo)) (last : Nat) : List CpInfo := es.foldr (fun e r => gap e.1 (e.2 :: r)) (gap last [])
def pool (es : List (Nat × CpInfo)) (last : Nat) : Array CpInfo := ⟨poolList es last⟩
def fileOf (pool : Array CpInfo) (this : Nat) (attrs : Array Attribute := #[]) (ms : Array MethodInfo := #[]) (fl : Nat := 33) (sup : Nat := 0) (ifs : Array Nat := #[]) (fds : Array FieldInfo := #[]) : ClassFile where
  minorVersion := 0
  majorVersion := 65
  constantPool := pool
  accessFlags := fl
  thisClass := this
  superClass := sup
  interfaces := ifs
  fields := fds
  methods := ms
  attributes := attrs
def plain (name : String) (sup : Option ClassId) : Class where
  name := name
  kind := .ordinary
  loader := none
  accessFlags := 33
  super := sup
  interfaces := #[]
  cf := none
  fields := #[]
  methods := #[]
  instanceTypes := #[]
  staticTypes := #[]
  resolved := #[]
  callSites := []
  init := .initialized
  statics := none
  mirror := none

def pool0 : Array CpInfo := pool [(5, u "<init>"), (0, u "()V"), (1, .class_ 10), (1, u "java/lang/Object")] 113

def k0c0 : Code := { maxStack := 0, maxLocals := 1, code := object_method_1_code, exceptionTable := #[], attributes := #[] }
def k0m0 : Method := { name := "<init>", desc := "()V", sig := { parameters := [], returnType := none }, accessFlags := 1, code := some k0c0 }
/-- java/lang/Object -/
def k0 : Class := { plain "java/lang/Object" none with
  accessFlags := 33
  interfaces := #[]
  cf := some (fileOf pool0 8 #[] #[{ accessFlags := 1, nameIndex := 5, descriptorIndex := 6, attributes := #[] }] 33 0 #[] #[])
  fields := #[]
  methods := #[k0m0]
  instanceTypes := #[]
  staticTypes := #[]
  resolved := Array.replicate 124 none
  statics := none }

def pool1 : Array CpInfo := pool [(2, .class_ 4), (1, u "java/lang/Object"), (0, u "<init>"), (0, u "()V"), (0, .class_ 8), (0, u "com/example/clausewright/clausewright/TableOfContentsReader$Table"), (0, .methodref 7 10), (0, .nameAndType 5 11), (0, u "(III)V"), (0, .class_ 13), (0, u "com/example/clausewright/clausewright/Start"), (0, .fieldref 15 16), (0, .class_ 17), (0, .nameAndType 18 19), (0, u "com/example/clausewright/clausewright/Division$Kind"), (0, u "SECTION"), (0, u "Lcom/example/clausewright/clausewright/Division$Kind;"), (0, .string 21), (0, u "1.1"), (0, .methodref 12 23), (0, .nameAndType 5 24), (0, u "(Lcom/example/clausewright/clausewright/Division$Kind;Ljava/lang/String;II)V"), (0, .methodref 7 26), (0, .nameAndType 27 28), (0, u "holds"), (0, u "(Lcom/example/clausewright/clausewright/Start;)Z"), (0, .class_ 30), (0, u "com/example/clausewright/clausewright/TableHoldsPinLaw"), (2, u "law"), (0, u "(IIIIII)Z")] 10

def k1m0 : Method := { name := "<init>", desc := "()V", sig := { parameters := [], returnType := none }, accessFlags := 1, code := none }
def k1c1 : Code := { maxStack := 6, maxLocals := 17, code := code, exceptionTable := #[], attributes := #[] }
def k1m1 : Method := { name := "law", desc := "(IIIIII)Z", sig := { parameters := [.int, .int, .int, .int, .int, .int], returnType := some .boolean }, accessFlags := 9, code := some k1c1 }
/-- com/example/clausewright/clausewright/TableHoldsPinLaw -/
def k1 : Class := { plain "com/example/clausewright/clausewright/TableHoldsPinLaw" (some 0) with
  accessFlags := 49
  interfaces := #[]
  cf := some (fileOf pool1 29 #[] #[{ accessFlags := 1, nameIndex := 5, descriptorIndex := 6, attributes := #[] }, { accessFlags := 9, nameIndex := 33, descriptorIndex := 34, attributes := #[] }] 49 2 #[] #[])
  fields := #[]
  methods := #[k1m0, k1m1]
  instanceTypes := #[]
  staticTypes := #[]
  resolved := Array.replicate 45 none
  statics := none }

def pool2 : Array CpInfo := pool [(1, .methodref 2 3), (0, .class_ 4), (0, .nameAndType 5 6), (0, u "java/lang/Object"), (0, u "<init>"), (0, u "()V"), (0, .class_ 8), (0, u "java/lang/Record")] 13

def k2c0 : Code := { maxStack := 1, maxLocals := 1, code := jdk_30_method_1_code, exceptionTable := #[], attributes := #[] }
def k2m0 : Method := { name := "<init>", desc := "()V", sig := { parameters := [], returnType := none }, accessFlags := 4, code := some k2c0 }
/-- java/lang/Record -/
def k2 : Class := { plain "java/lang/Record" (some 0) with
  accessFlags := 1057
  interfaces := #[]
  cf := some (fileOf pool2 7 #[] #[{ accessFlags := 4, nameIndex := 5, descriptorIndex := 6, attributes := #[] }] 1057 2 #[] #[])
  fields := #[]
  methods := #[k2m0]
  instanceTypes := #[]
  staticTypes := #[]
  resolved := Array.replicate 22 none
  statics := none }

def pool3 : Array CpInfo := pool [(1, .methodref 2 3), (0, .class_ 4), (0, .nameAndType 5 6), (0, u "java/lang/Record"), (0, u "<init>"), (0, u "()V"), (0, .fieldref 8 9), (0, .class_ 10), (0, .nameAndType 11 12), (0, u "com/example/clausewright/clausewright/TableOfContentsReader$Table"), (0, u "title"), (0, u "I"), (0, .fieldref 8 14), (0, .nameAndType 15 12), (0, u "firstEntry"), (0, .fieldref 8 17), (0, .nameAndType 18 12), (0, u "end"), (0, .methodref 20 21), (0, .class_ 22), (0, .nameAndType 23 24), (0, u "com/example/clausewright/clausewright/Start"), (0, u "offset"), (0, u "()I"), (12, u "(III)V"), (3, u "holds"), (0, u "(Lcom/example/clausewright/clausewright/Start;)Z"), (6, .class_ 50), (0, u "com/example/clausewright/clausewright/TableOfContentsReader")] 21

def k3c0 : Code := { maxStack := 2, maxLocals := 4, code := prog_72_method_1_code, exceptionTable := #[], attributes := #[] }
def k3m0 : Method := { name := "<init>", desc := "(III)V", sig := { parameters := [.int, .int, .int], returnType := none }, accessFlags := 0, code := some k3c0 }
def k3c1 : Code := { maxStack := 2, maxLocals := 2, code := prog_72_method_2_code, exceptionTable := #[], attributes := #[] }
def k3m1 : Method := { name := "holds", desc := "(Lcom/example/clausewright/clausewright/Start;)Z", sig := { parameters := [(.object "com/example/clausewright/clausewright/Start")], returnType := some .boolean }, accessFlags := 0, code := some k3c1 }
/-- com/example/clausewright/clausewright/TableOfContentsReader$Table -/
def k3 : Class := { plain "com/example/clausewright/clausewright/TableOfContentsReader$Table" (some 2) with
  accessFlags := 48
  interfaces := #[]
  cf := some (fileOf pool3 8 #[.nestHost 49] #[{ accessFlags := 0, nameIndex := 5, descriptorIndex := 37, attributes := #[] }, { accessFlags := 0, nameIndex := 41, descriptorIndex := 42, attributes := #[] }] 48 2 #[] #[{ accessFlags := 18, nameIndex := 11, descriptorIndex := 12, attributes := #[] }, { accessFlags := 18, nameIndex := 15, descriptorIndex := 12, attributes := #[] }, { accessFlags := 18, nameIndex := 18, descriptorIndex := 12, attributes := #[] }])
  fields := #[{ name := "title", type := .int, accessFlags := 18, slot := 0, constantValue := 0 }, { name := "firstEntry", type := .int, accessFlags := 18, slot := 1, constantValue := 0 }, { name := "end", type := .int, accessFlags := 18, slot := 2, constantValue := 0 }]
  methods := #[k3m0, k3m1]
  instanceTypes := #[.int, .int, .int]
  staticTypes := #[]
  resolved := Array.replicate 72 none
  statics := none }

def pool4 : Array CpInfo := pool [(1, .class_ 2), (0, u "com/example/clausewright/clausewright/Located"), (0, .class_ 4), (0, u "java/lang/Object")] 4

/-- com/example/clausewright/clausewright/Located -/
def k4 : Class := { plain "com/example/clausewright/clausewright/Located" (some 0) with
  accessFlags := 1536
  interfaces := #[]
  cf := some (fileOf pool4 1 #[] #[] 1536 3 #[] #[])
  fields := #[]
  methods := #[]
  instanceTypes := #[]
  staticTypes := #[]
  resolved := Array.replicate 9 none
  statics := none }

def pool5 : Array CpInfo := pool [(1, .methodref 2 3), (0, .class_ 4), (0, .nameAndType 5 6), (0, u "java/lang/Record"), (0, u "<init>"), (0, u "()V"), (0, .fieldref 8 9), (0, .class_ 10), (0, .nameAndType 11 12), (0, u "com/example/clausewright/clausewright/Start"), (0, u "kind"), (0, u "Lcom/example/clausewright/clausewright/Division$Kind;"), (0, .fieldref 8 14), (0, .nameAndType 15 16), (0, u "number"), (0, u "Ljava/lang/String;"), (0, .fieldref 8 18), (0, .nameAndType 19 20), (0, u "offset"), (0, u "I"), (0, .fieldref 8 22), (0, .nameAndType 23 20), (0, u "headingStart"), (35, u "(Lcom/example/clausewright/clausewright/Division$Kind;Ljava/lang/String;II)V"), (67, u "()I"), (28, .class_ 157), (0, u "com/example/clausewright/clausewright/Located")] 69

def k5c0 : Code := { maxStack := 2, maxLocals := 5, code := prog_53_method_1_code, exceptionTable := #[], attributes := #[] }
def k5m0 : Method := { name := "<init>", desc := "(Lcom/example/clausewright/clausewright/Division$Kind;Ljava/lang/String;II)V", sig := { parameters := [(.object "com/example/clausewright/clausewright/Division$Kind"), (.object "java/lang/String"), .int, .int], returnType := none }, accessFlags := 0, code := some k5c0 }
def k5c1 : Code := { maxStack := 1, maxLocals := 1, code := prog_53_method_17_code, exceptionTable := #[], attributes := #[] }
def k5m1 : Method := { name := "offset", desc := "()I", sig := { parameters := [], returnType := some .int }, accessFlags := 1, code := some k5c1 }
/-- com/example/clausewright/clausewright/Start -/
def k5 : Class := { plain "com/example/clausewright/clausewright/Start" (some 2) with
  accessFlags := 48
  interfaces := #[4]
  cf := some (fileOf pool5 8 #[] #[{ accessFlags := 0, nameIndex := 5, descriptorIndex := 59, attributes := #[] }, { accessFlags := 1, nameIndex := 19, descriptorIndex := 127, attributes := #[] }] 48 2 #[156] #[{ accessFlags := 18, nameIndex := 11, descriptorIndex := 12, attributes := #[] }, { accessFlags := 18, nameIndex := 15, descriptorIndex := 16, attributes := #[] }, { accessFlags := 18, nameIndex := 19, descriptorIndex := 20, attributes := #[] }, { accessFlags := 18, nameIndex := 23, descriptorIndex := 20, attributes := #[] }])
  fields := #[{ name := "kind", type := (.object "com/example/clausewright/clausewright/Division$Kind"), accessFlags := 18, slot := 0, constantValue := 0 }, { name := "number", type := (.object "java/lang/String"), accessFlags := 18, slot := 1, constantValue := 0 }, { name := "offset", type := .int, accessFlags := 18, slot := 2, constantValue := 0 }, { name := "headingStart", type := .int, accessFlags := 18, slot := 3, constantValue := 0 }]
  methods := #[k5m0, k5m1]
  instanceTypes := #[(.object "com/example/clausewright/clausewright/Division$Kind"), (.object "java/lang/String"), .int, .int]
  staticTypes := #[]
  resolved := Array.replicate 227 none
  statics := none }

def pool6 : Array CpInfo := pool [(1, .class_ 2), (0, u "java/lang/constant/Constable"), (0, .class_ 4), (0, u "java/lang/Object")] 6

/-- java/lang/constant/Constable -/
def k6 : Class := { plain "java/lang/constant/Constable" (some 0) with
  accessFlags := 1537
  interfaces := #[]
  cf := some (fileOf pool6 1 #[] #[] 1537 3 #[] #[])
  fields := #[]
  methods := #[]
  instanceTypes := #[]
  staticTypes := #[]
  resolved := Array.replicate 11 none
  statics := none }

def pool7 : Array CpInfo := pool [(1, .class_ 2), (0, u "java/lang/Comparable"), (0, .class_ 4), (0, u "java/lang/Object")] 7

/-- java/lang/Comparable -/
def k7 : Class := { plain "java/lang/Comparable" (some 0) with
  accessFlags := 1537
  interfaces := #[]
  cf := some (fileOf pool7 1 #[] #[] 1537 3 #[] #[])
  fields := #[]
  methods := #[]
  instanceTypes := #[]
  staticTypes := #[]
  resolved := Array.replicate 12 none
  statics := none }

def pool8 : Array CpInfo := pool [(1, .class_ 2), (0, u "java/io/Serializable"), (0, .class_ 4), (0, u "java/lang/Object")] 2

/-- java/io/Serializable -/
def k8 : Class := { plain "java/io/Serializable" (some 0) with
  accessFlags := 1537
  interfaces := #[]
  cf := some (fileOf pool8 1 #[] #[] 1537 3 #[] #[])
  fields := #[]
  methods := #[]
  instanceTypes := #[]
  staticTypes := #[]
  resolved := Array.replicate 7 none
  statics := none }

def pool9 : Array CpInfo := pool [(2, .class_ 4), (1, u "java/lang/Enum"), (0, u "name"), (0, u "Ljava/lang/String;"), (2, u "ordinal"), (0, u "I"), (1, .class_ 14), (1, u "java/lang/Object"), (4, u "hash"), (86, .class_ 108), (1, u "java/lang/Enum$EnumDesc"), (2, .class_ 112), (0, u "java/lang/constant/Constable"), (0, .class_ 114), (0, u "java/lang/Comparable"), (0, .class_ 116), (0, u "java/io/Serializable")] 87

/-- java/lang/Enum -/
def k9 : Class := { plain "java/lang/Enum" (some 0) with
  accessFlags := 1057
  interfaces := #[6, 7, 8]
  cf := some (fileOf pool9 2 #[.nestMembers #[106]] #[] 1057 12 #[111, 113, 115] #[{ accessFlags := 18, nameIndex := 5, descriptorIndex := 6, attributes := #[] }, { accessFlags := 18, nameIndex := 9, descriptorIndex := 10, attributes := #[] }, { accessFlags := 2, nameIndex := 19, descriptorIndex := 10, attributes := #[] }])
  fields := #[{ name := "name", type := (.object "java/lang/String"), accessFlags := 18, slot := 0, constantValue := 0 }, { name := "ordinal", type := .int, accessFlags := 18, slot := 1, constantValue := 0 }, { name := "hash", type := .int, accessFlags := 2, slot := 2, constantValue := 0 }]
  methods := #[]
  instanceTypes := #[(.object "java/lang/String"), .int, .int]
  staticTypes := #[]
  resolved := Array.replicate 204 none
  statics := none }

def pool10 : Array CpInfo := pool [(1, .class_ 2), (0, u "com/example/clausewright/clausewright/Division$Kind"), (2, u "ARTICLE"), (0, u "Lcom/example/clausewright/clausewright/Division$Kind;"), (2, u "SECTION"), (2, u "EXHIBIT"), (2, u "$VALUES"), (0, u "[Lcom/example/clausewright/clausewright/Division$Kind;"), (6, .class_ 25), (1, u "java/lang/Enum"), (26, .class_ 53), (0, u "com/example/clausewright/clausewright/Division")] 2

/-- com/example/clausewright/clausewright/Division$Kind -/
def k10 : Class := { plain "com/example/clausewright/clausewright/Division$Kind" (some 9) with
  accessFlags := 16433
  interfaces := #[]
  cf := some (fileOf pool10 1 #[.nestHost 52] #[] 16433 23 #[] #[{ accessFlags := 16409, nameIndex := 5, descriptorIndex := 6, attributes := #[] }, { accessFlags := 16409, nameIndex := 9, descriptorIndex := 6, attributes := #[] }, { accessFlags := 16409, nameIndex := 12, descriptorIndex := 6, attributes := #[] }, { accessFlags := 4122, nameIndex := 15, descriptorIndex := 16, attributes := #[] }])
  fields := #[{ name := "ARTICLE", type := (.object "com/example/clausewright/clausewright/Division$Kind"), accessFlags := 16409, slot := 0, constantValue := 0 }, { name := "SECTION", type := (.object "com/example/clausewright/clausewright/Division$Kind"), accessFlags := 16409, slot := 1, constantValue := 0 }, { name := "EXHIBIT", type := (.object "com/example/clausewright/clausewright/Division$Kind"), accessFlags := 16409, slot := 2, constantValue := 0 }, { name := "$VALUES", type := (.array (.object "com/example/clausewright/clausewright/Division$Kind")), accessFlags := 4122, slot := 3, constantValue := 0 }]
  methods := #[]
  instanceTypes := #[(.object "java/lang/String"), .int, .int]
  staticTypes := #[(.object "com/example/clausewright/clausewright/Division$Kind"), (.object "com/example/clausewright/clausewright/Division$Kind"), (.object "com/example/clausewright/clausewright/Division$Kind"), (.array (.object "com/example/clausewright/clausewright/Division$Kind"))]
  resolved := Array.replicate 56 none
  statics := some 0 }

def pool11 : Array CpInfo := pool [(2, .class_ 4), (1, u "java/lang/CharSequence"), (42, .class_ 48), (0, u "java/lang/CharSequence$1CodePointIterator"), (10, .class_ 60), (0, u "java/lang/CharSequence$1CharIterator"), (5, .class_ 67), (0, u "java/lang/Object")] 63

/-- java/lang/CharSequence -/
def k11 : Class := { plain "java/lang/CharSequence" (some 0) with
  accessFlags := 1537
  interfaces := #[]
  cf := some (fileOf pool11 2 #[.nestMembers #[47, 59]] #[] 1537 66 #[] #[])
  fields := #[]
  methods := #[]
  instanceTypes := #[]
  staticTypes := #[]
  resolved := Array.replicate 131 none
  statics := none }

def pool12 : Array CpInfo := pool [(1, .class_ 2), (0, u "java/lang/constant/ConstantDesc"), (0, .class_ 4), (0, u "java/lang/Object")] 32

/-- java/lang/constant/ConstantDesc -/
def k12 : Class := { plain "java/lang/constant/ConstantDesc" (some 0) with
  accessFlags := 1537
  interfaces := #[]
  cf := some (fileOf pool12 1 #[] #[] 1537 3 #[] #[])
  fields := #[]
  methods := #[]
  instanceTypes := #[]
  staticTypes := #[]
  resolved := Array.replicate 37 none
  statics := none }

def pool13 : Array CpInfo := pool [(2, .class_ 4), (1, u "java/lang/Object"), (0, u "<init>"), (0, u "()V"), (3, .class_ 12), (1, u "java/lang/String"), (0, u "value"), (0, u "[B"), (2, u "coder"), (0, u "B"), (2, u "hash"), (0, u "I"), (2, u "hashIsZero"), (0, u "Z"), (13, u "COMPACT_STRINGS"), (534, .class_ 576), (0, u "java/lang/CharSequence"), (22, u "CASE_INSENSITIVE_ORDER"), (0, u "Ljava/util/Comparator;"), (500, u "serialPersistentFields"), (0, u "[Ljava/io/ObjectStreamField;"), (0, .class_ 1104), (0, u "java/lang/String$CaseInsensitiveComparator"), (1, .class_ 1107), (0, u "java/io/Serializable"), (0, .class_ 1109), (0, u "java/lang/Comparable"), (0, .class_ 1111), (0, u "java/lang/constant/Constable"), (0, .class_ 1113), (0, u "java/lang/constant/ConstantDesc"), (2, u "serialVersionUID"), (0, u "J"), (3, u "REPL"), (0, u "C"), (2, u "LATIN1"), (1, u "UTF16")] 323

def k13m0 : Method := { name := "<init>", desc := "()V", sig := { parameters := [], returnType := none }, accessFlags := 1, code := none }
/-- java/lang/String -/
def k13 : Class := { plain "java/lang/String" (some 0) with
  accessFlags := 49
  interfaces := #[8, 7, 11, 6, 12]
  cf := some (fileOf pool13 10 #[.nestMembers #[1103]] #[{ accessFlags := 1, nameIndex := 5, descriptorIndex := 6, attributes := #[] }] 49 2 #[1106, 1108, 575, 1110, 1112] #[{ accessFlags := 18, nameIndex := 13, descriptorIndex := 14, attributes := #[] }, { accessFlags := 18, nameIndex := 17, descriptorIndex := 18, attributes := #[] }, { accessFlags := 2, nameIndex := 21, descriptorIndex := 22, attributes := #[] }, { accessFlags := 2, nameIndex := 25, descriptorIndex := 26, attributes := #[] }, { accessFlags := 26, nameIndex := 1116, descriptorIndex := 1117, attributes := #[] }, { accessFlags := 24, nameIndex := 40, descriptorIndex := 26, attributes := #[] }, { accessFlags := 26, nameIndex := 1101, descriptorIndex := 1102, attributes := #[] }, { accessFlags := 26, nameIndex := 1121, descriptorIndex := 1122, attributes := #[] }, { accessFlags := 25, nameIndex := 599, descriptorIndex := 600, attributes := #[] }, { accessFlags := 24, nameIndex := 1125, descriptorIndex := 18, attributes := #[] }, { accessFlags := 24, nameIndex := 1127, descriptorIndex := 18, attributes := #[] }])
  fields := #[{ name := "value", type := (.array .byte), accessFlags := 18, slot := 0, constantValue := 0 }, { name := "coder", type := .byte, accessFlags := 18, slot := 1, constantValue := 0 }, { name := "hash", type := .int, accessFlags := 2, slot := 2, constantValue := 0 }, { name := "hashIsZero", type := .boolean, accessFlags := 2, slot := 3, constantValue := 0 }, { name := "serialVersionUID", type := .long, accessFlags := 26, slot := 0, constantValue := 0 }, { name := "COMPACT_STRINGS", type := .boolean, accessFlags := 24, slot := 1, constantValue := 0 }, { name := "serialPersistentFields", type := (.array (.object "java/io/ObjectStreamField")), accessFlags := 26, slot := 2, constantValue := 0 }, { name := "REPL", type := .char, accessFlags := 26, slot := 3, constantValue := 0 }, { name := "CASE_INSENSITIVE_ORDER", type := (.object "java/util/Comparator"), accessFlags := 25, slot := 4, constantValue := 0 }, { name := "LATIN1", type := .byte, accessFlags := 24, slot := 5, constantValue := 0 }, { name := "UTF16", type := .byte, accessFlags := 24, slot := 6, constantValue := 0 }]
  methods := #[k13m0]
  instanceTypes := #[(.array .byte), .byte, .int, .boolean]
  staticTypes := #[.long, .boolean, (.array (.object "java/io/ObjectStreamField")), .char, (.object "java/util/Comparator"), .byte, .byte]
  resolved := Array.replicate 1451 none
  statics := none }

def pool14 : Array CpInfo := pool [(1, u "java/lang/Cloneable"), (0, .class_ 1), (0, u "java/lang/Object"), (0, .class_ 3)] 3

/-- java/lang/Cloneable -/
def k14 : Class := { plain "java/lang/Cloneable" (some 0) with
  accessFlags := 1537
  interfaces := #[]
  cf := some (fileOf pool14 2 #[] #[] 1537 4 #[] #[])
  fields := #[]
  methods := #[]
  instanceTypes := #[]
  staticTypes := #[]
  resolved := Array.replicate 8 none
  statics := none }

/-- the primitive byte -/
def k15 : Class := { plain "byte" none with kind := .primitive 'B', accessFlags := 0x411 }
/-- [B -/
def k16 : Class := { plain "[B" (some 0) with kind := .array 15 .byte, interfaces := #[14, 8], accessFlags := 1041 }

/-- the primitive int -/
def k17 : Class := { plain "int" none with kind := .primitive 'I', accessFlags := 0x411 }
/-- [I -/
def k18 : Class := { plain "[I" (some 0) with kind := .array 17 .int, interfaces := #[14, 8], accessFlags := 1041 }

def heap : Heap := #[{ cls := 10, slots := #[.null, .ref 1, .null, .null], vm := .statics 10 },
  { cls := 10, slots := #[.null, .int 0, .int 0], vm := .none }]
def classes : Array Class := #[k0, k1, k2, k3, k4, k5, k6, k7, k8, k9, k10, k11, k12, k13, k14, k15, k16, k17, k18]
def interned : List (Array UInt16 × Addr) := []
def slotsUsed : Nat := 7
def theMethod : MethodId := ⟨1, 1⟩
def args0 : Array Value := #[.int 5, .int 6, .int 7, .int 8, .int 9, .int 10]
def aboutOver (below : List Frame) : State where
  vm := { classes := classes, interned := interned.toArray }
  heap := heap
  slotsUsed := slotsUsed
  threads := #[{ frames := .invoking theMethod args0 :: below }]
def below0 : List Frame := [.native { method := ⟨0, 0⟩, args := #[] }]
def about1 : State := aboutOver below0
def p0 : Program := .bare "" "" ""
def e0 : Env := launch0.env 0 0 0
theorem w_frames : about1.frames = Frame.invoking theMethod args0 :: below0 := rfl
set_option maxRecDepth 65536 in
theorem w_args : argsFit about1.vm theMethod args0 = true := by decide +kernel
set_option maxRecDepth 65536 in
theorem w_heap : heapFits about1 = true := by decide +kernel
set_option maxRecDepth 65536 in
theorem w_runnable : about1.curStatus? = some .runnable := by decide +kernel
set_option maxRecDepth 65536 in
theorem w_alone : about1.alone = true := by decide +kernel
set_option maxRecDepth 65536 in
theorem w_named : about1.methodNamed? x = some theMethod := by decide +kernel
set_option maxRecDepth 65536 in
theorem w_hears : about1.hears theMethod below0 = true := by decide +kernel
set_option maxRecDepth 65536 in
theorem w_ripe : about1.ripe theMethod args0 below0 = true := by decide +kernel
theorem w_running : about1.status = .running := rfl
set_option maxRecDepth 65536 in
theorem w_room : about1.hasRoom e0.platform room_1 = true :=
  launch0.hasRoom_least _ room_1 (by decide +kernel) (by decide +kernel) (by decide +kernel) (by decide +kernel) (by decide +kernel) (by decide +kernel)
theorem allAtoms_all (ts : List Jvm.Cond) (a : Array Jvm.Value) (st : Jvm.State) : (allAtoms ts).before a st = ts.all (fun c => c.before a st) := by
  induction ts with
  | nil => rfl
  | cons c t ih =>
    show (Jvm.Cond.and c (allAtoms t)).before a st = _
    rw [Jvm.Cond.before_and, ih, List.all_cons]
def words1 : List Jvm.Cond := Jvm.Cond.code x code maxLocals ret :: tables_1
/-- a 'code' word, met by the world's own term for the bytes: nothing is compared byte by byte -/
theorem code_word {y : MethodName} {bytes : ByteArray} {mx : Nat} {rt : Option FieldType} {a : Array Value} {s : State} {m : MethodId} {meth : Method} {c : Code} (h1 : s.methodNamed? y = some m) (h2 : s.vm.method? m = some meth) (h3 : meth.code = some c) (h4 : c.code = bytes)
    (h5 : (c.maxLocals == mx && c.exceptionTable.isEmpty && decide (c.maxStack ≤ mostOperands) && decide (meth.sig.returnType = rt) && !meth.locks && decide (parseMethodDescriptor y.desc = some meth.sig)) = true) : (Jvm.Cond.code y bytes mx rt).before a s = true := by
  simp only [Bool.and_eq_true, beq_iff_eq, Bool.not_eq_true', decide_eq_true_eq] at h5
  obtain ⟨⟨⟨⟨⟨g1, g2⟩, g3⟩, g4⟩, g5⟩, g6⟩ := h5
  simp [Cond.before, Cond.holds, Cond.value, h1, h2, h3, h4, g1, g2, g3, g4, g5, g6]
def isCode : Jvm.Cond → Bool
  | .code _ _ _ _ => true
  | _ => false
theorem all_split {L : List Jvm.Cond} {P : Jvm.Cond → Bool} (h1 : L.all (fun c => isCode c || P c) = true) (h2 : ∀ c ∈ L.filter isCode, P c = true) : L.all P = true := by
  refine List.all_eq_true.mpr fun c hc => ?_
  have h := List.all_eq_true.mp h1 c hc
  rcases Bool.eq_false_or_eq_true (isCode c) with hi | hi
  · exact h2 c (List.mem_filter.mpr ⟨hc, hi⟩)
  · simpa [hi] using h
set_option maxRecDepth 65536 in
theorem w_c0 : (Jvm.Cond.code x code maxLocals ret).before args0 about1 = true := code_word (m := ⟨1, 1⟩) (meth := k1m1) (c := k1c1) (by decide +kernel) rfl rfl rfl (by decide +kernel)
set_option maxRecDepth 65536 in
theorem w_c1 : (Jvm.Cond.code ({ cls := "com/example/clausewright/clausewright/TableOfContentsReader$Table", name := "<init>", desc := "(III)V" } : Jvm.MethodName) prog_72_method_1_code (4 : Nat) (Option.none : Option Jvm.ClassFile.FieldType)).before args0 about1 = true := code_word (m := ⟨3, 0⟩) (meth := k3m0) (c := k3c0) (by decide +kernel) rfl rfl rfl (by decide +kernel)
set_option maxRecDepth 65536 in
theorem w_c2 : (Jvm.Cond.code ({ cls := "java/lang/Record", name := "<init>", desc := "()V" } : Jvm.MethodName) jdk_30_method_1_code (1 : Nat) (Option.none : Option Jvm.ClassFile.FieldType)).before args0 about1 = true := code_word (m := ⟨2, 0⟩) (meth := k2m0) (c := k2c0) (by decide +kernel) rfl rfl rfl (by decide +kernel)
set_option maxRecDepth 65536 in
theorem w_c3 : (Jvm.Cond.code ({ cls := "java/lang/Object", name := "<init>", desc := "()V" } : Jvm.MethodName) object_method_1_code (1 : Nat) (Option.none : Option Jvm.ClassFile.FieldType)).before args0 about1 = true := code_word (m := ⟨0, 0⟩) (meth := k0m0) (c := k0c0) (by decide +kernel) rfl rfl rfl (by decide +kernel)
set_option maxRecDepth 65536 in
theorem w_c4 : (Jvm.Cond.code ({ cls := "com/example/clausewright/clausewright/Start", name := "<init>", desc := "(Lcom/example/clausewright/clausewright/Division$Kind;Ljava/lang/String;II)V" } : Jvm.MethodName) prog_53_method_1_code (5 : Nat) (Option.none : Option Jvm.ClassFile.FieldType)).before args0 about1 = true := code_word (m := ⟨5, 0⟩) (meth := k5m0) (c := k5c0) (by decide +kernel) rfl rfl rfl (by decide +kernel)
set_option maxRecDepth 65536 in
theorem w_c5 : (Jvm.Cond.code ({ cls := "com/example/clausewright/clausewright/TableOfContentsReader$Table", name := "holds", desc := "(Lcom/example/clausewright/clausewright/Start;)Z" } : Jvm.MethodName) prog_72_method_2_code (2 : Nat) (Option.some Jvm.ClassFile.FieldType.boolean)).before args0 about1 = true := code_word (m := ⟨3, 1⟩) (meth := k3m1) (c := k3c1) (by decide +kernel) rfl rfl rfl (by decide +kernel)
set_option maxRecDepth 65536 in
theorem w_c6 : (Jvm.Cond.code ({ cls := "com/example/clausewright/clausewright/Start", name := "offset", desc := "()I" } : Jvm.MethodName) prog_53_method_17_code (1 : Nat) (Option.some Jvm.ClassFile.FieldType.int)).before args0 about1 = true := code_word (m := ⟨5, 1⟩) (meth := k5m1) (c := k5c1) (by decide +kernel) rfl rfl rfl (by decide +kernel)
def codes1 : List Jvm.Cond := [Jvm.Cond.code x code maxLocals ret, Jvm.Cond.code ({ cls := "com/example/clausewright/clausewright/TableOfContentsReader$Table", name := "<init>", desc := "(III)V" } : Jvm.MethodName) prog_72_method_1_code (4 : Nat) (Option.none : Option Jvm.ClassFile.FieldType), Jvm.Cond.code ({ cls := "java/lang/Record", name := "<init>", desc := "()V" } : Jvm.MethodName) jdk_30_method_1_code (1 : Nat) (Option.none : Option Jvm.ClassFile.FieldType), Jvm.Cond.code ({ cls := "java/lang/Object", name := "<init>", desc := "()V" } : Jvm.MethodName) object_method_1_code (1 : Nat) (Option.none : Option Jvm.ClassFile.FieldType), Jvm.Cond.code ({ cls := "com/example/clausewright/clausewright/Start", name := "<init>", desc := "(Lcom/example/clausewright/clausewright/Division$Kind;Ljava/lang/String;II)V" } : Jvm.MethodName) prog_53_method_1_code (5 : Nat) (Option.none : Option Jvm.ClassFile.FieldType), Jvm.Cond.code ({ cls := "com/example/clausewright/clausewright/TableOfContentsReader$Table", name := "holds", desc := "(Lcom/example/clausewright/clausewright/Start;)Z" } : Jvm.MethodName) prog_72_method_2_code (2 : Nat) (Option.some Jvm.ClassFile.FieldType.boolean), Jvm.Cond.code ({ cls := "com/example/clausewright/clausewright/Start", name := "offset", desc := "()I" } : Jvm.MethodName) prog_53_method_17_code (1 : Nat) (Option.some Jvm.ClassFile.FieldType.int)]
set_option maxRecDepth 65536 in
theorem codes_eq : words1.filter isCode = codes1 := rfl
theorem w_codes : ∀ c ∈ words1.filter isCode, c.before args0 about1 = true := by
  rw [codes_eq]
  intro c hc
  simp only [codes1, List.mem_cons, List.not_mem_nil, or_false] at hc
  rcases hc with rfl | rfl | rfl | rfl | rfl | rfl | rfl
  · exact w_c0
  · exact w_c1
  · exact w_c2
  · exact w_c3
  · exact w_c4
  · exact w_c5
  · exact w_c6
set_option maxRecDepth 65536 in
theorem w_t1 : (words1.take 24).all (fun c => isCode c || c.before args0 about1) = true := by decide +kernel
set_option maxRecDepth 65536 in
theorem w_t2 : ((words1.drop 24).take 24).all (fun c => isCode c || c.before args0 about1) = true := by decide +kernel
set_option maxRecDepth 65536 in
theorem w_t3 : ((words1.drop 24).drop 24).all (fun c => isCode c || c.before args0 about1) = true := by decide +kernel
theorem w_tables : (allAtoms (Jvm.Cond.code x code maxLocals ret :: tables_1)).before args0 about1 = true := by
  rw [allAtoms_all]
  show words1.all (fun c => c.before args0 about1) = true
  refine all_split ?_ w_codes
  rw [← List.take_append_drop 24 words1, List.all_append, w_t1, ← List.take_append_drop 24 (words1.drop 24), List.all_append, w_t2, w_t3]
  rfl
set_option maxRecDepth 65536 in
theorem w_case : (Jvm.Cond.and given_1 narrow_1).before args0 about1 = true := by decide +kernel
theorem w_applies : (headSpec (Jvm.Cond.code x code maxLocals ret :: tables_1) room_1).applies x e0.platform about1 = true :=
  (Spec.applies_iff w_frames).mpr ⟨w_running, w_runnable, w_alone, w_named, w_hears, w_ripe, w_room, w_tables⟩
theorem atStart : AtStart classFile x code maxLocals ret World_1 tables_1 room_1 Calls_1 rest_1 Pre_1 launch0 p0 e0 about1 theMethod args0 below0 :=
  ⟨lists_1, trivial, launch0.admits_env _ _ _, launch0.least_env, fairChoices_fair.cas, fairChoices_fair.clock, w_frames, w_args, w_heap, w_applies, trivial, trivial, w_case⟩
end start1
theorem witness_1 : WitnessClaimed_1 := ⟨start1.p0, start1.e0, start1.about1, start1.theMethod, start1.args0, start1.below0, start1.atStart⟩
end Jvm.Pilot.@@N@@
